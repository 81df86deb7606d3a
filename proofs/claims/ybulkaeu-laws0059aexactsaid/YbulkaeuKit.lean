/-
  Seat b0059a: small laws: 'append(s[:0], x...)' onto a row of the call's own, from nil or from cells that lie anywhere, as one step of a region that draws.
-/
import Derived.Test.YbulkaeuRows
import Derived.WalkKit
import Derived.WalkLawsBesides
import Derived.Laws.EntriesVeiled
import Derived.Laws.Pointers
import Derived.Laws.AppendOwnNone
import Derived.Maps.AppendAt
import Derived.Deep.RegionHeld3
import Derived.Deep.AppendLies
namespace Go.Proofs.Ybulkaeu
open Go.RowKit

theorem hidI {p : Prop} (h : p) : Hid p := h

/-- what is appended: nothing (nil), or m cells that lie from an address on -/
def Src (w : World) (a : Option Addr) (m c : Nat) (news : List Value) : Prop :=
  news.length = m ∧ (∀ u ∈ news, u.oneCell' = true) ∧ ((a = none ∧ m = 0 ∧ c = 0) ∨ ∃ ad, a = some ad ∧ ∀ j u, news[j]? = some u → w.cell? (ad.add j) = some u)

theorem Src.drew {w : World} {a : Option Addr} {m c : Nat} {news : List Value} (h : Src w a m c news) : Src w.drew a m c news := h
theorem Src.far {w w' : World} {a : Option Addr} {m c : Nat} {news : List Value} (h : Src w a m c news) (hk : ∀ ad : Addr, a = some ad → 0 < m → w'.heap[ad.block]? = w.heap[ad.block]?) : Src w' a m c news := by
  obtain ⟨h1, h2, h3⟩ := h
  refine ⟨h1, h2, ?_⟩
  rcases h3 with h3 | ⟨ad, rfl, h3⟩
  · exact .inl h3
  · refine .inr ⟨ad, rfl, fun j u hj => ?_⟩
    have hm : 0 < m := by have := (List.getElem?_eq_some_iff.1 hj).1; omega
    have hb : (ad.add j).block = ad.block := by unfold Addr.add; split <;> simp_all
    have := hk ad rfl hm
    rw [World.cell?_of_block (w := w) (by rw [hb]; exact this)]
    exact h3 j u hj

/-- the block of a slice's array -/
def ob : Option Addr → Option Nat
  | some a => some a.block
  | none => none

theorem ownBlock_slice (a : Option Addr) (n c : Nat) : (Value.slice a n c).ownBlock = ob a := by cases a <;> rfl

theorem run_app {P : Program} (w : World) (t ty base : Nat) (e : TypeId) (i : TypeInfo) (z : Value) (bytes : Nat) (ht : P.underlying t = some (.slice e)) (hi : P.info? e = some i) (hz : i.zero = some z)
    (hsize : i.size = 1) (hby : i.bytes = bytes) (hzs : z.cells.size = 1) (aN : Option Addr) (cN : Nat) (hown : w.ownsRow base e 1 (.slice aN 0 cN) 0 [])
    (au : Option Addr) (m cu : Nat) (news : List Value) (hsrc : Src w au m cu news) (h63 : m ≤ maxLen) (hbytes : m * bytes ≤ 140737488355328) (hbase : base ≤ w.heap.size) :
    ∃ a' c' w', (Builtin.append_ #[t, t] ty #[.slice aN 0 cN, .slice au m cu]).run P w = .ok (.slice a' m c') w' ∧ w'.ownsRow base e 1 (.slice a' m c') m news ∧ w.grownBy w' (ob aN) ∧ (ob a' = ob aN ∨ ob a' = some w.heap.size) := by
  obtain ⟨hl, h1, h3⟩ := hsrc
  rcases h3 with ⟨rfl, rfl, rfl⟩ | ⟨ad, rfl, hc⟩
  · obtain rfl : news = [] := List.length_eq_zero_iff.1 hl
    exact ⟨aN, cN, w, run_append_owned_none (P := P) (w := w) base t ty e i 1 ht hi _ _ _ hown, hown, World.grownBy.refl _ _, .inl rfl⟩
  · obtain ⟨v', w', hr, h2, h3, _, h5⟩ := run_append_own_at (P := P) w base t ty e i z 1 bytes ht hi hz hsize hby hzs (by omega) _ 0 [] hown ad m cu news (by omega) hc h1 (by omega) (by rw [Nat.zero_add]; exact hbytes) hbase
    simp only [Nat.zero_add, List.nil_append, ownBlock_slice] at h2 h3 h5
    have hf : ∃ a' c', v' = .slice a' m c' := by
      rcases h2.2 with ⟨rfl, h0⟩ | ⟨g, cap, cur, rfl, _⟩
      · exact ⟨none, 0, by rw [h0]⟩
      · exact ⟨_, cap, rfl⟩
    obtain ⟨a', c', rfl⟩ := hf
    rw [ownBlock_slice] at h5
    exact ⟨a', c', w', hr, h2, h3, h5⟩

theorem step_app {P : Program} {ops : Array Oper} {o : Oper} {a : Act} {w : World} {K : Act → World → Prop} {Q : Exit → Act → World → Prop} {E : Prop}
    (hg : o.guard = none) (s x : Operand) (t : TypeId) (hop : o.op = Op.call { callee := Callee.builtin Builtin.append, args := #[s, x], argTypes := #[t, t] })
    (base : Nat) (e : TypeId) (i : TypeInfo) (z : Value) (bytes : Nat) (ht : P.underlying t = some (.slice e)) (hi : P.info? e = some i) (hz : i.zero = some z)
    (hsize : i.size = 1) (hby : i.bytes = bytes) (hzs : z.cells.size = 1) (aN : Option Addr) (cN : Nat) (hs : a.eval s = .slice aN 0 cN) (hown : w.ownsRow base e 1 (.slice aN 0 cN) 0 [])
    (au : Option Addr) (m cu : Nat) (news : List Value) (hx : a.eval x = .slice au m cu) (hsrc : Src w au m cu news) (h63 : m ≤ maxLen) (hbytes : m * bytes ≤ 140737488355328) (hbase : base ≤ w.heap.size)
    (hK : ∀ a' c' w', w'.ownsRow base e 1 (.slice a' m c') m news → w.grownBy w' (ob aN) → (ob a' = ob aN ∨ ob a' = some w.heap.size) → K (a.put o.dst (.slice a' m c')) w') :
    if Region.wanted o (yielded ops a.tmps) = true then Oper.wp P o a w K Q else E := by
  have hw : Region.wanted o (yielded ops a.tmps) = true := by simp [Region.wanted, hg]
  rw [if_pos hw]
  obtain ⟨a', c', w', hrun, h2, h3, h4⟩ := run_app (P := P) w t o.type base e i z bytes ht hi hz hsize hby hzs aN cN hown au m cu news hsrc h63 hbytes hbase
  unfold Oper.wp
  simp [execOp, hop, resolve, invoke, builtin, hs, hx, hrun, Result.andThen]
  exact hK _ _ _ h2 h3 h4

/-- 's[:0]' of whatever slice -/
theorem run_cut0 {P : Program} (t e : TypeId) (i : TypeInfo) (ht : P.underlying t = some (.slice e)) (hi : P.info? e = some i) (a : Option Addr) (n c : Nat) (W : World) :
    (Instr.slice t (.slice a n c) none (some (.int .i64 0)) none).run P W = .ok (.slice a 0 c) W := by
  have e0 : (a.map fun x => x.add 0) = a := by cases a <;> simp [Addr.add]
  simp [Instr.slice, run_underlying ht, sizeOf, typeInfo, hi, Instr.sliceBounds, Instr.sliceBound, asIntOf, e0]

end Go.Proofs.Ybulkaeu
