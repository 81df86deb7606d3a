/-
  Seat b0065aF: small laws: an append of cells that lie somewhere, onto a row of the call's own, as one step of a region that draws; rows of records.
-/
import Derived.Test.YbulkaiaFmtPlain
import Derived.Laws.AppendOwnNone
import Derived.Laws.OwnMore
import Derived.Laws.MakeOwn
import Derived.Maps.AppendAt
import Derived.Deep.RegionHeld3
set_option linter.unusedSimpArgs false
set_option linter.unusedVariables false
namespace Go.Proofs.YbulkaiaFmt
open Go.RowKit

theorem grown_of_below {w w' : World} (h : Below w.heap.size w w') (row : Option Nat) : w.grownBy w' row := ⟨h.os, h.tape, h.output, h.size, fun k hk _ => h.block k hk⟩

theorem run_app {P : Program} (w : World) (t ty base : Nat) (e : TypeId) (i : TypeInfo) (z : Value) (size bytes : Nat) (ht : P.underlying t = some (.slice e)) (hi : P.info? e = some i) (hz : i.zero = some z)
    (hsize : i.size = size) (hby : i.bytes = bytes) (hzs : z.cells.size = size) (hsz : 0 < size) (v : Value) (n : Nat) (xs : List Value) (hown : w.ownsRow base e size v n xs)
    (ad : Addr) (m cu : Nat) (news : List Value) (hl : news.length = m * size) (hc : ∀ j u, news[j]? = some u → w.cell? (ad.add j) = some u) (h1 : ∀ u ∈ news, u.oneCell' = true)
    (h63 : n + m ≤ maxLen) (hbytes : (n + m) * bytes ≤ 140737488355328) (hbase : base ≤ w.heap.size) :
    ∃ v' w', (Builtin.append_ #[t, t] ty #[v, .slice (some ad) m cu]).run P w = .ok v' w' ∧ w'.ownsRow base e size v' (n + m) (xs ++ news) ∧ w.grownBy w' v.ownBlock := by
  obtain ⟨v', w', hr, h2, h3, _, _⟩ := run_append_own_at (P := P) w base t ty e i z size bytes ht hi hz hsize hby hzs hsz v n xs hown ad m cu news hl hc h1 h63 hbytes hbase
  exact ⟨v', w', hr, h2, h3⟩

theorem step_app {P : Program} {ops : Array Oper} {o : Oper} {a : Act} {w : World} {K : Act → World → Prop} {Q : Exit → Act → World → Prop} {E : Prop}
    (hg : o.guard = none) (s x : Operand) (t : TypeId) (hop : o.op = Op.call { callee := Callee.builtin Builtin.append, args := #[s, x], argTypes := #[t, t] })
    (base : Nat) (e : TypeId) (i : TypeInfo) (z : Value) (size bytes : Nat) (ht : P.underlying t = some (.slice e)) (hi : P.info? e = some i) (hz : i.zero = some z)
    (hsize : i.size = size) (hby : i.bytes = bytes) (hzs : z.cells.size = size) (hsz : 0 < size) (v : Value) (n : Nat) (xs : List Value) (hs : a.eval s = v) (hown : w.ownsRow base e size v n xs)
    (ad : Addr) (m cu : Nat) (news : List Value) (hx : a.eval x = .slice (some ad) m cu) (hl : news.length = m * size) (hc : ∀ j u, news[j]? = some u → w.cell? (ad.add j) = some u) (h1 : ∀ u ∈ news, u.oneCell' = true)
    (h63 : n + m ≤ maxLen) (hbytes : (n + m) * bytes ≤ 140737488355328) (hbase : base ≤ w.heap.size)
    (hK : ∀ v' w', w'.ownsRow base e size v' (n + m) (xs ++ news) → w.grownBy w' v.ownBlock → K (a.put o.dst v') w') :
    if Region.wanted o (yielded ops a.tmps) = true then Oper.wp P o a w K Q else E := by
  have hw : Region.wanted o (yielded ops a.tmps) = true := by simp [Region.wanted, hg]
  rw [if_pos hw]
  obtain ⟨v', w', hrun, h2, h3⟩ := run_app (P := P) w t o.type base e i z size bytes ht hi hz hsize hby hzs hsz v n xs hown ad m cu news hl hc h1 h63 hbytes hbase
  unfold Oper.wp
  simp [execOp, hop, resolve, invoke, builtin, hs, hx, hrun, Result.andThen]
  exact hK _ _ h2 h3

theorem Ybaf.info33 : (Ybaf.prog.info? 33).map (fun i => (i.zero, i.size, i.bytes)) = some (some (.agg #[.string ⟨#[]⟩, .int .u16 0, .int .u16 0, .int .u32 0, .slice none 0 0]), 5, 48) := by kernel_rfl
theorem Ybaf.info31 : (Ybaf.prog.info? 31).map (fun i => (i.zero, i.size, i.bytes)) = some (some (.agg #[.string ⟨#[]⟩]), 1, 16) := by kernel_rfl
theorem Ybaf.info3 : (Ybaf.prog.info? 3).map (fun i => (i.zero, i.size, i.bytes)) = some (some (.int .i64 0), 1, 8) := by kernel_rfl

theorem info_parts {P : Program} {e : TypeId} {z : Value} {s b : Nat} (h : (P.info? e).map (fun i => (i.zero, i.size, i.bytes)) = some (some z, s, b)) :
    ∃ i, P.info? e = some i ∧ i.zero = some z ∧ i.size = s ∧ i.bytes = b := by
  cases hi : P.info? e with
  | none => simp [hi] at h
  | some i => simp [hi] at h; exact ⟨i, rfl, h.1, h.2.1, h.2.2⟩

/-- the argument's records -/
def RecsAt (w : World) (bb oo : Nat) (rs : List Pl.Rec) : Prop :=
  ∀ i r, rs[i]? = some r → r.ok ∧ w.cell? ⟨bb, oo + i * 5, none⟩ = some (.int .u8 (r.o : Int)) ∧ w.cell? ⟨bb, oo + i * 5 + 1, none⟩ = some (.int .u8 (r.t : Int)) ∧ w.cell? ⟨bb, oo + i * 5 + 2, none⟩ = some (.int .u8 (r.c : Int)) ∧
    w.cell? ⟨bb, oo + i * 5 + 3, none⟩ = some (.int .u8 (r.g : Int)) ∧ w.cell? ⟨bb, oo + i * 5 + 4, none⟩ = some (.bool r.bad)

def rrCells (r : Pl.Rec) (g : Nat) : List Value :=
  [nmS (r.o % 5), .int .u16 (Pl.typ r.t), .int .u16 (Pl.cls r.c), .int .u32 60, .slice (some ⟨g, 0, none⟩) (lenOf (r.g % 5) r.bad) (Pl.nm (r.g % 5)).length]

/-- the response's rows -/
def RRs (w : World) (rs : List Pl.Rec) (xs : List Value) : Prop :=
  xs.length = rs.length * 5 ∧ ∀ i r, rs[i]? = some r → ∃ g, WireAt w g (r.g % 5) ∧ ∀ j, j < 5 → xs[i * 5 + j]? = (rrCells r g)[j]?

theorem RRs.nil (w : World) : RRs w [] [] := ⟨rfl, by simp⟩
theorem RRs.snoc {w : World} {rs : List Pl.Rec} {xs : List Value} (h : RRs w rs xs) (r : Pl.Rec) (g : Nat) (hg : WireAt w g (r.g % 5)) : RRs w (rs ++ [r]) (xs ++ rrCells r g) := by
  refine ⟨by simp [h.1, rrCells]; omega, fun i r' hi => ?_⟩
  by_cases hlt : i < rs.length
  · rw [List.getElem?_append_left hlt] at hi
    obtain ⟨g', h1, h2⟩ := h.2 i r' hi
    refine ⟨g', h1, fun j hj => ?_⟩
    rw [List.getElem?_append_left (by rw [h.1]; omega)]
    exact h2 j hj
  · have hie : i = rs.length := by
      have := (List.getElem?_eq_some_iff.1 hi).1
      simp at this; omega
    subst hie
    simp at hi
    subst hi
    refine ⟨g, hg, fun j hj => ?_⟩
    rw [List.getElem?_append_right (by rw [h.1]; omega), h.1]
    congr 1
    omega
theorem RRs.far {w w' : World} {rs : List Pl.Rec} {xs : List Value} (h : RRs w rs xs) (hk : ∀ g r, WireAt w g r → WireAt w' g r) : RRs w' rs xs :=
  ⟨h.1, fun i r hi => by obtain ⟨g, h1, h2⟩ := h.2 i r hi; exact ⟨g, hk _ _ h1, h2⟩⟩
theorem WireAt.below {w w' : World} (h : Below w.heap.size w w') {g r : Nat} (hg : WireAt w g r) : WireAt w' g r :=
  (h.block g (Array.getElem?_eq_some_iff.1 hg).1).trans hg
theorem WireAt.grown {w w' : World} {base e size n : Nat} {v : Value} {xs : List Value} (ho : w.ownsRow base e size v n xs) (he : e ≠ 5) (h : w.grownBy w' v.ownBlock) {g r : Nat} (hg : WireAt w g r) : WireAt w' g r := by
  refine (h.block g (Array.getElem?_eq_some_iff.1 hg).1 ?_).trans hg
  intro e1
  rcases ho.2 with ⟨rfl, _⟩ | ⟨g', cap, cur, rfl, _, hh, _⟩
  · simp [Value.ownBlock] at e1
  · simp [Value.ownBlock] at e1
    subst e1
    unfold WireAt at hg
    rw [hg] at hh
    simp at hh
    exact he hh.2.symm

end Go.Proofs.YbulkaiaFmt
