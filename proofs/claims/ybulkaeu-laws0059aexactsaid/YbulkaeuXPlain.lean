/-
  Seat b0059a, LawS0059AExact: the argument and the plain functions; guard (6).
-/
import Derived.Test.YbulkaeuXSeq
set_option linter.unusedSimpArgs false
set_option linter.unusedVariables false
namespace Go.Proofs.Ybulkaeu
open Go.RowKit

structure Pl.Src where
  pick : Nat
  seq : Nat
  act : Bool
structure Pl.Nd where
  part : Nat
  srcs : List Pl.Src

/-- the argument in memory -/
def SrcsAt (w : World) (a : Option Addr) (ss : List Pl.Src) : Prop :=
  0 < ss.length → ∃ b o, a = some ⟨b, o, none⟩ ∧ ∀ (k : Nat) s, ss[k]? = some s → s.pick < 65536 ∧ s.seq < 256 ∧ w.cell? ⟨b, o + k * 3, none⟩ = some (.int .u16 (s.pick : Int)) ∧ w.cell? ⟨b, o + k * 3 + 1, none⟩ = some (.int .u8 (s.seq : Int)) ∧ w.cell? ⟨b, o + k * 3 + 2, none⟩ = some (.bool s.act)
def InAt (w : World) (bb oo : Nat) (ns : List Pl.Nd) : Prop :=
  ∀ (i : Nat) nd, ns[i]? = some nd → nd.part < 256 ∧ w.cell? ⟨bb, oo + i * 2, none⟩ = some (.int .u8 (nd.part : Int)) ∧ ∃ a c, w.cell? ⟨bb, oo + i * 2 + 1, none⟩ = some (.slice a nd.srcs.length c) ∧ SrcsAt w a nd.srcs

theorem SrcsAt.below {w w' : World} {a : Option Addr} {ss : List Pl.Src} (h : SrcsAt w a ss) (hb : Below w.heap.size w w') : SrcsAt w' a ss := by
  intro h0
  obtain ⟨b, o, e, h1⟩ := h h0
  refine ⟨b, o, e, fun k s hk => ?_⟩
  obtain ⟨p1, p2, c0, c1, c2⟩ := h1 k s hk
  have hlt : b < w.heap.size := World.block_lt_of_cell? w _ c0
  exact ⟨p1, p2, (hb.cell (p := ⟨b, _, none⟩) hlt).trans c0, (hb.cell (p := ⟨b, _, none⟩) hlt).trans c1, (hb.cell (p := ⟨b, _, none⟩) hlt).trans c2⟩
theorem InAt.below {w w' : World} {bb oo : Nat} {ns : List Pl.Nd} (h : InAt w bb oo ns) (hb : Below w.heap.size w w') : InAt w' bb oo ns := by
  intro i nd hi
  obtain ⟨h1, h2, a, c, h3, h4⟩ := h i nd hi
  have hlt : bb < w.heap.size := World.block_lt_of_cell? w _ h2
  exact ⟨h1, (hb.cell (p := ⟨bb, _, none⟩) hlt).trans h2, a, c, (hb.cell (p := ⟨bb, _, none⟩) hlt).trans h3, h4.below hb⟩

def Pl.small (ns : List Pl.Nd) : Prop := ns.length ≤ 256 ∧ ∀ nd ∈ ns, nd.srcs.length ≤ 256

set_option maxRecDepth 100000 in
theorem guard_any (a : Option Addr) (bb oo cap : Nat) (ns : List Pl.Nd) (w : World) (ha : 0 < ns.length → a = some ⟨bb, oo, none⟩) (hin : InAt w bb oo ns) (hnm : ns.length < 9223372036854775808) :
    Calls Yba.prog 6 #[.slice a ns.length cap] w fun e w' => (e = .returned (.bool false) ∨ (e = .returned (.bool true) ∧ Pl.small ns)) ∧ w = w' := by
  obtain ⟨n, hn⟩ : ∃ n, n = ns.length := ⟨_, rfl⟩
  have HN := hidI hn
  have HA := hidI ha
  have HI := hidI hin
  rw [← hn] at hnm HA ⊢
  clear hn ha hin
  by_cases hbig : n ≤ 256
  · go_enter Yba.func6, Yba.ntmps6
    go_wp2_with fail
    go_loop [3] (fun i => ∃ k : Nat, k ≤ n ∧ i = .int .i64 k ∧ ∀ nd ∈ ns.take k, nd.srcs.length ≤ 256) (fun i => n - (intOf i).toNat)
    case atStart => exact ⟨0, by omega, rfl, by simp⟩
    case round =>
      obtain ⟨k, hk, rfl, hall⟩ := hrel
      have HL := hidI hall
      clear hall
      by_cases hlt : k < n
      · obtain rfl := HA.out (by omega)
        obtain ⟨nd, hnd⟩ : ∃ nd, ns[k]? = some nd := ⟨ns[k]'(by rw [← HN.out]; exact hlt), by simp⟩
        obtain ⟨_, _, a2, c2, h3, _⟩ := HI.out k nd hnd
        have HND := hidI hnd
        clear hnd
        by_cases hs : nd.srcs.length ≤ 256
        · have hsI : ¬ ((256 : Int) < (nd.srcs.length : Int)) := by omega
          go_wp2_with fail
          go_round
          case rel =>
            refine ⟨k + 1, by omega, by go_num, fun x hx => ?_⟩
            rw [List.take_add_one, HND.out] at hx
            simp at hx
            rcases hx with hx | rfl
            · exact HL.out x hx
            · exact hs
          case measure => simp [intOf]; omega
        · have hsI : (256 : Int) < (nd.srcs.length : Int) := by omega
          go_wp2_with fail
          go_ret
          exact ⟨.inl rfl, rfl⟩
      · obtain rfl : k = n := by omega
        go_wp2_with fail
        go_ret
        refine ⟨.inr ⟨rfl, by have := HN.out; omega, ?_⟩, rfl⟩
        have h := HL.out
        rw [HN.out, List.take_length] at h
        exact h
  · have hbI : (256 : Int) < (n : Int) := by omega
    go_enter Yba.func6, Yba.ntmps6
    go_wp2_with fail
    go_ret
    exact ⟨.inl rfl, rfl⟩

/-- the first source of a row that picks j -/
def Pl.ent (ss : List Pl.Src) (n j : Nat) : Option Pl.Src := ss.find? (fun s => s.pick % n == j)
/-- the flat table after i rows and t sources of row i -/
def Pl.tab (ns : List Pl.Nd) (n i t m : Nat) : Option Pl.Src :=
  if m / n < i then (ns[m / n]?).bind (fun nd => Pl.ent nd.srcs n (m % n)) else if m / n = i then (ns[i]?).bind (fun nd => Pl.ent (nd.srcs.take t) n (m % n)) else none
def Pl.hasV (o : Option Pl.Src) : Value := .bool o.isSome
def Pl.seqV (o : Option Pl.Src) : Value := .int .u64 ((match o with | some s => s.seq % 3 | none => 0 : Nat) : Int)
def Pl.actV (o : Option Pl.Src) : Value := .bool (match o with | some s => s.act | none => false)

end Go.Proofs.Ybulkaeu
