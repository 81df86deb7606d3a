/-
  Seat b0065aF: what both cards of the B laws share: the program's closed facts, the listed sentinel, the records that came in. After the guide's IpowProofs and IpowTold.
-/
import Derived.Test.YbulkaiaFmtKit
import Derived.Test.YbulkaiaFmtTie
import Derived.Test.YbulkaiaFmtCards
import Derived.ProofKit
import Derived.Stop.JoinedTold
import Derived.Stop.LaidErr
import Derived.Stop.JoinedAt
import Derived.Deep.DeepWitnessRef
import Derived.Deep.Slices
import Derived.LaidMore
import Derived.OpenShut
import Derived.ChangeOld
import Derived.SevenTiedAt
namespace Go.Proofs.YbulkaiaFmt
open Go.ChangeShapes Go.WideShapes Go.ChangeAt Go.RowKit Go.Kit
open Go.Extern.Stop Go.Stop Go.Extern

abbrev vname : String := Rows.lawS0065BCaseSpec.vars.headD ""
theorem ownN : ownKnob Ybaf.prog.godebug = none := by kernel_rfl
theorem laidOutN : laidOutB Ybaf.prog = true := by kernel_rfl
theorem stopKnobsN : Ybaf.pinned.checked.prog.stopKnobs = [] := by kernel_rfl
theorem quietN (os : Os) : Stop.quiet Ybaf.pinned.checked.prog os := by
  intro k hk
  rw [stopKnobsN] at hk
  cases hk
theorem gN : Ybaf.prog.globalNamed vname = some 1 := by kernel_rfl
theorem tN : (Ybaf.prog.globals[1]?).map (·.type) = some 35 := by kernel_rfl
theorem starN : "*" ++ "errors.errorString" = "*errors.errorString" := by decide
theorem rowN (u : TypeId) (h : Ybaf.prog.typeName? 3 u = some "*errors.errorString") : u = 79 :=
  typeName_ptr_named (nm := "errors.errorString") (by rw [starN]; kernel_rfl) (by kernel_rfl) (by decide) u (by rw [starN]; exact h)

theorem ok_u8 {z : Int} (h : (Lit.int .u8 z).wf = true) : ∃ n : Nat, z = (n : Int) ∧ n < 256 := by
  have := bounds_u8 h
  exact ⟨z.toNat, by omega, by omega⟩

theorem bool_cell {H : Type} {enc : TypeId × Value → H} {W : World} {base : Nat} {spare : Nat → Bool} {held : Bool} {n : Nat} {c : Value} {x : DataW H × List MemPlace}
    (h : DataW.trod enc Ybaf.prog W base spare held n 4 [c] = some x) : ∃ b, c = .bool b := by
  cases n with
  | zero => simp [DataW.trod] at h
  | succ n =>
    cases c <;> simp [DataW.trod, Ybaf.underlying4] at h
    exact ⟨_, rfl⟩

set_option maxRecDepth 100000 in
/-- the five cells of one record -/
theorem open_rec {H : Type} {enc : TypeId × Value → H} {W : World} {base : Nat} {spare : Nat → Bool} {held : Bool} {n : Nat} {cs : List Value} {x : DataW H × List MemPlace}
    (h : DataW.trod enc Ybaf.prog W base spare held n 69 cs = some x) : ∃ r : Pl.Rec, r.ok ∧ cs = r.cells := by
  obtain ⟨xs, k, rfl, _, hl, hxl, hf⟩ := DataW.trod_struct Ybaf.underlying69 h
  have c5 : Ybaf.prog.cellsOf 5 = 1 := by kernel_rfl
  have c4 : Ybaf.prog.cellsOf 4 = 1 := by kernel_rfl
  rw [show Ybaf.prog.cellsOf 69 = 5 by kernel_rfl] at hl
  match xs, hxl, cs, hl with
  | [y0, y1, y2, y3, y4], _, [w0, w1, w2, w3, w4], _ =>
    have g0 := hf 0 _ rfl
    have g1 := hf 1 _ rfl
    have g2 := hf 2 _ rfl
    have g3 := hf 3 _ rfl
    have g4 := hf 4 _ rfl
    simp [c5, c4] at g0 g1 g2 g3 g4
    obtain ⟨n0, e0, _, f0⟩ := DataW.trod_int Ybaf.underlying5 g0
    obtain ⟨n1, e1, _, f1⟩ := DataW.trod_int Ybaf.underlying5 g1
    obtain ⟨n2, e2, _, f2⟩ := DataW.trod_int Ybaf.underlying5 g2
    obtain ⟨n3, e3, _, f3⟩ := DataW.trod_int Ybaf.underlying5 g3
    obtain ⟨b, e4⟩ := bool_cell g4
    obtain ⟨m0, rfl, l0⟩ := ok_u8 f0
    obtain ⟨m1, rfl, l1⟩ := ok_u8 f1
    obtain ⟨m2, rfl, l2⟩ := ok_u8 f2
    obtain ⟨m3, rfl, l3⟩ := ok_u8 f3
    simp at e0 e1 e2 e3
    subst e0 e1 e2 e3 e4
    exact ⟨⟨m0, m1, m2, m3, b⟩, ⟨l0, l1, l2, l3⟩, rfl⟩

/-- a row of values, chosen at each index -/
theorem choose_list {α : Type} {q : Nat → α → Prop} : ∀ n : Nat, (∀ i, i < n → ∃ a, q i a) → ∃ l : List α, l.length = n ∧ ∀ (i : Nat) a, l[i]? = some a → q i a
  | 0, _ => ⟨[], rfl, by simp⟩
  | n + 1, h => by
    obtain ⟨l, hl, hq⟩ := choose_list n (fun i hi => h i (by omega))
    obtain ⟨a, ha⟩ := h n (by omega)
    refine ⟨l ++ [a], by simp [hl], fun i b hb => ?_⟩
    by_cases hi : i < l.length
    · rw [List.getElem?_append_left hi] at hb
      exact hq i b hb
    · have hie : i = n := by
        have := (List.getElem?_eq_some_iff.1 hb).1
        simp at this; omega
      subst hie
      rw [← hl] at hb
      simp at hb
      subst hb
      exact ha

/-- the argument's records, opened -/
theorem open_recs {H : Type} {enc : TypeId × Value → H} {W : World} {spare : Nat → Bool} {held : Bool} {n : Nat} {a : Option Addr} {len cap : Nat} {x : DataW H × List MemPlace}
    (h : DataW.trod enc Ybaf.prog W 0 spare held n 45 [.slice a len cap] = some x) : ∃ (rs : List Pl.Rec) (bb oo : Nat), rs.length = len ∧ len < 9223372036854775808 ∧ (0 < rs.length → a = some ⟨bb, oo, none⟩) ∧ RecsAt W bb oo rs := by
  rcases Deep.open_slice Ybaf.underlying45 h with ⟨hcs, _⟩ | ⟨ad, len', cap', m, k, D, Pl', hcs, _, hlc, hmx, hm, _, hel⟩
  · simp at hcs
    obtain ⟨rfl, rfl, rfl⟩ := hcs
    exact ⟨[], 0, 0, rfl, by omega, by simp, by intro i r hi; simp at hi⟩
  · simp at hcs
    obtain ⟨rfl, rfl, rfl⟩ := hcs
    have ce : Ybaf.prog.cellsOf 69 = 5 := by kernel_rfl
    have hlm : len ≤ m := by rw [hm]; split <;> omega
    rw [ce] at hel
    obtain ⟨rs, hrl, hq⟩ := choose_list (α := Pl.Rec) (q := fun i r => r.ok ∧ ∀ j, j < 5 → W.cell? (ad.add (i * 5 + j)) = r.cells[j]?) len (fun i hi => by
      obtain ⟨cs', h1, h2⟩ := hel i (by omega)
      obtain ⟨_, hlen, hcell⟩ := World.cells?_some h1
      obtain ⟨r, hok, rfl⟩ := open_rec h2
      refine ⟨r, hok, fun j hj => ?_⟩
      have := hcell j (by omega)
      rwa [Deep.add_add] at this)
    obtain ⟨bb, oo, spot⟩ := ad
    have hmx' : len < 9223372036854775808 := by unfold maxLen at hmx; omega
    by_cases h0 : 0 < len
    · have hspot : spot = none := by
        obtain ⟨r, hr⟩ : ∃ r, rs[0]? = some r := ⟨rs[0], by simp⟩
        have := (hq 0 r hr).2 0 (by omega)
        have hc : W.cell? ((⟨bb, oo, spot⟩ : Addr).add (0 * 5 + 0)) = some (.int .u8 (r.o : Int)) := this
        simpa [Addr.add] using World.cell?_spot hc
      subst hspot
      refine ⟨rs, bb, oo, hrl, hmx', fun _ => rfl, fun i r hi => ?_⟩
      obtain ⟨hok, hc⟩ := hq i r hi
      have e0 := hc 0 (by omega)
      have e1 := hc 1 (by omega)
      have e2 := hc 2 (by omega)
      have e3 := hc 3 (by omega)
      have e4 := hc 4 (by omega)
      simp only [Addr.add_lit] at e0 e1 e2 e3 e4
      exact ⟨hok, e0, e1, e2, e3, e4⟩
    · refine ⟨rs, bb, oo, hrl, hmx', fun h => by omega, fun i r hi => ?_⟩
      have := (List.getElem?_eq_some_iff.1 hi).1
      omega

/-- the sentinel's variable, laid -/
def putE : Obj → Obj
  | .cells _ t frozen => .cells #[.iface 79 (.pointer (some ⟨12, 0, none⟩))] t frozen
  | o => o
/-- a settled world in which the sentinel is laid -/
def laidW (P : Program) (os : Os) : World := ({ World.holding P os ⟨#[.cells #[.string ⟨#[110, 97, 109, 101, 32, 114, 117, 110, 115, 32, 112, 97, 115, 116, 32, 116, 104, 101, 32, 101, 110, 100, 32, 111, 102, 32, 116, 104, 101, 32, 100, 97, 116, 97, 32, 119, 105, 116, 104, 111, 117, 116, 32, 105, 116, 115, 32, 114, 111, 111, 116, 32, 108, 97, 98, 101, 108]⟩] 81], #[], []⟩ with heap := (World.holding P os ⟨#[.cells #[.string ⟨#[110, 97, 109, 101, 32, 114, 117, 110, 115, 32, 112, 97, 115, 116, 32, 116, 104, 101, 32, 101, 110, 100, 32, 111, 102, 32, 116, 104, 101, 32, 100, 97, 116, 97, 32, 119, 105, 116, 104, 111, 117, 116, 32, 105, 116, 115, 32, 114, 111, 111, 116, 32, 108, 97, 98, 101, 108]⟩] 81], #[], []⟩).heap.modify 1 putE } : World)
theorem laid_met (os : Os) (args : Array Value) : laidMetH Ybaf.prog Rows.lawS0065BCaseRow.laid ((laidW Ybaf.prog os).forCall (fun _ _ => 0) ⟨#[], args, []⟩).memory :=
  laidMet_of_run (ps := [.cell 1 0, .cell 12 0]) 8 (by kernel_rfl) (by kernel_rfl) (by kernel_rfl)

end Go.Proofs.YbulkaiaFmt
