/-
  Seat b0059a, LawS0059AExact: find$1 (18), sort.Search (17), find (16), lookup (15), Seq (11), Active (12), at a node whose states ascend.
-/
import Derived.Test.YbulkaeuKit
import Derived.Laws.OwnMore
import Derived.Deep.QuietTactic
import Derived.BigQuiet
import Derived.BigRegion
import Derived.RegionTactic
import Derived.LoopTactic
set_option linter.unusedSimpArgs false
set_option linter.unusedVariables false
namespace Go.Proofs.Ybulkaeu
open Go.RowKit

/-- one state: id, number, active -/
structure Pl.St where
  id : Nat
  seq : Nat
  act : Bool
def Pl.St.cells (s : Pl.St) : List Value := [.int .i32 (s.id : Int), .int .u64 (s.seq : Int), .bool s.act, .int .i32 0, .string ⟨#[]⟩, .slice none 0 0]

theorem bel_drewN {B : Nat} {a w : World} (h : Below B a w) (n : Nat) : Below B a (w.drewN n) := ⟨h.os, h.tape, h.output, h.size, h.block⟩

/-- the node's block and its states -/
structure NodeAt (w : World) (b : Nat) (i : Nat) (L : List Pl.St) : Prop where
  slice : ∃ G cap, w.cell? ⟨b, 3, none⟩ = some (.slice G L.length cap) ∧ (0 < L.length → ∃ g, G = some ⟨g, 0, none⟩ ∧ ∀ (k : Nat) s, L[k]? = some s → ∀ q, q < 6 → w.cell? ⟨g, k * 6 + q, none⟩ = s.cells[q]?)
  id : w.cell? ⟨b, 0, none⟩ = some (.int .i32 (i : Int))
theorem NodeAt.below {w w' : World} {b i : Nat} {L : List Pl.St} (h : NodeAt w b i L) (hb : Below w.heap.size w w') : NodeAt w' b i L := by
  obtain ⟨⟨G, cap, h1, h2⟩, h3⟩ := h
  have hbl := World.block_lt_of_cell? w _ h3
  refine ⟨⟨G, cap, (hb.cell (p := ⟨b, 3, none⟩) hbl).trans h1, fun h0 => ?_⟩, (hb.cell (p := ⟨b, 0, none⟩) hbl).trans h3⟩
  obtain ⟨g, e, h4⟩ := h2 h0
  refine ⟨g, e, fun k s hk q hq => ?_⟩
  have h5 := h4 k s hk q hq
  have hg : g < w.heap.size := by
    have h6 := h4 k s hk 0 (by omega)
    exact World.block_lt_of_cell? w ⟨g, k * 6 + 0, none⟩ (by rw [h6]; rfl)
  rw [hb.cell (p := ⟨g, k * 6 + q, none⟩) hg]
  exact h5

set_option maxRecDepth 100000 in
theorem find1_any (k len cap bn bj b g x j : Nat) (hx : x < 256) (hj : j < 256) (w : World) (hk : k < len) (hl : len ≤ 256) (h1 : w.cell? ⟨bn, 0, none⟩ = some (.pointer (some ⟨b, 0, none⟩))) (h2 : w.cell? ⟨bj, 0, none⟩ = some (.int .i32 (j : Int)))
    (h3 : w.cell? ⟨b, 3, none⟩ = some (.slice (some ⟨g, 0, none⟩) len cap)) (h4 : w.cell? ⟨g, k * 6, none⟩ = some (.int .i32 (x : Int))) :
    Calls Yba.prog 18 #[.int .i64 (k : Int), .pointer (some ⟨bn, 0, none⟩), .pointer (some ⟨bj, 0, none⟩)] w fun e w' => e = .returned (.bool (decide (j ≤ x))) ∧ Below w.heap.size w w' := by
  have hkI : (k : Int) < (len : Int) := by omega
  have hk0 : (0 : Int) ≤ (k : Int) := by omega
  have hd : decide ((j : Int) ≤ (x : Int)) = decide (j ≤ x) := by simp
  go_enter Yba.func18, Yba.ntmps18
  go_wp2_with fail
  go_quiet (fail)
  go_wp2_with fail
  go_ret
  refine ⟨?_, bel_drewN (Below.refl _ _) _⟩
  rw [← hd]
  rfl

/-- where a search ends -/
def Lb (L : List Pl.St) (j k : Nat) : Prop := k ≤ L.length ∧ (∀ i s, L[i]? = some s → i < k → s.id < j) ∧ (∀ i s, L[i]? = some s → k ≤ i → j ≤ s.id)

def Asc (L : List Pl.St) : Prop := ∀ (i i' : Nat) s s', L[i]? = some s → L[i']? = some s' → i < i' → s.id < s'.id

set_option maxRecDepth 100000 in
set_option maxHeartbeats 1600000 in
theorem search_any (L : List Pl.St) (cap bn bj b g j : Nat) (hid : ∀ s ∈ L, s.id < 256) (hasc : Asc L) (hj : j < 256) (w : World) (hl : L.length ≤ 256) (h1 : w.cell? ⟨bn, 0, none⟩ = some (.pointer (some ⟨b, 0, none⟩))) (h2 : w.cell? ⟨bj, 0, none⟩ = some (.int .i32 (j : Int)))
    (h3 : w.cell? ⟨b, 3, none⟩ = some (.slice (some ⟨g, 0, none⟩) L.length cap)) (h4 : ∀ (k : Nat) s, L[k]? = some s → w.cell? ⟨g, k * 6, none⟩ = some (.int .i32 (s.id : Int))) :
    Calls Yba.prog 17 #[.int .i64 (L.length : Int), .func (.func 18) #[] #[.pointer (some ⟨bn, 0, none⟩), .pointer (some ⟨bj, 0, none⟩)]] w fun e w' => ∃ k, Lb L j k ∧ e = .returned (.int .i64 (k : Int)) ∧ Below w.heap.size w w' := by
  obtain ⟨n, hn⟩ : ∃ n, n = L.length := ⟨_, rfl⟩
  have HID := hidI hid
  have HAS := hidI hasc
  have H1 := hidI h1
  have H2 := hidI h2
  have H3 := hidI h3
  have H4 := hidI h4
  have HN := hidI hn
  rw [← hn] at hl ⊢
  clear hid hasc h1 h2 h3 h4 hn
  go_enter Yba.func17, Yba.ntmps17
  go_wp2_with fail
  go_loopw [5, 6] (fun a c wr => ∃ lo hi : Nat, lo ≤ hi ∧ hi ≤ n ∧ a = .int .i64 lo ∧ c = .int .i64 hi ∧ (∀ i s, L[i]? = some s → i < lo → s.id < j) ∧ (∀ i s, L[i]? = some s → hi ≤ i → j ≤ s.id) ∧ Below w.heap.size w wr) (fun a c _ => (intOf c).toNat - (intOf a).toNat)
  case atStart => exact ⟨0, n, by omega, by omega, rfl, rfl, (fun i s _ h => by omega), (fun i s hs h => by have := (List.getElem?_eq_some_iff.1 hs).1; have := HN.out; omega), Below.refl _ _⟩
  case round =>
    obtain ⟨lo, hi, hlh, hhn, rfl, rfl, hA, hC, hb⟩ := hrel
    have HA := hidI hA
    have HC := hidI hC
    have HB := hidI hb
    by_cases hlt : lo < hi
    · obtain ⟨m, hm⟩ : ∃ m, m = (lo + hi) / 2 := ⟨_, rfl⟩
      have hm1 : lo ≤ m := by omega
      have hm2 : m < hi := by omega
      obtain ⟨s, hs⟩ : ∃ s, L[m]? = some s := ⟨L[m]'(by have := HN.out; omega), by simp⟩
      have hs256 := HID.out s (List.mem_of_getElem? hs)
      have HM := hidI hm
      have HSS := hidI hs
      have hn' := HN.out
      have e1 := H1.out
      have e2 := H2.out
      have e3 := H3.out
      have e4 := H4.out m s hs
      rw [← hb.cell (World.block_lt_of_cell? w _ e1)] at e1
      rw [← hb.cell (World.block_lt_of_cell? w _ e2)] at e2
      rw [← hb.cell (World.block_lt_of_cell? w _ e3), ← hn'] at e3
      rw [← hb.cell (World.block_lt_of_cell? w _ e4)] at e4
      have HF := hidI (find1_any m n cap bn bj b g s.id j hs256 hj wr (by omega) (by omega) e1 e2 e3 e4)
      clear hA hC hb hm hs e1 e2 e3 e4 hn'
      go_wp2_with fail
      have hmm : ((lo : Int) + (hi : Int)) / 2 = (m : Int) := by have := HM.out; omega
      simp only [hmm]
      clear hmm
      refine (HF.out).mono ?_
      rintro e w2 ⟨rfl, hb2⟩
      have HB2 := hidI (HB.out.trans (hb2.mono HB.out.size))
      clear hb2 HF
      by_cases hjs : j ≤ s.id
      · simp only [hjs, decide_true]
        go_wp2_with fail
        go_roundw
        case rel =>
          refine ⟨lo, m, hm1, by omega, rfl, rfl, HA.out, fun i s' hs' hi' => ?_, HB2.out⟩
          rcases Nat.eq_or_lt_of_le hi' with e | hlt'
          · subst e
            have := HSS.out.symm.trans hs'
            simp at this
            subst this
            exact hjs
          · exact Nat.le_trans hjs (Nat.le_of_lt (HAS.out m i s s' HSS.out hs' hlt'))
        case measure => simp [intOf]; omega
      · simp only [hjs, decide_false]
        go_wp2_with fail
        go_roundw
        case rel =>
          refine ⟨m + 1, hi, by omega, by omega, by go_num, rfl, fun i s' hs' hi' => ?_, HC.out, HB2.out⟩
          rcases Nat.eq_or_lt_of_le (Nat.le_of_lt_succ hi') with e | hlt'
          · subst e
            have := HSS.out.symm.trans hs'
            simp at this
            subst this
            omega
          · have := HAS.out i m s' s hs' HSS.out hlt'
            omega
        case measure => simp [intOf]; omega
    · obtain rfl : lo = hi := by omega
      clear hA hC hb
      go_wp2_with fail
      go_ret
      exact ⟨lo, ⟨by have := HN.out; omega, HA.out, HC.out⟩, rfl, HB.out⟩

end Go.Proofs.Ybulkaeu
