/-
  Seat b0059a, LawS0059AExact: find (16), lookup (15), Seq (11), Active (12).
-/
import Derived.Test.YbulkaeuXNode
set_option linter.unusedSimpArgs false
set_option linter.unusedVariables false
namespace Go.Proofs.Ybulkaeu
open Go.RowKit

def Pl.isAt (L : List Pl.St) (k j : Nat) : Bool := match L[k]? with
  | some s => s.id == j
  | none => false
/-- the state of source j -/
def Pl.get (L : List Pl.St) (j : Nat) : Option Pl.St := L.find? (fun s => s.id == j)

theorem get_of {L : List Pl.St} {j k : Nat} (hasc : Asc L) (h : Lb L j k) : Pl.get L j = if Pl.isAt L k j then L[k]? else none := by
  unfold Pl.get Pl.isAt
  cases hk : L[k]? with
  | none =>
    simp
    intro s hs
    obtain ⟨i, hi⟩ := List.getElem?_of_mem hs
    have hlt := (List.getElem?_eq_some_iff.1 hi).1
    have hkl : L.length ≤ k := List.getElem?_eq_none_iff.1 hk
    have := h.2.1 i s hi (by omega)
    omega
  | some s =>
    by_cases he : s.id = j
    · simp only [he, beq_self_eq_true, if_true]
      rw [List.find?_eq_some_iff_getElem]
      have hlt := (List.getElem?_eq_some_iff.1 hk).1
      have heq := (List.getElem?_eq_some_iff.1 hk).2
      refine ⟨by simpa using he, k, hlt, heq, fun i hi => ?_⟩
      have := h.2.1 i L[i] (by simp) hi
      simp; omega
    · have : (s.id == j) = false := by simpa using he
      simp only [this, Bool.false_eq_true, if_false]
      rw [List.find?_eq_none]
      intro s' hs'
      obtain ⟨i, hi⟩ := List.getElem?_of_mem hs'
      by_cases hik : i < k
      · have := h.2.1 i s' hi hik
        simp; omega
      · have h1 := h.2.2 i s' hi (by omega)
        have h2 := h.2.2 k s hk (Nat.le_refl _)
        rcases Nat.eq_or_lt_of_le (Nat.le_of_not_lt hik) with e | hlt
        · subst e
          have := hk.symm.trans hi
          simp at this
          subst this
          simpa using he
        · have := hasc k i s s' hk hi hlt
          simp; omega

theorem search_zero (f : Value) (w : World) : Calls Yba.prog 17 #[.int .i64 0, f] w fun e w' => e = .returned (.int .i64 0) ∧ Below w.heap.size w w' := by
  go_enter Yba.func17, Yba.ntmps17
  go_wp2_with fail
  refine wp_loop_rounds 1 ?_
  rw [rounds_succ]
  go_wp2_with fail
  go_ret
  exact ⟨rfl, Below.refl _ _⟩

set_option maxRecDepth 100000 in
set_option maxHeartbeats 1600000 in
theorem find_any (L : List Pl.St) (b i j : Nat) (hid : ∀ s ∈ L, s.id < 256) (hasc : Asc L) (hj : j < 256) (w : World) (hl : L.length ≤ 256) (hnode : NodeAt w b i L) :
    Calls Yba.prog 16 #[.pointer (some ⟨b, 0, none⟩), .int .i32 (j : Int)] w fun e w' => ∃ k, Lb L j k ∧ e = .returned (.tuple #[.int .i64 (k : Int), .bool (Pl.isAt L k j)]) ∧ Below w.heap.size w w' := by
  obtain ⟨G, cap, h3, hcells⟩ := hnode.slice
  have hbl : b < w.heap.size := World.block_lt_of_cell? w _ h3
  obtain ⟨n, hn⟩ : ∃ n, n = L.length := ⟨_, rfl⟩
  have HN := hidI hn
  rw [← hn] at h3 hl
  by_cases h0 : n = 0
  · subst h0
    have hL : L = [] := List.length_eq_zero_iff.1 HN.out.symm
    have HZ := hidI search_zero
    have hbel : ∀ o1 o2, Below w.heap.size w ((w.alloc o1).alloc o2) := fun o1 o2 => ((Below.refl _ _).alloc (Nat.le_refl _) _).alloc (by simp) _
    clear hn hcells hnode
    go_enter Yba.func16, Yba.ntmps16
    go_wp2_with fail
    refine (HZ.out _ _).mono ?_
    rintro e w1 ⟨rfl, hb1⟩
    have hs2 : ∀ o1 o2, ((w.alloc o1).alloc o2).heap.size = w.heap.size + 2 := fun o1 o2 => by rw [World.size_alloc, World.size_alloc]
    have d3 : w1.cell? ⟨b, 3, none⟩ = some (.slice G 0 cap) := by rw [hb1.cell (p := ⟨b, 3, none⟩) (by rw [hs2]; show b < _; omega), (hbel _ _).cell (p := ⟨b, 3, none⟩) hbl]; exact h3
    have d1 : w1.cell? ⟨w.heap.size, 0, none⟩ = some (.pointer (some ⟨b, 0, none⟩)) := by rw [hb1.cell (p := ⟨w.heap.size, 0, none⟩) (by rw [hs2]; show w.heap.size < _; omega)]; simp
    have HB := hidI ((hbel _ _).trans (hb1.mono (by rw [hs2]; omega)))
    clear hb1
    go_wp2_with fail
    go_quiet (fail)
    go_wp2_with fail
    exact bodyPost_ret (v := .tuple #[.int .i64 0, .bool false]) (by simp [results, Yba.results16, go_sem]) rfl ⟨0, ⟨by omega, fun i s h => by rw [hL] at h; simp at h, fun i s h => by rw [hL] at h; simp at h⟩, by rw [hL]; rfl, bel_drewN HB.out _⟩
  · obtain ⟨g, rfl, hcs⟩ := hcells (by omega)
    have hgl : g < w.heap.size := by
      have h6 := hcs 0 (L[0]'(by omega)) (by simp) 0 (by omega)
      exact World.block_lt_of_cell? w ⟨g, 0 * 6 + 0, none⟩ (by rw [h6]; rfl)
    have hbel : ∀ o1 o2, Below w.heap.size w ((w.alloc o1).alloc o2) := fun o1 o2 => ((Below.refl _ _).alloc (Nat.le_refl _) _).alloc (by simp) _
    have hs2 : ∀ o1 o2, ((w.alloc o1).alloc o2).heap.size = w.heap.size + 2 := fun o1 o2 => by rw [World.size_alloc, World.size_alloc]
    have HS := hidI (fun W (hW : Below w.heap.size w W) (k1 : W.cell? ⟨w.heap.size, 0, none⟩ = some (.pointer (some ⟨b, 0, none⟩))) (k2 : W.cell? ⟨w.heap.size + 1, 0, none⟩ = some (.int .i32 (j : Int))) =>
      search_any L cap w.heap.size (w.heap.size + 1) b g j hid hasc hj W (by omega) k1 k2 (by rw [hW.cell (p := ⟨b, 3, none⟩) hbl, ← hn]; exact h3) (fun k s hk => by
        rw [hW.cell (p := ⟨g, k * 6, none⟩) hgl]; exact hcs k s hk 0 (by omega)))
    rw [← hn] at HS
    have HC := hidI hcs
    have HID := hidI hid
    clear hn hcells hnode hcs hid hasc
    go_enter Yba.func16, Yba.ntmps16
    go_wp2_with fail
    refine (HS.out _ (hbel _ _) (by simp) (by simp)).mono ?_
    rintro e w1 ⟨k, hlb, rfl, hb1⟩
    have d3 : w1.cell? ⟨b, 3, none⟩ = some (.slice (some ⟨g, 0, none⟩) n cap) := by rw [hb1.cell (p := ⟨b, 3, none⟩) (by rw [hs2]; show b < _; omega), (hbel _ _).cell (p := ⟨b, 3, none⟩) hbl]; exact h3
    have d1 : w1.cell? ⟨w.heap.size, 0, none⟩ = some (.pointer (some ⟨b, 0, none⟩)) := by rw [hb1.cell (p := ⟨w.heap.size, 0, none⟩) (by rw [hs2]; show w.heap.size < _; omega)]; simp
    have d2 : w1.cell? ⟨w.heap.size + 1, 0, none⟩ = some (.int .i32 (j : Int)) := by rw [hb1.cell (p := ⟨w.heap.size + 1, 0, none⟩) (by rw [hs2]; show w.heap.size + 1 < _; omega)]; simp
    have dk : ∀ s, L[k]? = some s → w1.cell? ⟨g, k * 6, none⟩ = some (.int .i32 (s.id : Int)) := fun s hs => by
      rw [hb1.cell (p := ⟨g, k * 6, none⟩) (by rw [hs2]; show g < _; omega), (hbel _ _).cell (p := ⟨g, k * 6, none⟩) hgl]; exact HC.out k s hs 0 (by omega)
    have HB := hidI ((hbel _ _).trans (hb1.mono (by rw [hs2]; omega)))
    have HLB := hidI hlb
    clear hb1 hlb
    by_cases hk : k < n
    · obtain ⟨s, hs⟩ : ∃ s, L[k]? = some s := ⟨L[k]'(by have := HN.out; omega), by simp⟩
      have e4 := dk s hs
      have hs256 := HID.out s (List.mem_of_getElem? hs)
      have hkI : (k : Int) < (n : Int) := by omega
      have hkd : decide ((k : Int) < (n : Int)) = true := by simpa using hk
      have hk0 : (0 : Int) ≤ (k : Int) := by omega
      have hat : Pl.isAt L k j = ((s.id : Int) == (j : Int)) := by
        simp only [Pl.isAt, hs]
        by_cases h : s.id = j
        · simp [h]
        · have : ¬ ((s.id : Int) = (j : Int)) := by omega
          rw [beq_eq_false_iff_ne.2 h, beq_eq_false_iff_ne.2 this]
      have HAT := hidI hat
      clear dk hs hat
      go_wp2_with fail
      go_quiet (fail)
      go_wp2_with fail
      refine bodyPost_ret (v := .tuple #[.int .i64 (k : Int), .bool (Pl.isAt L k j)]) (by rw [HAT.out]; simp [results, Yba.results16, go_sem]) rfl ⟨k, HLB.out, rfl, bel_drewN HB.out _⟩
    · have hkn : k = n := by have h1 := HLB.out.1; have h2 := HN.out; omega
      subst hkn
      have hat : Pl.isAt L k j = false := by
        have : L[k]? = none := List.getElem?_eq_none_iff.2 (by have := HN.out; omega)
        simp [Pl.isAt, this]
      have hkd : decide ((k : Int) < (k : Int)) = false := by simp
      clear dk
      go_wp2_with fail
      go_quiet (fail)
      go_wp2_with fail
      exact bodyPost_ret (v := .tuple #[.int .i64 (k : Int), .bool false]) (by simp [results, Yba.results16, go_sem]) rfl ⟨k, HLB.out, by rw [hat], bel_drewN HB.out _⟩

end Go.Proofs.Ybulkaeu
