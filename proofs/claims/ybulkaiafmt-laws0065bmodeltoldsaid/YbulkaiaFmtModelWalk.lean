/-
  Seat b0065aF: LawS0065BModel (6): the walk.
-/
import Derived.Test.YbulkaiaFmtModel
import Derived.Test.YbulkaiaFmtCaseWalk
set_option linter.unusedSimpArgs false
set_option linter.unusedVariables false
namespace Go.Proofs.YbulkaiaFmt
open Go.RowKit

theorem go_ids (rs : List Pl.Rec) : ∀ (n : Nat) (s : List Nat), (∀ x ∈ s, x < 6) → ∀ x ∈ Pl.go rs n s, x < 6
  | 0, s, h => h
  | n + 1, s, h => by
    simp only [Pl.go]
    cases Pl.first rs (s.getLastD 5) with
    | none => exact h
    | some r =>
      refine go_ids rs n (s ++ [idOf (r.g % 5) r.bad]) ?_
      intro x hx
      simp at hx
      rcases hx with hx | rfl
      · exact h x hx
      · unfold idOf; split
        · decide
        · have := Nat.mod_lt r.g (show 0 < 5 by decide); omega
theorem chase_ids (rs : List Pl.Rec) (j : Nat) (hj : j < 6) (q : Int) : ∀ x ∈ Pl.chase rs j q, x < 6 := by
  unfold Pl.chase
  split
  · simp; exact hj
  · exact go_ids rs 16 [j] (by simp; exact hj)
theorem chase_len (rs : List Pl.Rec) (j : Nat) (q : Int) : (Pl.chase rs j q).length ≤ 17 := by
  unfold Pl.chase
  split
  · simp
  · have := go_len rs 16 [j]; simp at this; omega
theorem go_pos (rs : List Pl.Rec) : ∀ (n : Nat) (s : List Nat), s.length ≤ (Pl.go rs n s).length
  | 0, s => Nat.le_refl _
  | n + 1, s => by
    simp only [Pl.go]
    cases Pl.first rs (s.getLastD 5) with
    | none => exact Nat.le_refl _
    | some r => have := go_pos rs n (s ++ [idOf (r.g % 5) r.bad]); simp at this ⊢; omega
theorem chase_pos (rs : List Pl.Rec) (j : Nat) (q : Int) : 1 ≤ (Pl.chase rs j q).length := by
  unfold Pl.chase
  split
  · simp
  · have := go_pos rs 16 [j]; simpa using this

set_option maxRecDepth 100000 in
set_option maxHeartbeats 3200000 in
theorem model_walk (a : Option Addr) (bb oo cap : Nat) (rs : List Pl.Rec) (s q : Nat) (hs : s < 256) (hq : q < 256) (w : World) (v1 : Value) (ha : 0 < rs.length → a = some ⟨bb, oo, none⟩) (hrs : RecsAt w bb oo rs) (hv : w.cell? ⟨1, 0, none⟩ = some v1) (hnm : rs.length < 9223372036854775808) :
    Calls Ybaf.prog 6 #[.slice a rs.length cap, .int .u8 s, .int .u8 q] w fun e w' => e = .returned (.bool true) ∧ Below w.heap.size w w' := by
  by_cases hn : rs.length ≤ 1024
  · have HRE := hidI (resp_any a bb oo cap rs w v1 ha hrs hn hv)
    have HQT := hidI (fun W => (qtype_any q hq W).mono (fun e w' h => (⟨h.1, h.2.symm⟩ : e = _ ∧ W = w')))
    have hs5 := Nat.mod_lt s (show 0 < 5 by decide)
    have h1w : 1 < w.heap.size := World.block_lt_of_cell? w _ hv
    have HV := hidI hv
    have HNL := hidI hn
    have HRS := hidI hrs
    have HA := hidI ha
    obtain ⟨p, hp⟩ : ∃ p, p = Pl.chase rs (s % 5) (Pl.qt q) := ⟨_, rfl⟩
    have hpi : ∀ x ∈ p, x < 6 := by rw [hp]; exact chase_ids rs _ (by omega) _
    have hpl : p.length ≤ 17 := by rw [hp]; exact chase_len _ _ _
    have hp1 : 1 ≤ p.length := by rw [hp]; exact chase_pos _ _ _
    have HPI := hidI hpi
    have HP := hidI hp
    obtain ⟨n, hnn⟩ : ∃ n, n = rs.length := ⟨_, rfl⟩
    rw [← hnn] at HRE hn ⊢
    have HNN := hidI hnn
    clear hnn hv ha hrs hnm hpi hp
    go_enter Ybaf.func6, Ybaf.ntmps6
    go_wp2_with (go_at_call 15; refine (HQT.out _).mono ?_; rintro e w' ⟨rfl, rfl⟩)
    refine (HRE.out).mono ?_
    rintro e w1 ⟨v, rfl, hb1, xs, ho1, hr1⟩
    obtain ⟨va, vc, rfl⟩ := own_form ho1
    have HB1 := hidI hb1
    have HO1 := hidI ho1
    have HR1 := hidI hr1
    clear hb1 ho1 hr1 HRE
    have HNM := hidI (name_any ((s : Int) % 5) (s % 5) (by omega) (by omega) (by omega) w1 v1 ((HB1.out.cell (p := ⟨1, 0, none⟩) h1w).trans HV.out))
    go_wp2_with (go_at_call 18; refine (HNM.out).mono ?_; rintro e w2 ⟨rfl, hb2⟩; have HB2 := hidI hb2; clear hb2)
    have hs1 := HB1.out.size
    have hs2 := HB2.out.size
    have HBB2 := hidI (HB1.out.trans (HB2.out.mono hs1))
    have HC := hidI (chase_any (s % 5) (by omega) (Pl.qt q) rs w.heap.size (.slice va n vc) xs w2 v1 ((HBB2.out.cell (p := ⟨1, 0, none⟩) h1w).trans HV.out) HNL.out (HNN.out ▸ (HO1.out.kept (grown_of_below HB2.out none) (Classical.em _))) (HR1.out.far (fun g r h => WireAt.below HB2.out h)))
    rw [← HP.out] at HC
    refine (HC.out).mono ?_
    rintro e w3 ⟨v9, rfl, hb3, ho9⟩
    obtain ⟨a9, c9, rfl⟩ := own_form ho9
    have hs3 := hb3.size
    have HBB3 := hidI (HBB2.out.trans (hb3.mono (Nat.le_trans hs1 hs2)))
    have HO9 := hidI ho9
    have hmo := model_any a bb oo cap (s % 5) hs5 (Pl.qt q) rs w3 HA.out (fun i r hi => by
      obtain ⟨k1, k2, k3, k4, k5, k6⟩ := HRS.out i r hi
      have hbl : bb < w.heap.size := World.block_lt_of_cell? w _ k2
      exact ⟨k1, (HBB3.out.cell (p := ⟨bb, _, none⟩) hbl).trans k2, (HBB3.out.cell (p := ⟨bb, _, none⟩) hbl).trans k3, (HBB3.out.cell (p := ⟨bb, _, none⟩) hbl).trans k4, (HBB3.out.cell (p := ⟨bb, _, none⟩) hbl).trans k5, (HBB3.out.cell (p := ⟨bb, _, none⟩) hbl).trans k6⟩) HNL.out
    rw [← HP.out, ← HNN.out, show ((s % 5 : Nat) : Int) = (s : Int) % 5 by omega] at hmo
    have HMO := hidI hmo
    clear hmo hb3 ho9 HC
    go_wp2_with fail
    refine (HMO.out).mono ?_
    rintro e w4 ⟨v10, rfl, hb4, ho10⟩
    obtain ⟨a10, c10, rfl⟩ := own_form ho10
    have ho9 := HO9.out.kept (grown_of_below hb4 none) (Classical.em _)
    obtain ⟨G9, rfl, hG9, hcc9⟩ := own_at ho9 (by omega)
    obtain ⟨G10, rfl, hG10, hcc10⟩ := own_at ho10 (by omega)
    have HBB4 := hidI (HBB3.out.trans (hb4.mono (Nat.le_trans hs1 (Nat.le_trans hs2 hs3))))
    have hs4 := hb4.size
    obtain ⟨L, hLL⟩ : ∃ L, L = p.length := ⟨_, rfl⟩
    have HT : Hid (∀ i, i < L → w4.cell? ⟨G9, i, none⟩ = some (nmS (p.getD i 0)) ∧ w4.cell? ⟨G10, i, none⟩ = some (mvV (p.getD i 0)) ∧ p.getD i 0 < 6) := hidI (fun i hi => by
      have hi' : i < p.length := by omega
      refine ⟨?_, ?_, ?_⟩
      · rw [hcc9 i hi', List.getElem?_map, List.getElem?_eq_getElem hi']; simp [hi']
      · rw [hcc10 i hi', List.getElem?_map, List.getElem?_eq_getElem hi']; simp [hi']
      · have := HPI.out p[i] (List.getElem_mem hi'); simpa [hi'] using this)
    rw [← hLL] at hpl hp1 ⊢
    clear hcc9 hcc10 hLL ho9 ho10 hb4 HMO HO9
    go_wp2_with fail
    have hsw : w.heap.size ≤ w4.heap.size := Nat.le_trans hs1 (Nat.le_trans hs2 (Nat.le_trans hs3 hs4))
    go_loopw [11] (fun i wr => ∃ k : Nat, k ≤ L ∧ i = .int .i64 k ∧ Below w4.heap.size w4 wr) (fun i _ => L - (intOf i).toNat)
    case atStart => exact ⟨0, by omega, rfl, Below.refl _ _⟩
    case round =>
      obtain ⟨k, hk, rfl, hb⟩ := hrel
      have HB := hidI hb
      by_cases hlt : k < L
      · obtain ⟨g9, g10, hx6⟩ := HT.out k hlt
        have l9 : G9 < w4.heap.size := World.block_lt_of_cell? w4 _ g9
        have l10 : G10 < w4.heap.size := World.block_lt_of_cell? w4 _ g10
        have hsz := hb.size
        have l9r : G9 < wr.heap.size := Nat.lt_of_lt_of_le l9 hsz
        have l10r : G10 < wr.heap.size := Nat.lt_of_lt_of_le l10 hsz
        rw [← hb.cell (p := ⟨G9, k, none⟩) l9] at g9
        rw [← hb.cell (p := ⟨G10, k, none⟩) l10] at g10
        generalize p.getD k 0 = x at g9 g10 hx6
        clear hb
        have hkI : (k : Int) < (L : Int) := by omega
        by_cases hx5 : x = 5
        · subst hx5
          have g9' : wr.cell? ⟨G9, k, none⟩ = some (.string ⟨#[]⟩) := g9
          have g10' : wr.cell? ⟨G10, k, none⟩ = some (.int .i64 (-1)) := g10
          have hne : ∀ W, (binOp .neq 31 (.agg #[.string ⟨#[]⟩]) (.agg #[.string ⟨#[]⟩])).run Ybaf.prog W = .ok (.bool false) W := neq31 5
          clear g9 g10
          go_wp2_with fail
          go_quiet (fail)
          go_wp2_with fail
          go_roundw
          case rel => exact ⟨k + 1, by omega, by go_num, bel_drewN (HB.out.alloc hsz _) _⟩
          case measure => simp [intOf]; omega
        · have g10' : wr.cell? ⟨G10, k, none⟩ = some (.int .i64 (x : Int)) := by rw [g10]; simp [mvV, mv, hx5]
          have hx0 : ¬ ((x : Int) < 0) := by omega
          have hx0' : (0 : Int) ≤ (x : Int) := by omega
          have hne := neq31 x
          have hbw : ∀ o, Below wr.heap.size wr (wr.alloc o) := fun o => (Below.refl _ _).alloc (Nat.le_refl _) _
          have HNX := hidI (fun o => name_any (x : Int) x (by omega) (by omega) (by omega) (wr.alloc o) v1 (by
            rw [(hbw o).cell (p := ⟨1, 0, none⟩) (by show 1 < _; omega), HB.out.cell (p := ⟨1, 0, none⟩) (by show 1 < _; omega)]
            exact (HBB4.out.cell (p := ⟨1, 0, none⟩) h1w).trans HV.out))
          clear g10
          go_wp2_with fail
          refine (HNX.out _).mono ?_
          rintro e w5 ⟨rfl, hb5⟩
          have hlt5 : ∀ o, wr.heap.size < (wr.alloc o).heap.size := fun o => by rw [World.size_alloc]; omega
          have d9 : w5.cell? ⟨G9, k, none⟩ = some (nmS x) := by rw [hb5.cell (p := ⟨G9, k, none⟩) (Nat.lt_trans l9r (hlt5 _)), (hbw _).cell (p := ⟨G9, k, none⟩) l9r]; exact g9
          have d12 : w5.cell? ⟨wr.heap.size, 0, none⟩ = some (.string ⟨#[]⟩) := by rw [hb5.cell (p := ⟨wr.heap.size, 0, none⟩) (hlt5 _)]; simp
          have f12 : w5.frozen? ⟨wr.heap.size, 0, none⟩ = false := by rw [hb5.frozen (p := ⟨wr.heap.size, 0, none⟩) (hlt5 _)]; simp
          have HB5 := hidI ((HB.out.alloc hsz _).trans (hb5.mono (Nat.le_trans hsz (Nat.le_of_lt (hlt5 _)))))
          have hn9 : G9 ≠ wr.heap.size := by omega
          have hn9' : wr.heap.size ≠ G9 := by omega
          clear hb5 g9 g10'
          go_wp2_with fail
          go_quiet (fail)
          go_wp2_with fail
          go_roundw
          case rel => exact ⟨k + 1, by omega, by go_num, bel_drewN (HB5.out.setCell hsz _) _⟩
          case measure => simp [intOf]; omega
      · obtain rfl : k = L := by omega
        clear hb
        go_wp2_with fail
        go_ret
        exact ⟨rfl, HBB4.out.trans (HB.out.mono hsw)⟩
  · have hn' : (1024 : Int) < (rs.length : Int) := by omega
    generalize rs.length = n at hn' hn ⊢
    go_enter Ybaf.func6, Ybaf.ntmps6
    go_wp2_with fail
    go_ret
    exact ⟨rfl, Below.refl _ _⟩

end Go.Proofs.YbulkaiaFmt
