/-
  Seat b0065aF: the contract of model (19): it computes the plain chase.
-/
import Derived.Test.YbulkaiaFmtModelParts
set_option linter.unusedSimpArgs false
set_option linter.unusedVariables false
namespace Go.Proofs.YbulkaiaFmt
open Go.RowKit

set_option maxRecDepth 100000 in
set_option maxHeartbeats 3200000 in
theorem model_any (a : Option Addr) (bb oo cap : Nat) (j : Nat) (hj : j < 5) (q : Int) (rs : List Pl.Rec) (w : World) (ha : 0 < rs.length → a = some ⟨bb, oo, none⟩) (hrs : RecsAt w bb oo rs) (hn : rs.length ≤ 1024) :
    Calls Ybaf.prog 19 #[.slice a rs.length cap, .int .i64 (j : Int), .int .u16 q] w fun e w' => ∃ v, e = .returned v ∧ Below w.heap.size w w' ∧ w'.ownsRow w.heap.size 3 1 v (Pl.chase rs j q).length ((Pl.chase rs j q).map mvV) := by
  obtain ⟨i3, hi3, hz3, hs3, hb3⟩ := info_parts Ybaf.info3
  have HRS := hidI hrs
  have HA := hidI ha
  obtain ⟨n, hnn⟩ : ∃ n, n = rs.length := ⟨_, rfl⟩
  rw [← hnn] at hn HA ⊢
  have HN := hidI hnn
  have hS := ML.start w rs j hj
  clear hrs ha hnn
  by_cases h5 : q = 5
  · subst h5
    have HS := hidI hS
    clear hS
    go_enter Ybaf.func19, Ybaf.ntmps19
    go_wp2_with fail
    go_ret
    exact ⟨_, rfl, HS.out.bel, HS.out.own⟩
  · have hq5 : (q == 5) = false := by simpa using h5
    have hqd : decide (q = 5) = false := by simpa using h5
    have hch : Pl.chase rs j q = Pl.go rs 16 [j] := by simp [Pl.chase, h5]
    rw [hch]
    clear hch
    have HS := hidI hS
    clear hS
    go_enter Ybaf.func19, Ybaf.ntmps19
    go_wp2_with fail
    generalize (w.alloc (.cells #[.int .i64 (j : Int)] 3)) = W0 at HS ⊢
    go_loopw [7, 8, 9] (fun v c i wr => ∃ (k : Nat) (p : List Nat), k ≤ 16 ∧ i = .int .i64 k ∧ c = mvV (p.getLastD 5) ∧ ML w.heap.size w rs j k p v wr) (fun _ _ i _ => 16 - (intOf i).toNat)
    case atStart => exact ⟨0, [j], by omega, rfl, by simp [mv, show j ≠ 5 by omega], HS.out⟩
    case round =>
      clear HS
      obtain ⟨k, p, hk, rfl, rfl, hL⟩ := hrel
      have HL := hidI hL
      by_cases hlt : k < 16
      · obtain ⟨la, hla⟩ : ∃ la, la = p.getLastD 5 := ⟨_, rfl⟩
        have hl6 : la < 6 := by rw [hla]; exact last_lt hL.ids
        rw [← hla]
        have HLA := hidI hla
        clear hla hL
        by_cases hl5 : la = 5
        · subst hl5
          have hmv : mvV 5 = .int .i64 (-1) := rfl
          rw [hmv]
          have hfin : Pl.go rs 16 [j] = p := by
            rw [← HL.out.run, show 16 - k = (15 - k) + 1 by omega]
            simp only [Pl.go, ← HLA.out, first5]
          have HFIN := hidI hfin
          clear hfin hmv
          go_wp2_with fail
          go_ret
          refine ⟨_, rfl, HL.out.bel, ?_⟩
          rw [HFIN.out, HL.out.len]
          exact HL.out.own
        · have hl5' : la < 5 := by omega
          have hmv : mvV la = .int .i64 (la : Int) := by simp [mvV, mv, hl5]
          rw [hmv]
          clear hmv
          have hsz := HL.out.size
          go_wp2_with fail
          obtain ⟨wo, rfl⟩ : ∃ wo : World, wo = wr := ⟨_, rfl⟩
          have hd1 : decide ((k : Int) < 16) = true := by simp; omega
          have hd2 : decide ((la : Int) < 0) = false := by simp
          simp only [hd1, hd2]
          clear hd1 hd2
          go_loopw [10, 11] (fun f i wq => ∃ m : Nat, m ≤ n ∧ i = .int .i64 m ∧ f = .int .i64 (-1) ∧ Below wo.heap.size wo wq ∧ Pl.first (rs.take m) la = none) (fun _ i _ => n - (intOf i).toNat)
          case atStart => exact ⟨0, by omega, rfl, rfl, Below.refl _ _, by simp [Pl.first]⟩
          case round =>
            obtain ⟨m, hm, rfl, rfl, hb, hfn⟩ := hrel
            have HB := hidI hb
            have HFN := hidI hfn
            by_cases hmn : m < n
            · obtain rfl := HA.out (by omega)
              obtain ⟨r, hr⟩ : ∃ r, rs[m]? = some r := ⟨rs[m]'(by rw [← HN.out]; exact hmn), by simp⟩
              have HR := hidI hr
              obtain ⟨⟨ok1, ok2, ok3, ok4⟩, c0, c1, c2, c3, c4⟩ := HRS.out m r hr
              have hold : bb < w.heap.size := World.block_lt_of_cell? w _ c0
              rw [← HL.out.bel.cell hold, ← hb.cell (by show bb < _; omega)] at c0 c1 c2 c3 c4
              obtain ⟨ro, rt, rc, rg, rb⟩ := r
              dsimp only at ok1 ok2 ok3 ok4 c0 c1 c2 c3 c4
              clear hr hb hfn
              have hty0 := fun W => (type_any rt ok2 W).mono (fun e w' h => (⟨h.1, h.2.symm⟩ : e = _ ∧ W = w'))
              have hcl0 := fun W => (class_any rc ok3 W).mono (fun e w' h => (⟨h.1, h.2.symm⟩ : e = _ ∧ W = w'))
              have HK := hidI (fun (x : Nat) (hx : x < 256) W => (key_any x hx W).mono (fun e w' h => (⟨h.1, h.2.symm⟩ : e = _ ∧ W = w')))
              rcases typ_two rt with hty | hty
              · have HH := hidI (hit_typ (j := la) (r := ⟨ro, rt, rc, rg, rb⟩) hty)
                rw [hty] at hty0
                have HTY := hidI hty0
                clear hty0 hcl0
                go_wp2_with (go_at_call 28; refine (HTY.out _).mono ?_; rintro e w' ⟨rfl, rfl⟩)
                go_roundw
                case rel => exact ⟨m + 1, by omega, by go_num, rfl, HB.out.alloc HB.out.size _, (first_skip HR.out HH.out).trans HFN.out⟩
                case measure => simp [intOf]; omega
              · rw [hty] at hty0
                have HTY := hidI hty0
                rcases cls_two rc with hcl | hcl
                · have HH := hidI (hit_cls (j := la) (r := ⟨ro, rt, rc, rg, rb⟩) hcl)
                  rw [hcl] at hcl0
                  have HCL := hidI hcl0
                  clear hty0 hcl0
                  go_wp2_with (first | (go_at_call 28; refine (HTY.out _).mono ?_; rintro e w' ⟨rfl, rfl⟩) | (go_at_call 29; refine (HCL.out _).mono ?_; rintro e w' ⟨rfl, rfl⟩))
                  go_roundw
                  case rel => exact ⟨m + 1, by omega, by go_num, rfl, HB.out.alloc HB.out.size _, (first_skip HR.out HH.out).trans HFN.out⟩
                  case measure => simp [intOf]; omega
                · rw [hcl] at hcl0
                  have HCL := hidI hcl0
                  have hkl := key_lw ro la hl5'
                  have hhit : Pl.hit la ⟨ro, rt, rc, rg, rb⟩ = (Pl.key ro == Pl.key la) := by simp only [Pl.hit, hty, hcl, hkl]; rfl
                  clear hty0 hcl0 hkl
                  have hla256 : la < 256 := by omega
                  cases hq : (Pl.key ro == Pl.key la)
                  · rw [hq] at hhit
                    have HH := hidI hhit
                    clear hhit
                    go_wp2_with (first | (go_at_call 28; refine (HTY.out _).mono ?_; rintro e w' ⟨rfl, rfl⟩) | (go_at_call 29; refine (HCL.out _).mono ?_; rintro e w' ⟨rfl, rfl⟩) | (go_at_call 32; refine (HK.out _ (by omega) _).mono ?_; rintro e w' ⟨rfl, rfl⟩))
                    go_roundw
                    case rel => exact ⟨m + 1, by omega, by go_num, rfl, HB.out.alloc HB.out.size _, (first_skip HR.out HH.out).trans HFN.out⟩
                    case measure => simp [intOf]; omega
                  · rw [hq] at hhit
                    have HFI := hidI (first_hit HFN.out HR.out hhit)
                    clear hhit
                    have HMR := hidI (HL.out.below (HB.out.alloc HB.out.size (.cells #[.int .u8 ro, .int .u8 rt, .int .u8 rc, .int .u8 rg, .bool rb] 69)))
                    obtain ⟨v7a, v7c, rfl⟩ := own_form HMR.out.own
                    have h1c : ∀ x : Int, ∀ u ∈ [Value.int .i64 x], u.oneCell' = true := by intro x u hu; simp at hu; subst hu; rfl
                    have hml : k + 1 + 1 ≤ maxLen := by unfold maxLen; omega
                    have hby : (k + 1 + 1) * 8 ≤ 140737488355328 := by omega
                    have hm0 : ¬ ((m : Int) < 0) := by omega
                    have hbbr : bb < wr.heap.size := World.block_lt_of_cell? wr _ c0
                    cases rb
                    · have hzz : w.heap.size ≤ ((wr.alloc (.cells #[.int .u8 ro, .int .u8 rt, .int .u8 rc, .int .u8 rg, .bool false] 69)).alloc (.cells #[.int .i64 ((rg : Int) % 5)] 3)).heap.size := by
                        have := HMR.out.size; rw [World.size_alloc]; omega
                      go_wp2_with (first | (go_at_call 28; refine (HTY.out _).mono ?_; rintro e w' ⟨rfl, rfl⟩) | (go_at_call 29; refine (HCL.out _).mono ?_; rintro e w' ⟨rfl, rfl⟩) | (go_at_call 32; refine (HK.out _ (by omega) _).mono ?_; rintro e w' ⟨rfl, rfl⟩) | (at_builtin; refine wpList_append_own_at _ rfl (.tmp 69) (.tmp 71) 54 rfl w.heap.size 3 i3 _ 1 8 Ybaf.underlying54 hi3 hz3 hs3 hb3 rfl (by decide) (.slice v7a (k + 1) v7c) (k + 1) (p.map mvV) rfl (HMR.out.own.alloc _) ⟨wr.heap.size + 1, 0, none⟩ 1 1 [.int .i64 ((rg : Int) % 5)] rfl rfl (news_cells3 _ _ _) (h1c _) hml hby hzz ?_; intro v' w3 hown3 hgrow3 _ _; have HO3 := hidI hown3; have HG3 := hidI hgrow3; clear hown3 hgrow3))
                      go_roundw
                      case rel =>
                        have h3 := HO3.out
                        rw [show Value.int .i64 ((rg : Int) % 5) = mvV (idOf (rg % 5) false) by simp [mvV, mv, idOf]; omega] at h3
                        exact ⟨k + 1, p ++ [idOf (rg % 5) false], by omega, by go_num, by simp [mv, idOf]; omega, HMR.out.more hlt (HLA.out ▸ HFI.out) rfl h3 HG3.out⟩
                      case measure => simp [intOf]; omega
                    · have hzz : w.heap.size ≤ ((wr.alloc (.cells #[.int .u8 ro, .int .u8 rt, .int .u8 rc, .int .u8 rg, .bool true] 69)).alloc (.cells #[.int .i64 (-1)] 3)).heap.size := by
                        have := HMR.out.size; rw [World.size_alloc]; omega
                      go_wp2_with (first | (go_at_call 28; refine (HTY.out _).mono ?_; rintro e w' ⟨rfl, rfl⟩) | (go_at_call 29; refine (HCL.out _).mono ?_; rintro e w' ⟨rfl, rfl⟩) | (go_at_call 32; refine (HK.out _ (by omega) _).mono ?_; rintro e w' ⟨rfl, rfl⟩) | (at_builtin; refine wpList_append_own_at _ rfl (.tmp 69) (.tmp 71) 54 rfl w.heap.size 3 i3 _ 1 8 Ybaf.underlying54 hi3 hz3 hs3 hb3 rfl (by decide) (.slice v7a (k + 1) v7c) (k + 1) (p.map mvV) rfl (HMR.out.own.alloc _) ⟨wr.heap.size + 1, 0, none⟩ 1 1 [.int .i64 (-1)] rfl rfl (news_cells3 _ _ _) (h1c _) hml hby hzz ?_; intro v' w3 hown3 hgrow3 _ _; have HO3 := hidI hown3; have HG3 := hidI hgrow3; clear hown3 hgrow3))
                      go_roundw
                      case rel =>
                        have h3 := HO3.out
                        rw [show Value.int .i64 (-1) = mvV (idOf (rg % 5) true) by rfl] at h3
                        exact ⟨k + 1, p ++ [idOf (rg % 5) true], by omega, by go_num, by simp [mv, idOf], HMR.out.more hlt (HLA.out ▸ HFI.out) rfl h3 HG3.out⟩
                      case measure => simp [intOf]; omega
            · obtain rfl : m = n := by omega
              clear hb hfn
              have hfin : Pl.go rs 16 [j] = p := by
                have h0 : Pl.first rs la = none := by have := HFN.out; rwa [HN.out, List.take_length] at this
                rw [← HL.out.run, show 16 - k = (15 - k) + 1 by omega]
                simp only [Pl.go, ← HLA.out, h0]
              have HFIN := hidI hfin
              clear hfin
              go_wp2_with fail
              go_ret
              refine ⟨_, rfl, HL.out.bel.trans (HB.out.mono hsz), ?_⟩
              rw [HFIN.out, HL.out.len]
              exact HL.out.own.kept (grown_of_below HB.out none) (Classical.em _)
      · obtain rfl : k = 16 := by omega
        clear hL
        go_wp2_with fail
        go_ret
        refine ⟨_, rfl, HL.out.bel, ?_⟩
        have hfin : Pl.go rs 16 [j] = p := by rw [← HL.out.run]; rfl
        rw [hfin, HL.out.len]
        exact HL.out.own

end Go.Proofs.YbulkaiaFmt
