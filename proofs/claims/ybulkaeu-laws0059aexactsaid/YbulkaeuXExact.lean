/-
  Seat b0059a, LawS0059AExact: the walk of the law (3).
-/
import Derived.Test.YbulkaeuXLawRel
import Derived.Test.YbulkaeuXEvalWalk
set_option linter.unusedSimpArgs false
set_option linter.unusedVariables false
namespace Go.Proofs.Ybulkaeu
open Go.RowKit Go.Maps

theorem own_skip {S : Nat → List Pl.St} {i : Nat} (h : Pl.seqOf (S i) i = 0) : Pl.own S (i + 1) = Pl.own S i := by rw [own_succ]; simp [h]
theorem own_step {S : Nat → List Pl.St} {i : Nat} (h : 0 < Pl.seqOf (S i) i) : (Pl.own S (i + 1)).length = (Pl.own S i).length + 1 := by rw [own_succ, if_pos h]; simp

set_option maxRecDepth 100000 in
set_option maxHeartbeats 6400000 in
theorem exact_any (a : Option Addr) (bb oo cap : Nat) (ns : List Pl.Nd) (w : World) (ha : 0 < ns.length → a = some ⟨bb, oo, none⟩) (hin : InAt w bb oo ns) (hnm : ns.length < 9223372036854775808) :
    Calls Yba.prog 3 #[.slice a ns.length cap] w fun e w' => e = .returned (.bool true) ∧ Below w.heap.size w w' := by
  have HG := hidI (guard_any a bb oo cap ns w ha hin hnm)
  have HA := hidI ha
  have HI := hidI hin
  obtain ⟨n, hnn⟩ : ∃ n, n = ns.length := ⟨_, rfl⟩
  have HN := hidI hnn
  rw [← hnn] at hnm HG HA ⊢
  clear ha hin hnn
  go_enter Yba.func3, Yba.ntmps3
  go_wp2_with fail
  refine (HG.out).mono ?_
  rintro e w1 ⟨rfl | ⟨rfl, hsm⟩, rfl⟩
  · go_wp2_with fail
    go_ret
    exact ⟨rfl, Below.refl _ _⟩
  · have HB := hidI (build_any a bb oo cap ns w (by rw [← HN.out]; exact HA.out) HI.out hsm)
    have hn : n ≤ 256 := by rw [HN.out]; exact hsm.1
    rw [← HN.out] at HB
    clear HG hsm
    obtain ⟨N2, hN2⟩ : ∃ N2, N2 = n * n := ⟨_, rfl⟩
    have hN2b : N2 ≤ 65536 := by rw [hN2]; exact Nat.mul_le_mul hn hn
    have hm1 : (n : Int) * (n : Int) = (N2 : Int) := by rw [hN2]; simp
    have hmw : IntKind.i64.wrap ((n : Int) * (n : Int)) = (N2 : Int) := by rw [hm1, IntKind.wrap_i64]; omega
    have HN2 := hidI hN2
    rw [← hN2] at HB
    clear hN2
    go_wp2_with fail
    refine (HB.out).mono ?_
    rintro e wb ⟨rfl, hBL⟩
    have HBL := hidI hBL
    have HEV := hidI (eval_any n w.heap.size (w.heap.size + 1) (Pl.part ns) (fun k => Pl.sts ns n k n) wb hn (EV.ofBL hBL))
    clear HB hBL
    go_wp2_with fail
    refine (HEV.out).mono ?_
    rintro e we ⟨v, base, hbase, rfl, hbe, hrow⟩
    obtain ⟨va, vc, rfl⟩ := own_form hrow
    have hst : Pl.stall (fun k => Pl.sts ns n k n) n 0 = Pl.anyAct ns n N2 := by rw [stall_any ns n _ (fun _ => rfl), HN2.out]
    have HXA := hidI (XL.start (st := Pl.anyAct ns n N2) (sv := Pl.starve (Pl.part ns) (fun k => Pl.sts ns n k n) n (Pl.own (fun k => Pl.sts ns n k n) n).length) HBL.out hbe hrow)
    rw [hst]
    obtain ⟨LN, hLN⟩ : ∃ LN, LN = (Pl.own (fun k => Pl.sts ns n k n) n).length := ⟨_, rfl⟩
    have hLNb : LN ≤ 256 := by rw [hLN]; exact Nat.le_trans (own_len _ n) hn
    have HLN := hidI hLN
    rw [← hLN] at HXA ⊢
    obtain ⟨SV, hSV⟩ : ∃ SV, SV = Pl.starve (Pl.part ns) (fun k => Pl.sts ns n k n) n LN := ⟨_, rfl⟩
    have HSV := hidI hSV
    rw [← hSV] at HXA ⊢
    obtain ⟨ST, hST⟩ : ∃ ST, ST = Pl.anyAct ns n N2 := ⟨_, rfl⟩
    have HST := hidI hST
    rw [← hST] at HXA ⊢
    clear HEV HBL hbe hrow hst hLN hSV hST
    go_wp2_with fail
    obtain ⟨B9, hB9⟩ : ∃ B9, B9 = we.heap.size := ⟨_, rfl⟩
    rw [← hB9] at HXA ⊢
    generalize we.alloc (.cells #[.slice va LN vc, .bool ST, .bool SV] 32) = wA at HXA ⊢
    clear hB9
    go_loop [10, 11] (fun s i => ∃ k : Nat, k ≤ N2 ∧ i = .int .i64 k ∧ s = .bool (Pl.anyAct ns n k)) (fun _ i => N2 - (intOf i).toNat)
    case atStart => exact ⟨0, by omega, rfl, rfl⟩
    case round =>
      obtain ⟨k, hk, rfl, rfl⟩ := hrel
      by_cases hlt : k < N2
      · have hXA := HXA.out
        have hk2 : k < n * n := by rw [← HN2.out]; exact hlt
        have c2 := hXA.has.cell hk2
        have c4 := hXA.act.cell hk2
        have hsu := anyAct_succ ns n k
        have hz : (Pl.e ns n (k / n) (k % n)).isSome = false → Pl.actE (Pl.e ns n (k / n) (k % n)) = false := by cases Pl.e ns n (k / n) (k % n) <;> simp [Pl.actE]
        have hkI : (k : Int) < (N2 : Int) := by omega
        clear hXA hk2
        generalize (Pl.e ns n (k / n) (k % n)).isSome = h2 at c2 hz
        generalize Pl.actE (Pl.e ns n (k / n) (k % n)) = h4 at c4 hz hsu
        generalize Pl.anyAct ns n k = s0 at hsu
        have HSU := hidI hsu
        clear hsu
        cases h2
        · obtain rfl := hz rfl
          clear hz
          go_wp2_with fail
          go_round
          case rel => exact ⟨k + 1, by omega, by go_num, by rw [HSU.out]; simp⟩
          case measure => simp [intOf]; omega
        · clear hz
          cases h4
          all_goals
            go_wp2_with fail
            go_round
            case rel => exact ⟨k + 1, by omega, by go_num, by rw [HSU.out]; simp⟩
            case measure => simp [intOf]; omega
      · obtain rfl : k = N2 := by omega
        go_wp2_with fail
        rw [← HST.out]
        clear hlt hk
        obtain ⟨N2, rfl⟩ : ∃ N2 : Nat, N2 = k := ⟨_, rfl⟩
        have HS : Hid (∀ k, (fun k => Pl.sts ns n k n) k = Pl.sts ns n k n) := hidI (fun _ => rfl)
        generalize hSS : (fun k => Pl.sts ns n k n) = S at HLN HSV HS
        have HSS := hidI hSS
        clear hSS
        go_loopw [12, 13, 14] (fun sv ix i wq => ∃ k : Nat, k ≤ n ∧ i = .int .i64 k ∧ ix = .int .i64 ((Pl.own S k).length : Int) ∧ sv = .bool (Pl.starve (Pl.part ns) S n (Pl.own S k).length) ∧ Below wA.heap.size wA wq) (fun _ _ i _ => n - (intOf i).toNat)
        case atStart => exact ⟨0, by omega, rfl, rfl, rfl, Below.refl _ _⟩
        case round =>
          obtain ⟨k, hk, rfl, rfl, rfl, hb⟩ := hrel
          have HB := hidI hb
          by_cases hlt : k < n
          · have hX := HXA.out.below hb
            have HX := hidI hX
            obtain ⟨R, hR⟩ : ∃ R, R = k * n := ⟨_, rfl⟩
            have hix := idx_lt hlt hlt
            have c2 := hX.hasAt hlt hlt
            have c3 := hX.seqAt hlt hlt
            have hsq := seqOf_sts (ns := ns) (k := k) hlt
            rw [← HS.out k] at hsq
            rw [← hR] at c2 c3 hix
            rw [← HN2.out] at hix
            have hr1 : (k : Int) * (n : Int) = (R : Int) := by rw [hR]; simp
            have hrw : IntKind.i64.wrap ((k : Int) * (n : Int)) = (R : Int) := by rw [hr1, IntKind.wrap_i64]; omega
            obtain ⟨X, hXe⟩ : ∃ X, X = R + k := ⟨_, rfl⟩
            rw [← hXe] at c2 c3 hix
            have hX1 : (R : Int) + (k : Int) = (X : Int) := by rw [hXe]; omega
            have hXw : IntKind.i64.wrap ((R : Int) + (k : Int)) = (X : Int) := by rw [hX1, IntKind.wrap_i64]; omega
            have hX2 : (X : Int) < (N2 : Int) := by omega
            have hX0 : (0 : Int) ≤ (X : Int) := by omega
            have hXn : ¬ ((X : Int) < 0) := by omega
            have hXw2 : IntKind.i64.wrap (X : Int) = (X : Int) := by rw [IntKind.wrap_i64]; omega
            have hkI : (k : Int) < (n : Int) := by omega
            have HR := hidI hR
            have HXE := hidI hXe
            have hz : (Pl.e ns n k k).isSome = false → Pl.seqE (Pl.e ns n k k) = 0 := by cases Pl.e ns n k k <;> simp [Pl.seqE]
            have hol : (Pl.own S k).length ≤ 256 := Nat.le_trans (own_len S k) (by omega)
            clear hX hR hXe hb
            by_cases h0 : Pl.seqE (Pl.e ns n k k) = 0
            · have HOS := hidI (own_skip (hsq.trans h0))
              rw [h0] at c3
              clear hz h0 hsq
              generalize (Pl.e ns n k k).isSome = h2 at c2
              obtain ⟨ow, how⟩ : ∃ ow, ow = (Pl.own S k).length := ⟨_, rfl⟩
              rw [← how] at hol ⊢
              obtain ⟨sv0, hsv0⟩ : ∃ sv0, sv0 = Pl.starve (Pl.part ns) S n ow := ⟨_, rfl⟩
              rw [← hsv0]
              have HOW := hidI how
              have HSV0 := hidI hsv0
              clear how hsv0
              cases h2
              all_goals
                go_wp2_with fail
                exact ⟨⟨k + 1, by omega, by go_num, by rw [HOS.out, ← HOW.out], by rw [HOS.out, ← HOW.out, ← HSV0.out], HB.out⟩, by simp [intOf]; omega⟩
            · have hso : (Pl.e ns n k k).isSome = true := by
                cases hh : (Pl.e ns n k k).isSome with
                | true => rfl
                | false => exact absurd (hz hh) h0
              rw [hso] at c2
              have c4 := HX.out.actAt hlt hlt
              rw [← HR.out, ← HXE.out] at c4
              have hpos : 0 < Pl.seqOf (S k) k := by rw [hsq]; omega
              have hat := own_at hlt hpos
              have HOS := hidI (own_step hpos)
              have HSU := hidI (starve_succ (P := Pl.part ns) hat)
              have hHH := held_hold hlt S HS.out n
              have hac := actOf_sts (ns := ns) (k := k) hlt
              rw [← HS.out k] at hac
              obtain ⟨ow, how⟩ : ∃ ow, ow = (Pl.own S k).length := ⟨_, rfl⟩
              rw [← how] at hol hat HOS HSU ⊢
              obtain ⟨sv0, hsv0⟩ : ∃ sv0, sv0 = Pl.starve (Pl.part ns) S n ow := ⟨_, rfl⟩
              rw [← hsv0] at HSU ⊢
              have HOW := hidI how
              have HSV0 := hidI hsv0
              have HAT := hidI hat
              have HHH := hidI hHH
              have HAC := hidI hac
              have HSQ := hidI hsq
              obtain ⟨sq, hsqe⟩ : ∃ sq, sq = Pl.seqE (Pl.e ns n k k) := ⟨_, rfl⟩
              rw [← hsqe] at c3 h0 HSQ
              obtain ⟨ac, hace⟩ : ∃ ac, ac = Pl.actE (Pl.e ns n k k) := ⟨_, rfl⟩
              rw [← hace] at c4 HAC
              have HSQE := hidI hsqe
              have HACE := hidI hace
              have hsq0 : ¬ ((sq : Int) = 0) := by omega
              clear how hsv0 hat hHH hac hsq hsqe hace hz hso hpos h0
              go_wp2_with fail
              obtain ⟨wo, rfl⟩ : ∃ wo : World, wo = wr := ⟨_, rfl⟩
              go_loopw [16, 17, 18] (fun r h q wq => ∃ t : Nat, t ≤ n ∧ q = .int .i64 t ∧ r = .int .i64 (Pl.cnt (Pl.part ns) t (Pl.part ns k : Int) : Int) ∧ h = .int .i64 (Pl.hold ns n k t : Int) ∧ Below wo.heap.size wo wq) (fun _ _ q _ => n - (intOf q).toNat)
              case atStart => exact ⟨0, by omega, rfl, rfl, rfl, Below.refl _ _⟩
              case round =>
                obtain ⟨t, ht, rfl, rfl, rfl, hb⟩ := hrel
                have HB2 := hidI hb
                have hX := HX.out.below hb
                clear c2 c3 c4
                by_cases htl : t < n
                · have p1 := hX.part.cell htl
                  have p2 := hX.part.cell hlt
                  have hcs := cnt_succ (Pl.part ns) t (Pl.part ns k : Int)
                  have hhs := hold_succ ns n k t
                  have hcl := cnt_le (Pl.part ns) t (Pl.part ns k : Int)
                  have hhl := hold_le ns n k t
                  have htI : (t : Int) < (n : Int) := by omega
                  by_cases hpt : Pl.part ns t = Pl.part ns k
                  · obtain ⟨Rt, hRt⟩ : ∃ Rt, Rt = t * n := ⟨_, rfl⟩
                    have hixt := idx_lt htl hlt
                    have d2 := hX.hasAt htl hlt
                    have d3 := hX.seqAt htl hlt
                    have c3 := hX.seqAt hlt hlt
                    rw [← HR.out, ← HXE.out, ← HSQE.out] at c3
                    rw [← hRt] at d2 d3 hixt
                    rw [← HN2.out] at hixt
                    have hrt1 : (t : Int) * (n : Int) = (Rt : Int) := by rw [hRt]; simp
                    have hrtw : IntKind.i64.wrap ((t : Int) * (n : Int)) = (Rt : Int) := by rw [hrt1, IntKind.wrap_i64]; omega
                    obtain ⟨Xt, hXt⟩ : ∃ Xt, Xt = Rt + k := ⟨_, rfl⟩
                    rw [← hXt] at d2 d3 hixt
                    have hXt1 : (Rt : Int) + (k : Int) = (Xt : Int) := by rw [hXt]; omega
                    have hXtw : IntKind.i64.wrap ((Rt : Int) + (k : Int)) = (Xt : Int) := by rw [hXt1, IntKind.wrap_i64]; omega
                    have hXt2 : (Xt : Int) < (N2 : Int) := by omega
                    have hXt0 : (0 : Int) ≤ (Xt : Int) := by omega
                    have hXtn : ¬ ((Xt : Int) < 0) := by omega
                    have hXtw2 : IntKind.i64.wrap (Xt : Int) = (Xt : Int) := by rw [IntKind.wrap_i64]; omega
                    simp only [hpt, decide_true, Bool.true_and, Pl.holds, if_true] at hcs hhs
                    rw [← HSQE.out] at hhs
                    rw [hpt] at p1
                    clear hX hb hRt hXt hpt
                    generalize Pl.part ns k = pk at p1 p2 hcs hcl ⊢
                    generalize Pl.cnt (Pl.part ns) t (pk : Int) = C at hcs hcl ⊢
                    generalize Pl.hold ns n k t = H at hhs hhl ⊢
                    generalize (Pl.e ns n t k).isSome = h2 at d2 hhs
                    generalize Pl.seqE (Pl.e ns n t k) = sq2 at d3 hhs
                    have HCS := hidI hcs
                    clear hcs
                    cases h2
                    · have HHS : Hid (Pl.hold ns n k (t + 1) = H) := hidI (by rw [hhs]; simp)
                      clear hhs
                      go_wp2_with fail
                      go_quiet (fail)
                      go_wp2_with fail
                      go_quiet (fail)
                      go_wp2_with fail
                      exact ⟨⟨t + 1, by omega, by go_num, by rw [HCS.out]; go_num, by rw [HHS.out], bel_drewN HB2.out _⟩, by simp [intOf]; omega⟩
                    · by_cases hse : sq2 = sq
                      · have HHS : Hid (Pl.hold ns n k (t + 1) = H + 1) := hidI (by rw [hhs, hse]; simp)
                        rw [hse] at d3
                        clear hhs hse
                        go_wp2_with fail
                        go_quiet (fail)
                        go_wp2_with fail
                        go_quiet (fail)
                        go_wp2_with fail
                        exact ⟨⟨t + 1, by omega, by go_num, by rw [HCS.out]; go_num, by rw [HHS.out]; go_num, bel_drewN HB2.out _⟩, by simp [intOf]; omega⟩
                      · have HHS : Hid (Pl.hold ns n k (t + 1) = H) := hidI (by rw [hhs]; simp [hse])
                        have hseI : ¬ ((sq2 : Int) = (sq : Int)) := by omega
                        clear hhs hse
                        go_wp2_with fail
                        go_quiet (fail)
                        go_wp2_with fail
                        go_quiet (fail)
                        go_wp2_with fail
                        exact ⟨⟨t + 1, by omega, by go_num, by rw [HCS.out]; go_num, by rw [HHS.out], bel_drewN HB2.out _⟩, by simp [intOf]; omega⟩
                  · have hptI : ¬ ((Pl.part ns t : Int) = (Pl.part ns k : Int)) := by omega
                    have HCS : Hid (Pl.cnt (Pl.part ns) (t + 1) (Pl.part ns k : Int) = Pl.cnt (Pl.part ns) t (Pl.part ns k : Int)) := hidI (by rw [hcs, if_neg hptI]; omega)
                    have HHS : Hid (Pl.hold ns n k (t + 1) = Pl.hold ns n k t) := hidI (by rw [hhs]; simp [hpt])
                    clear hX hb hpt hcs hhs
                    generalize Pl.part ns k = pk at p2 HCS hcl hptI ⊢
                    generalize Pl.part ns t = pt at p1 hptI
                    generalize Pl.cnt (Pl.part ns) t (pk : Int) = C at HCS hcl ⊢
                    generalize Pl.hold ns n k t = H at HHS hhl ⊢
                    go_wp2_with fail
                    go_quiet (fail)
                    go_wp2_with fail
                    exact ⟨⟨t + 1, by omega, by go_num, by rw [HCS.out], by rw [HHS.out], bel_drewN HB2.out _⟩, by simp [intOf]; omega⟩
                · obtain rfl : t = n := by omega
                  have d0 := cell_of_row wr _ 0 _ _ _ hX.out
                  simp at d0
                  rw [HSS.out, ← HLN.out] at d0
                  have hrow := hX.row
                  rw [HSS.out, ← HLN.out] at hrow
                  have hat := HAT.out
                  have howl : ow < LN := by rw [HLN.out]; exact (List.getElem?_eq_some_iff.1 hat).1
                  rcases hrow.2 with ⟨_, h1⟩ | ⟨g, cap5, cur5, hv, hg, _⟩
                  · omega
                  obtain ⟨rfl, rfl⟩ : va = some ⟨g, 0, none⟩ ∧ vc = cap5 := by simpa using hv
                  have ec : ∀ q, q < 5 → wr.cell? ⟨g, ow * 5 + q, none⟩ = (Pl.stand (Pl.part ns) S t (Pl.held (Pl.part ns) S t 0) k)[q]? := fun q hq => (World.ownsRow.cellAt hrow (ow * 5 + q) (by omega)).trans (stand_cell hat q hq)
                  have e0 : wr.cell? ⟨g, ow * 5, none⟩ = some (.int .i32 (k : Int)) := ec 0 (by omega)
                  have e1 : wr.cell? ⟨g, ow * 5 + 1, none⟩ = some (.int .u64 (Pl.seqOf (S k) k : Int)) := ec 1 (by omega)
                  have e2 : wr.cell? ⟨g, ow * 5 + 2, none⟩ = some (.int .i64 (Pl.held (Pl.part ns) S t 0 k : Int)) := ec 2 (by omega)
                  have e3 : wr.cell? ⟨g, ow * 5 + 3, none⟩ = some (.int .i64 (Pl.cnt (Pl.part ns) t (Pl.part ns k : Int) : Int)) := ec 3 (by omega)
                  have e4 : wr.cell? ⟨g, ow * 5 + 4, none⟩ = some (.bool (!Pl.actOf (S k) k)) := ec 4 (by omega)
                  rw [HSQ.out] at e1
                  rw [HHH.out] at e2
                  rw [HAC.out] at e4
                  rw [HHH.out] at HSU
                  have hgl := (hrow.lt g rfl).2
                  have c3 := hX.seqAt hlt hlt
                  rw [← HR.out, ← HXE.out, ← HSQE.out] at c3
                  have c4 := hX.actAt hlt hlt
                  rw [← HR.out, ← HXE.out, ← HACE.out] at c4
                  have hkw : IntKind.i32.wrap (k : Int) = (k : Int) := by rw [IntKind.wrap_i32]; omega
                  have howI : (ow : Int) < (LN : Int) := by omega
                  have hl2 : w.heap.size + 3 < wr.heap.size := hX.seq.lt
                  have hl3 : w.heap.size + 4 < wr.heap.size := hX.act.lt
                  have hlB : B9 < wr.heap.size := (Array.getElem?_eq_some_iff.1 hX.out).1
                  have HBW : Hid (Below wA.heap.size wA wr) := hidI (HB.out.trans (HB2.out.mono HB.out.size))
                  have hhl := hold_le ns t k t
                  have hcl := cnt_le (Pl.part ns) t (Pl.part ns k : Int)
                  clear hX hb hrow hat ec hv HX
                  generalize Pl.cnt (Pl.part ns) t (Pl.part ns k : Int) = C at e3 hcl HSU ⊢
                  generalize Pl.hold ns t k t = H at e2 hhl HSU ⊢
                  by_cases hHC : H < C
                  · simp only [hHC, decide_true, Bool.or_true] at HSU
                    have hHCI : (H : Int) < (C : Int) := by omega
                    cases ac
                    all_goals
                      go_wp2_with fail
                      go_quiet (fail)
                      go_wp2_with fail
                      exact ⟨⟨k + 1, by omega, by go_num, by rw [HOS.out]; go_num, by rw [HOS.out, HSU.out], bel_drewN (HBW.out.alloc HBW.out.size _) _⟩, by simp [intOf]; omega⟩
                  · simp only [hHC, decide_false, Bool.or_false] at HSU
                    have hHCI : ¬ ((H : Int) < (C : Int)) := by omega
                    cases ac
                    all_goals
                      go_wp2_with fail
                      go_quiet (fail)
                      go_wp2_with fail
                      exact ⟨⟨k + 1, by omega, by go_num, by rw [HOS.out]; go_num, by rw [HOS.out, HSU.out], bel_drewN (HBW.out.alloc HBW.out.size _) _⟩, by simp [intOf]; omega⟩
          · obtain rfl : k = n := by omega
            have hX := HXA.out.below hb
            have d0 := cell_of_row wr _ 0 _ _ _ hX.out
            have d1 := cell_of_row wr _ 1 _ _ _ hX.out
            have d2 := cell_of_row wr _ 2 _ _ _ hX.out
            simp at d0 d1 d2
            rw [HSS.out, ← HLN.out] at d0
            rw [← HLN.out, ← HSV.out]
            have HBW : Hid (Below w.heap.size w wr) := hidI hX.bel
            clear hX hb
            go_wp2_with fail
            go_ret
            exact ⟨rfl, HBW.out⟩

end Go.Proofs.Ybulkaeu
