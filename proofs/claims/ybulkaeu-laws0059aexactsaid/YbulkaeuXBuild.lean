/-
  Seat b0059a, LawS0059AExact: the contract of build (7).
-/
import Derived.Test.YbulkaeuXParts
import Derived.Deep.RegionHeld3
import Derived.Deep.CutBlock
import Derived.Deep.CutRange
set_option linter.unusedSimpArgs false
set_option linter.unusedVariables false
namespace Go.Proofs.Ybulkaeu
open Go.RowKit

theorem Yba.xinfo40 : (Yba.prog.info? 40).map (fun i => (i.zero, i.size, i.bytes)) = some (some (.pointer none), 1, 8) := by kernel_rfl
theorem Yba.xinfo3 : (Yba.prog.info? 3).map (fun i => (i.zero, i.size, i.bytes)) = some (some (.int .i64 0), 1, 8) := by kernel_rfl
theorem Yba.xinfo4 : (Yba.prog.info? 4).map (fun i => (i.zero, i.size, i.bytes)) = some (some (.bool false), 1, 1) := by kernel_rfl
theorem Yba.xinfo34 : (Yba.prog.info? 34).map (fun i => (i.zero, i.size, i.bytes)) = some (some (.int .u64 0), 1, 8) := by kernel_rfl
theorem Yba.xinfo95 : (Yba.prog.info? 95).map (fun i => (i.zero, i.size, i.bytes)) = some (some (.agg #[.int .i32 0, .int .u64 0, .bool false, .int .i32 0, .string ⟨#[]⟩, .slice none 0 0]), 6, 64) := by kernel_rfl
theorem xinfo_parts {P : Program} {e : TypeId} {z : Value} {s b : Nat} (h : (P.info? e).map (fun i => (i.zero, i.size, i.bytes)) = some (some z, s, b)) :
    ∃ i, P.info? e = some i ∧ i.zero = some z ∧ i.size = s ∧ i.bytes = b := by
  cases hi : P.info? e with
  | none => simp [hi] at h
  | some i => simp [hi] at h; exact ⟨i, rfl, h.1, h.2.1, h.2.2⟩

theorem make_n {t e : TypeId} {z : Value} {by' : Nat} (ht : Yba.prog.underlying t = some (.slice e)) (hz1 : z.cells = #[z]) (h : (Yba.prog.info? e).map (fun i => (i.zero, i.size, i.bytes)) = some (some z, 1, by')) (hb8 : by' ≤ 8) (x : Int) (N : Nat) (hx : x = (N : Int)) (hN : N ≤ 65536) (W : World) :
    (Instr.makeSlice t (.int .i64 x) (.int .i64 x)).run Yba.prog W = .ok (.slice (some ⟨W.heap.size, 0, none⟩) N N) (W.alloc (.cells (madeCells #[z] N) e)) := by
  obtain ⟨i, hi, hz, hs, hb⟩ := xinfo_parts h
  subst hx
  have hr := run_make (P := Yba.prog) W t e i z ht hi hz .i64 .i64 (N : Int) (N : Int) (by omega) (by omega) (by rw [hb]; have : (by' : Int) * (N : Int) ≤ 8 * 65536 := Int.mul_le_mul (by omega) (by omega) (by omega) (by omega); omega) (by omega)
  rw [hz1, hs] at hr
  simpa using hr

theorem BL.start (w : World) (n : Nat) (ns : List Pl.Nd) : BL w n ns 0 0 0 (((((w.alloc (.cells (madeCells #[.pointer none] n) 40)).alloc (.cells (madeCells #[.int .i64 0] n) 3)).alloc (.cells (madeCells #[.bool false] (n * n)) 4)).alloc (.cells (madeCells #[.int .u64 0] (n * n)) 34)).alloc (.cells (madeCells #[.bool false] (n * n)) 4)) := by
  have ht : ∀ m, Pl.tab ns n 0 0 m = none := fun m => by
    unfold Pl.tab
    simp
    intro _
    cases ns[0]? <;> simp [Pl.ent]
  have ab : ∀ (W : World) (o : Obj), Below W.heap.size W (W.alloc o) := fun W o => (Below.refl _ _).alloc (Nat.le_refl _) _
  refine ⟨?_, by simp, ?_, ?_, ?_, ?_, fun _ => 0, ?_, fun k hk => by omega⟩
  · exact (((((Below.refl _ _).alloc (Nat.le_refl _) _).alloc (by simp) _).alloc (by simp; omega) _).alloc (by simp; omega) _).alloc (by simp; omega) _
  · have h := ArrIs.made (w.alloc (.cells (madeCells #[.pointer none] n) 40)) 3 (.int .i64 0) n
    rw [World.size_alloc] at h
    exact (((h.below (ab _ _)).below (ab _ _)).below (ab _ _)).congr (fun m _ => by simp)
  · have h := ArrIs.made ((w.alloc (.cells (madeCells #[.pointer none] n) 40)).alloc (.cells (madeCells #[.int .i64 0] n) 3)) 4 (.bool false) (n * n)
    rw [World.size_alloc, World.size_alloc] at h
    exact ((h.below (ab _ _)).below (ab _ _)).congr (fun m _ => by rw [ht]; rfl)
  · have h := ArrIs.made (((w.alloc (.cells (madeCells #[.pointer none] n) 40)).alloc (.cells (madeCells #[.int .i64 0] n) 3)).alloc (.cells (madeCells #[.bool false] (n * n)) 4)) 34 (.int .u64 0) (n * n)
    rw [World.size_alloc, World.size_alloc, World.size_alloc] at h
    exact (h.below (ab _ _)).congr (fun m _ => by rw [ht]; rfl)
  · have h := ArrIs.made ((((w.alloc (.cells (madeCells #[.pointer none] n) 40)).alloc (.cells (madeCells #[.int .i64 0] n) 3)).alloc (.cells (madeCells #[.bool false] (n * n)) 4)).alloc (.cells (madeCells #[.int .u64 0] (n * n)) 34)) 4 (.bool false) (n * n)
    rw [World.size_alloc, World.size_alloc, World.size_alloc, World.size_alloc] at h
    exact h.congr (fun m _ => by rw [ht]; rfl)
  · have h := ArrIs.made w 40 (.pointer none) n
    exact ((((h.below (ab _ _)).below (ab _ _)).below (ab _ _)).below (ab _ _)).congr (fun m _ => by simp)

abbrev SX (B X : Nat) (x : Pl.Src) (w : World) : Prop := w.cell? ⟨B + 3, X, none⟩ = some (.int .u64 ((x.seq % 3 : Nat) : Int)) ∧ w.cell? ⟨B + 4, X, none⟩ = some (.bool x.act)

set_option maxRecDepth 100000 in
set_option maxHeartbeats 3200000 in
theorem build_any (a : Option Addr) (bb oo cap : Nat) (ns : List Pl.Nd) (w : World) (ha : 0 < ns.length → a = some ⟨bb, oo, none⟩) (hin : InAt w bb oo ns) (hsm : Pl.small ns) :
    Calls Yba.prog 7 #[.slice a ns.length cap] w fun e w' => e = .returned (.tuple #[.slice (some ⟨w.heap.size, 0, none⟩) ns.length ns.length, .slice (some ⟨w.heap.size + 1, 0, none⟩) ns.length ns.length, .slice (some ⟨w.heap.size + 2, 0, none⟩) (ns.length * ns.length) (ns.length * ns.length), .slice (some ⟨w.heap.size + 3, 0, none⟩) (ns.length * ns.length) (ns.length * ns.length), .slice (some ⟨w.heap.size + 4, 0, none⟩) (ns.length * ns.length) (ns.length * ns.length)]) ∧ BL w ns.length ns ns.length ns.length 0 w' := by
  obtain ⟨hn, hsrc⟩ := hsm
  obtain ⟨n, hnn⟩ : ∃ n, n = ns.length := ⟨_, rfl⟩
  have HN := hidI hnn
  have HA := hidI ha
  have HI := hidI hin
  have HS := hidI hsrc
  have hBL := BL.start w ns.length ns
  rw [← hnn] at hn HA hBL ⊢
  obtain ⟨N2, hN2⟩ : ∃ N2, N2 = n * n := ⟨_, rfl⟩
  have hN2b : N2 ≤ 65536 := by rw [hN2]; exact Nat.mul_le_mul hn hn
  have hm1 : (n : Int) * (n : Int) = (N2 : Int) := by rw [hN2]; simp
  have hmw : IntKind.i64.wrap ((n : Int) * (n : Int)) = (N2 : Int) := by rw [hm1, IntKind.wrap_i64]; omega
  rw [← hN2] at hBL ⊢
  have hk24 := fun W => make_n Yba.underlying24 rfl Yba.xinfo40 (by decide) (n : Int) n rfl (by omega) W
  have hk25 := fun W => make_n Yba.underlying25 rfl Yba.xinfo3 (by decide) (n : Int) n rfl (by omega) W
  have hk26 := fun W => make_n Yba.underlying26 rfl Yba.xinfo4 (by decide) (N2 : Int) N2 rfl hN2b W
  have hk27 := fun W => make_n Yba.underlying27 rfl Yba.xinfo34 (by decide) (N2 : Int) N2 rfl hN2b W
  have HBL := hidI hBL
  have HN2 := hidI hN2
  clear hnn ha hin hsrc hBL hN2
  go_enter Yba.func7, Yba.ntmps7
  go_wp2_with fail
  rw [show w.heap.size + 1 + 1 + 1 + 1 = w.heap.size + 4 from rfl, show w.heap.size + 1 + 1 + 1 = w.heap.size + 3 from rfl, show w.heap.size + 1 + 1 = w.heap.size + 2 from rfl]
  generalize (((((w.alloc (Obj.cells (madeCells #[Value.pointer none] n) 40)).alloc (Obj.cells (madeCells #[Value.int IntKind.i64 0] n) 3)).alloc (Obj.cells (madeCells #[Value.bool false] N2) 4)).alloc (Obj.cells (madeCells #[Value.int IntKind.u64 0] N2) 34)).alloc (Obj.cells (madeCells #[Value.bool false] N2) 4)) = W0 at HBL ⊢
  clear hk24 hk25 hk26 hk27
  go_loopw [13] (fun i wr => ∃ k : Nat, k ≤ n ∧ i = .int .i64 k ∧ BL w n ns k k 0 wr) (fun i _ => n - (intOf i).toNat)
  case atStart => exact ⟨0, by omega, rfl, HBL.out⟩
  case round =>
    clear HBL
    obtain ⟨k, hk, rfl, hL⟩ := hrel
    have HL := hidI hL
    by_cases hlt : k < n
    · obtain rfl := HA.out (by omega)
      obtain ⟨nd, hnd⟩ : ∃ nd, ns[k]? = some nd := ⟨ns[k]'(by rw [← HN.out]; exact hlt), by simp⟩
      have HND := hidI hnd
      obtain ⟨hp, c0, a2, cp2, c1, hsr⟩ := HI.out k nd hnd
      have hbb : bb < w.heap.size := World.block_lt_of_cell? w _ c0
      rw [← hL.bel.cell (p := ⟨bb, oo + k * 2, none⟩) hbb] at c0
      rw [← hL.bel.cell (p := ⟨bb, oo + k * 2 + 1, none⟩) hbb] at c1
      have hnl := HS.out nd (List.mem_of_getElem? hnd)
      have cp := hL.part.cell hlt
      have fp := hL.part.free k
      simp only [Nat.lt_irrefl, if_false] at cp
      have hpart : Pl.part ns k = nd.part % 3 := by simp [Pl.part, hnd]
      have HL1 := hidI (hL.setPart hlt)
      rw [hpart] at HL1
      obtain ⟨R, hR⟩ : ∃ R, R = k * n := ⟨_, rfl⟩
      have hRN : R + n ≤ N2 := by
        have h1 : (k + 1) * n ≤ n * n := Nat.mul_le_mul_right n hlt
        have h2 := HN2.out
        have h3 : (k + 1) * n = k * n + n := by rw [Nat.add_mul]; omega
        omega
      have hr1 : (k : Int) * (n : Int) = (R : Int) := by rw [hR]; simp
      have hrw : IntKind.i64.wrap ((k : Int) * (n : Int)) = (R : Int) := by rw [hr1, IntKind.wrap_i64]; omega
      have HR := hidI hR
      have HSR := hidI hsr
      have hcast : (((nd.part % 3 : Nat) : Int)) = (nd.part : Int) % 3 := by omega
      rw [hcast] at HL1
      have hne : bb ≠ w.heap.size + 1 := by omega
      clear hcast hpart hnd hR hL hsr
      go_wp2_with fail
      generalize wr.setCell ⟨w.heap.size + 1, k, none⟩ (.int .i64 ((nd.part : Int) % 3)) = W1 at HL1 ⊢
      clear c0 c1 cp fp hne HL
      obtain ⟨T, hT⟩ : ∃ T, T = nd.srcs.length := ⟨_, rfl⟩
      rw [← hT] at hnl ⊢
      have HT := hidI hT
      clear hT
      go_loopw [62] (fun i wq => ∃ t : Nat, t ≤ T ∧ i = .int .i64 t ∧ BL w n ns k (k + 1) t wq) (fun i _ => T - (intOf i).toNat)
      case atStart => exact ⟨0, by omega, rfl, HL1.out⟩
      case round =>
        clear HL1
        obtain ⟨t, ht, rfl, hL⟩ := hrel
        have HL := hidI hL
        by_cases htl : t < T
        · obtain ⟨b3, o3, rfl, hsc⟩ := HSR.out (by have := HT.out; omega)
          obtain ⟨x, hx⟩ : ∃ x, nd.srcs[t]? = some x := ⟨nd.srcs[t]'(by rw [← HT.out]; exact htl), by simp⟩
          obtain ⟨px, qx, s0, s1, s2⟩ := hsc t x hx
          have hb3 : b3 < w.heap.size := World.block_lt_of_cell? w _ s0
          rw [← hL.bel.cell (p := ⟨b3, _, none⟩) hb3] at s0 s1 s2
          have HX := hidI hx
          obtain ⟨pk, sq, ac⟩ := x
          dsimp only at px qx s0 s1 s2
          obtain ⟨jj, hjj⟩ : ∃ jj, jj = pk % n := ⟨_, rfl⟩
          have hjn : jj < n := by rw [hjj]; exact Nat.mod_lt _ (by omega)
          have hj1 : (pk : Int) % (n : Int) = (jj : Int) := by rw [hjj]; simp
          have hj2 : (pk : Int).tmod (n : Int) = (jj : Int) := by rw [Int.tmod_eq_emod_of_nonneg (by omega)]; exact hj1
          have hn0 : ¬ ((n : Int) = 0) := by omega
          have hix : k * n + jj < n * n := by have h1 := HR.out; have h2 := HN2.out; omega
          have e2 := hL.has.cell hix
          have e3 := hL.seq.cell hix
          have e4 := hL.act.cell hix
          have f2 := hL.has.free (k * n + jj)
          have f3 := hL.seq.free (k * n + jj)
          have f4 := hL.act.free (k * n + jj)
          have HJ := hidI hjj
          rw [← HR.out] at e2 e3 e4 f2 f3 f4
          have hsz := hL.size
          have hl2 : w.heap.size + 2 < wr.heap.size := by omega
          have hl3 : w.heap.size + 3 < wr.heap.size := by omega
          have hl4 : w.heap.size + 4 < wr.heap.size := by omega
          have hcast : (((sq % 3 : Nat) : Int)) = (sq : Int) % 3 := by omega
          clear hsc hx hjj hL hix
          cases htab : Pl.tab ns n k t (R + jj) with
          | some x0 =>
            have HSK := hidI (HL.out.skip (by omega) HND.out HX.out HJ.out (by rw [← HR.out]; exact htab))
            rw [htab] at e2
            have e2' : wr.cell? ⟨w.heap.size + 2, R + jj, none⟩ = some (.bool true) := e2
            clear e2 e3 e4 htab hcast
            go_wp2_with fail
            go_roundw
            case rel => exact ⟨t + 1, by omega, by go_num, HSK.out.below ((Below.refl _ _).alloc (Nat.le_refl _) _)⟩
            case measure => simp [intOf]; omega
          | none =>
            have HPU := hidI (HL.out.put (by omega) HND.out HX.out HJ.out (by rw [← HR.out]; exact htab))
            rw [← HR.out] at HPU
            rw [htab] at e2 e3 e4
            have e2' : wr.cell? ⟨w.heap.size + 2, R + jj, none⟩ = some (.bool false) := e2
            have e3' : wr.cell? ⟨w.heap.size + 3, R + jj, none⟩ = some (.int .u64 0) := e3
            have e4' : wr.cell? ⟨w.heap.size + 4, R + jj, none⟩ = some (.bool false) := e4
            dsimp only at HPU
            rw [hcast] at HPU
            clear e2 e3 e4 htab hcast
            go_wp2_with fail
            go_roundw
            case rel => exact ⟨t + 1, by omega, by go_num, HPU.out.below ((Below.refl _ _).alloc (Nat.le_refl _) _)⟩
            case measure => simp [intOf]; omega
        · obtain rfl : t = T := by omega
          clear hL
          go_wp2_with fail
          obtain ⟨wo, rfl⟩ : ∃ wo : World, wo = wr := ⟨_, rfl⟩
          have hsw := HL.out.size
          go_loopw [18, 19] (fun v i wq => ∃ jx : Nat, jx ≤ n ∧ i = .int .i64 jx ∧ Below wo.heap.size wo wq ∧ wq.ownsRow wo.heap.size 95 6 v (Pl.sts ns n k jx).length ((Pl.sts ns n k jx).flatMap Pl.St.cells)) (fun _ i _ => n - (intOf i).toNat)
          case atStart => exact ⟨0, by omega, rfl, Below.refl _ _, World.ownsRow_nil _ _ _ _⟩
          case round =>
            obtain ⟨jx, hjx, rfl, hb, hown⟩ := hrel
            have HB := hidI hb
            have HO := hidI hown
            obtain ⟨va, vc, rfl⟩ := own_form hown
            by_cases hjl : jx < n
            · obtain ⟨X, hX⟩ : ∃ X, X = R + jx := ⟨_, rfl⟩
              have hXN : X < n * n := by have h2 := HN2.out; omega
              have hL2 := HL.out.below hb
              have e2 := hL2.has.cell hXN
              have e3 := hL2.seq.cell hXN
              have e4 := hL2.act.cell hXN
              have htr : Pl.tab ns n k t X = Pl.e ns n k jx := by
                have := tab_row (n := n) HND.out hjl
                rw [← HT.out, ← HR.out, ← hX] at this
                exact this
              rw [htr] at e2 e3 e4
              have hwX : IntKind.i64.wrap ((R : Int) + (jx : Int)) = (X : Int) := by rw [hX, IntKind.wrap_i64]; omega
              have hX1 : (R : Int) + (jx : Int) = (X : Int) := by rw [hX]; omega
              have hX2 : (X : Int) < (N2 : Int) := by have h2 := HN2.out; omega
              have hX0 : (0 : Int) ≤ (X : Int) := by omega
              have hwX3 : IntKind.i64.wrap (X : Int) = (X : Int) := by rw [IntKind.wrap_i64]; omega
              have hXn : ¬ ((X : Int) < 0) := by omega
              have hsu := sts_succ ns n k jx
              clear hb hown hL2 htr hX
              cases he : Pl.e ns n k jx with
              | none =>
                rw [he] at hsu e2
                have e2' : wr.cell? ⟨w.heap.size + 2, X, none⟩ = some (.bool false) := e2
                have HSU : Hid (Pl.sts ns n k (jx + 1) = Pl.sts ns n k jx) := hidI (by rw [hsu]; simp)
                clear e2 e3 e4 hsu he
                go_wp2_with fail
                go_roundw
                case rel => exact ⟨jx + 1, by omega, by go_num, HB.out, by rw [HSU.out]; exact HO.out⟩
                case measure => simp [intOf]; omega
              | some x =>
                rw [he] at hsu e2 e3 e4
                have e2' : wr.cell? ⟨w.heap.size + 2, X, none⟩ = some (.bool true) := e2
                have e3' : wr.cell? ⟨w.heap.size + 3, X, none⟩ = some (.int .u64 ((x.seq % 3 : Nat) : Int)) := e3
                have e4' : wr.cell? ⟨w.heap.size + 4, X, none⟩ = some (.bool x.act) := e4
                have HSU : Hid (Pl.sts ns n k (jx + 1) = Pl.sts ns n k jx ++ [Pl.st jx x]) := hidI (by rw [hsu]; simp)
                obtain ⟨i95, hi95, hz95, hs95, hb95⟩ := xinfo_parts Yba.xinfo95
                have hjw : IntKind.i32.wrap (jx : Int) = (jx : Int) := by rw [IntKind.wrap_i32]; omega
                have hsl := sts_len ns n k jx
                have HS0 : Hid (SX w.heap.size X x wr) := hidI ⟨e3', e4'⟩
                have HSd : Hid (SX w.heap.size X x wr.drew) := HS0
                have hszr : wo.heap.size ≤ wr.heap.size := HB.out.size
                have hl3 : w.heap.size + 3 < wr.heap.size := by omega
                have hl4 : w.heap.size + 4 < wr.heap.size := by omega
                have HS1 : Hid (∀ o, SX w.heap.size X x (wr.alloc o).drew) := hidI (fun o => ⟨(World.cell?_alloc_past _ _ _ hl3).trans e3', (World.cell?_alloc_past _ _ _ hl4).trans e4'⟩)
                have HOA : Hid (((wr.alloc (.cells #[.int .i32 (jx : Int), .int .u64 ((x.seq : Int) % 3), .bool x.act, .int .i32 0, .string ⟨#[]⟩, .slice none 0 0] 95)).drew).ownsRow wo.heap.size 95 6 (.slice va (Pl.sts ns n k jx).length vc) (Pl.sts ns n k jx).length ((Pl.sts ns n k jx).flatMap Pl.St.cells)) := hidI (HO.out.alloc _)
                have HCN : Hid (∀ j u, (#[.int .i32 (jx : Int), .int .u64 ((x.seq : Int) % 3), .bool x.act, .int .i32 0, .string ⟨#[]⟩, .slice none 0 0] : Array Value).toList[j]? = some u → ((wr.alloc (.cells #[.int .i32 (jx : Int), .int .u64 ((x.seq : Int) % 3), .bool x.act, .int .i32 0, .string ⟨#[]⟩, .slice none 0 0] 95)).drew).cell? ((⟨wr.heap.size, 0, none⟩ : Addr).add j) = some u) := hidI (news_cells wr #[.int .i32 (jx : Int), .int .u64 ((x.seq : Int) % 3), .bool x.act, .int .i32 0, .string ⟨#[]⟩, .slice none 0 0] 95)
                have h1c : ∀ u ∈ (#[.int .i32 (jx : Int), .int .u64 ((x.seq : Int) % 3), .bool x.act, .int .i32 0, .string ⟨#[]⟩, .slice none 0 0] : Array Value).toList, u.oneCell' = true := by
                  intro u hu
                  simp at hu
                  rcases hu with rfl | rfl | rfl | rfl | rfl | rfl <;> rfl
                have hml : (Pl.sts ns n k jx).length + 1 ≤ maxLen := by unfold maxLen; omega
                have hby : ((Pl.sts ns n k jx).length + 1) * 64 ≤ 140737488355328 := by omega
                have hba : wo.heap.size ≤ ((wr.alloc (.cells #[.int .i32 (jx : Int), .int .u64 ((x.seq : Int) % 3), .bool x.act, .int .i32 0, .string ⟨#[]⟩, .slice none 0 0] 95)).drew).heap.size := by
                  show _ ≤ (wr.alloc _).heap.size
                  rw [World.size_alloc]; omega
                have HFX : Hid (∀ v' w3, w3.ownsRow wo.heap.size 95 6 v' ((Pl.sts ns n k jx).length + 1) ((Pl.sts ns n k jx).flatMap Pl.St.cells ++ (#[.int .i32 (jx : Int), .int .u64 ((x.seq : Int) % 3), .bool x.act, .int .i32 0, .string ⟨#[]⟩, .slice none 0 0] : Array Value).toList) → ((wr.alloc (.cells #[.int .i32 (jx : Int), .int .u64 ((x.seq : Int) % 3), .bool x.act, .int .i32 0, .string ⟨#[]⟩, .slice none 0 0] 95)).drew).grownBy w3 (Value.slice va (Pl.sts ns n k jx).length vc).ownBlock → (Below wo.heap.size wo w3 ∧ w3.ownsRow wo.heap.size 95 6 v' (Pl.sts ns n k (jx + 1)).length ((Pl.sts ns n k (jx + 1)).flatMap Pl.St.cells)) ∧ SX w.heap.size X x w3) := hidI (fun v' w3 h3 h4 => by
                  have hbA : Below wo.heap.size wo (wr.alloc (.cells #[.int .i32 (jx : Int), .int .u64 ((x.seq : Int) % 3), .bool x.act, .int .i32 0, .string ⟨#[]⟩, .slice none 0 0] 95)).drew := (HB.out.alloc HB.out.size _).drew
                  have hlo : ∀ k', (Value.slice va (Pl.sts ns n k jx).length vc).ownBlock = some k' → wo.heap.size ≤ k' := fun k' hk' => (HO.out.lt k' hk').1
                  refine ⟨⟨hbA.grown h4 hba hlo, ?_⟩, ?_⟩
                  · rw [HSU.out, List.flatMap_append, List.length_append]
                    have e : (#[.int .i32 (jx : Int), .int .u64 ((x.seq : Int) % 3), .bool x.act, .int .i32 0, .string ⟨#[]⟩, .slice none 0 0] : Array Value).toList = [Pl.st jx x].flatMap Pl.St.cells := by simp [Pl.st, Pl.St.cells]
                    rw [e] at h3
                    exact h3
                  · have hk3 : some (w.heap.size + 3) ≠ (Value.slice va (Pl.sts ns n k jx).length vc).ownBlock := fun e => by have := hlo _ e.symm; omega
                    have hk4 : some (w.heap.size + 4) ≠ (Value.slice va (Pl.sts ns n k jx).length vc).ownBlock := fun e => by have := hlo _ e.symm; omega
                    have hsx := HS1.out (.cells #[.int .i32 (jx : Int), .int .u64 ((x.seq : Int) % 3), .bool x.act, .int .i32 0, .string ⟨#[]⟩, .slice none 0 0] 95)
                    have hq : wr.heap.size < (wr.alloc (.cells #[.int .i32 (jx : Int), .int .u64 ((x.seq : Int) % 3), .bool x.act, .int .i32 0, .string ⟨#[]⟩, .slice none 0 0] 95)).drew.heap.size := by show _ < (wr.alloc _).heap.size; rw [World.size_alloc]; omega
                    exact ⟨(World.cell?_of_block (h4.block _ (Nat.lt_trans hl3 hq) hk3)).trans hsx.1, (World.cell?_of_block (h4.block _ (Nat.lt_trans hl4 hq) hk4)).trans hsx.2⟩)
                clear e2 e3 e4 hsu he
                go_wp2_with fail
                go_region_held3 (fun w' => SX w.heap.size X x w')
                  (first | with_reducible exact HS3.out | with_reducible exact HS1.out _ | with_reducible exact HSd.out | with_reducible exact HS0.out)
                  (first
                    | (refine step_appG (by rfl) _ _ 42 (by rfl) wo.heap.size 95 i95 _ 6 64 Yba.underlying42 hi95 hz95 hs95 hb95 rfl (by decide) (.slice va (Pl.sts ns n k jx).length vc) (Pl.sts ns n k jx).length ((Pl.sts ns n k jx).flatMap Pl.St.cells) (by rfl) HOA.out ⟨wr.heap.size, 0, none⟩ 1 1 (#[.int .i32 (jx : Int), .int .u64 ((x.seq : Int) % 3), .bool x.act, .int .i32 0, .string ⟨#[]⟩, .slice none 0 0] : Array Value).toList (by rfl) (by rfl) HCN.out h1c hml hby hba ?_; intro v' w3 hown3 hgrow3; obtain ⟨hrl, hs3⟩ := HFX.out v' w3 hown3 hgrow3; have HRL := hidI hrl; have HS3 := hidI hs3; clear hown3 hgrow3 hrl hs3)
                    | fail)
                all_goals
                  go_wp2_with fail
                  go_roundw
                  case rel => exact ⟨jx + 1, by omega, by go_num, HRL.out.1, HRL.out.2⟩
                  case measure => simp [intOf]; omega
            · obtain rfl : jx = n := by omega
              have hL2 := HL.out.below hb
              obtain ⟨nb, hA, _⟩ := hL2.nodes
              have g0 := hA.cell hlt
              have f0 := hA.free k
              simp only [Nat.lt_irrefl, if_false] at g0
              have hw0 : w.heap.size < wr.heap.size := by have := hL2.size; omega
              have hkI : (k : Int) < (jx : Int) := by omega
              have HL2 := hidI hL2
              clear hb hown hL2 hA
              go_wp2_with fail
              refine ⟨⟨k + 1, by omega, by go_num, ?_⟩, by simp [intOf]; omega⟩
              have hno := NodeIn.of_row (k := k) HO.out (lo := w.heap.size + 5) hsw (by have := HB.out.size; omega)
              have hfin := BL.node HND.out (HT.out ▸ HL2.out.below ((Below.refl _ _).alloc (Nat.le_refl _) (.cells #[.int .i32 (k : Int), .slice none 0 0, .slice none 0 0, .slice va (Pl.sts ns jx k jx).length vc] 44))) hno
              rw [World.setCell_alloc_past _ _ _ _ hw0] at hfin
              exact hfin
    · obtain rfl : k = n := by omega
      clear hL
      go_wp2_with fail
      exact bodyPost_ret (v := .tuple #[.slice (some ⟨w.heap.size, 0, none⟩) k k, .slice (some ⟨w.heap.size + 1, 0, none⟩) k k, .slice (some ⟨w.heap.size + 2, 0, none⟩) N2 N2, .slice (some ⟨w.heap.size + 3, 0, none⟩) N2 N2, .slice (some ⟨w.heap.size + 4, 0, none⟩) N2 N2]) (by simp [results, Yba.results7, go_sem]) rfl ⟨rfl, HL.out⟩

end Go.Proofs.Ybulkaeu
