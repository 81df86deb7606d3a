/-
  Seat b0059a, LawS0059AExact: the walk of Evaluate (8).
-/
import Derived.Test.YbulkaeuXEvalRel
set_option linter.unusedSimpArgs false
set_option linter.unusedVariables false
namespace Go.Proofs.Ybulkaeu
open Go.RowKit Go.Maps

theorem Yba.xinfo37 : (Yba.prog.info? 37).map (fun i => (i.zero, i.size, i.bytes)) = some (some (.agg #[.int .i32 0, .int .u64 0, .int .i64 0, .int .i64 0, .bool false]), 5, 40) := by kernel_rfl

theorem atF_none {P : Nat → Nat} {S : Nat → List Pl.St} {n i : Nat} (h : (Pl.own S n).idxOf? i = none) : Pl.atF P S n (i : Int) = none := by simp [Pl.atF, h]
theorem atF_some {P : Nat → Nat} {S : Nat → List Pl.St} {n i q : Nat} (h : (Pl.own S n).idxOf? i = some q) : Pl.atF P S n (i : Int) = some (.agg #[.int .i64 (q : Int), .int .i64 (P i : Int)]) := by simp [Pl.atF, h]
theorem idx_get {L : List Nat} {i q : Nat} (h : L.idxOf? i = some q) : L[q]? = some i := by
  unfold List.idxOf? at h
  rw [List.findIdx?_eq_some_iff_getElem] at h
  obtain ⟨hl, hq, _⟩ := h
  rw [List.getElem?_eq_getElem hl]
  simpa using hq
theorem miss_none {P : Nat → Nat} {S : Nat → List Pl.St} {n k : Nat} {s : Pl.St} (h : (Pl.own S n).idxOf? s.id = none) : ∀ i ∈ Pl.own S n, Pl.hit P S i k s = false := by
  intro i hi
  rw [List.idxOf?_eq_none_iff] at h
  have : s.id ≠ i := fun e => h (e ▸ hi)
  simp [Pl.hit, this]
theorem miss_seq {P : Nat → Nat} {S : Nat → List Pl.St} {n k : Nat} {s : Pl.St} (h : ¬ (s.seq = Pl.seqOf (S s.id) s.id ∧ P k = P s.id)) : ∀ i ∈ Pl.own S n, Pl.hit P S i k s = false := by
  intro i hi
  cases hh : Pl.hit P S i k s with
  | false => rfl
  | true =>
    simp [Pl.hit] at hh
    obtain ⟨⟨rfl, h1⟩, h2⟩ := hh
    exact absurd ⟨h1, h2⟩ h
theorem stand_cell {P : Nat → Nat} {S : Nat → List Pl.St} {n : Nat} {h : Nat → Nat} {i : Nat} : ∀ {L : List Nat} {q : Nat}, L[q]? = some i → ∀ x, x < 5 → (L.flatMap (Pl.stand P S n h))[q * 5 + x]? = (Pl.stand P S n h i)[x]?
  | [], q, hq, _, _ => by simp at hq
  | a :: L, 0, hq, x, hx => by
    simp at hq
    subst hq
    rw [List.flatMap_cons, List.getElem?_append_left (by show _ < 5; omega)]
    congr 1
    omega
  | a :: L, q + 1, hq, x, hx => by
    rw [List.flatMap_cons, List.getElem?_append_right (by show 5 ≤ _; omega), show (q + 1) * 5 + x - (Pl.stand P S n h a).length = q * 5 + x by show (q + 1) * 5 + x - 5 = _; omega]
    exact stand_cell (by simpa using hq) x hx
theorem own_free {w : World} {base e size g n cap : Nat} {xs : List Value} (h : w.ownsRow base e size (.slice (some ⟨g, 0, none⟩) n cap) n xs) (x : Nat) : w.frozen? ⟨g, x, none⟩ = false := by
  rcases h.2 with ⟨h1, _⟩ | ⟨g', cap', cur, hv, _, hh, _⟩
  · simp at h1
  · simp at hv
    obtain ⟨rfl, rfl⟩ := hv
    simp [World.frozen?, hh]

theorem set_drewN (w : World) (n : Nat) (a : Addr) (v : Value) : (w.drewN n).setCell a v = (w.setCell a v).drewN n := rfl
theorem E5.start {w : World} {n : Nat} {P : Nat → Nat} {S : Nat → List Pl.St} {M : Nat} {va : Option Addr} {vc : Nat} {wr : World} (h : E3 w n P S M n 0 wr) (h1 : wr.heap[w.heap.size + 1]? = some (.cells #[.slice va (Pl.own S n).length vc, .bool (Pl.stall S n 0), .bool false] 32 (0, 0))) (h2 : wr.ownsRow (M + 1) 37 5 (.slice va (Pl.own S n).length vc) (Pl.own S n).length ((Pl.own S n).flatMap (Pl.stand P S n (Pl.held P S n 0)))) : E5 w n P S M 0 va vc wr :=
  ⟨h.bel, h.size, h.res, by simpa [Pl.starve] using h1, h2⟩

theorem E5.fin {w : World} {n : Nat} {P : Nat → Nat} {S : Nat → List Pl.St} {M x : Nat} {va : Option Addr} {vc : Nat} {wr : World} (h : E5 w n P S M x va vc wr) (hMs : w.heap.size + 3 ≤ M) (p q : Bool) :
    ((((wr.setCell ⟨w.heap.size, 0, none⟩ (.slice va (Pl.own S n).length vc)).setCell ⟨w.heap.size, 1, none⟩ (.bool p)).setCell ⟨w.heap.size, 2, none⟩ (.bool q)).heap[w.heap.size]? = some (.cells #[.slice va (Pl.own S n).length vc, .bool p, .bool q] 32 (0, 0))) ∧
    Below w.heap.size w (((wr.setCell ⟨w.heap.size, 0, none⟩ (.slice va (Pl.own S n).length vc)).setCell ⟨w.heap.size, 1, none⟩ (.bool p)).setCell ⟨w.heap.size, 2, none⟩ (.bool q)) ∧
    (((wr.setCell ⟨w.heap.size, 0, none⟩ (.slice va (Pl.own S n).length vc)).setCell ⟨w.heap.size, 1, none⟩ (.bool p)).setCell ⟨w.heap.size, 2, none⟩ (.bool q)).ownsRow (M + 1) 37 5 (.slice va (Pl.own S n).length vc) (Pl.own S n).length ((Pl.own S n).flatMap (Pl.stand P S n (Pl.held P S n 0))) := by
  have hne : (Value.slice va (Pl.own S n).length vc).ownBlock = none ∨ (Value.slice va (Pl.own S n).length vc).ownBlock ≠ some w.heap.size := Or.inr (fun e => by have := (h.row.lt _ e).1; omega)
  refine ⟨?_, ((h.bel.setCell (Nat.le_refl _) _).setCell (Nat.le_refl _) _).setCell (Nat.le_refl _) _, ((h.row.kept (grown_set _ _ _ _) hne).kept (grown_set _ _ _ _) hne).kept (grown_set _ _ _ _) hne⟩
  have h1 := heap_set_same (m := 0) h.res (.slice va (Pl.own S n).length vc)
  have h2 := heap_set_same (m := 1) h1 (.bool p)
  have h3 := heap_set_same (m := 2) h2 (.bool q)
  rw [h3]
  rfl

set_option maxRecDepth 100000 in
set_option maxHeartbeats 3200000 in
theorem eval_any (n bn bp : Nat) (P : Nat → Nat) (S : Nat → List Pl.St) (w : World) (hn : n ≤ 256) (hev : EV w n bn bp P S) :
    Calls Yba.prog 8 #[.slice (some ⟨bn, 0, none⟩) n n, .slice (some ⟨bp, 0, none⟩) n n] w fun e w' => ∃ v base, w.heap.size ≤ base ∧ e = .returned (.agg #[v, .bool (Pl.stall S n 0), .bool (Pl.starve P S n (Pl.own S n).length)]) ∧ Below w.heap.size w w' ∧ w'.ownsRow base 37 5 v (Pl.own S n).length ((Pl.own S n).flatMap (Pl.stand P S n (Pl.held P S n 0))) := by
  have HE := hidI hev
  clear hev
  have hm96 := fun W => run_makeMap (P := Yba.prog) 96 W
  have hm97 := fun W => run_makeMap (P := Yba.prog) 97 W
  go_enter Yba.func8, Yba.ntmps8
  go_wp2_with fail
  have HS1 : Hid (E1 w n P 0 (((w.alloc (.cells #[.slice none 0 0, .bool false, .bool false] 32)).alloc (.cells #[.slice none 0 0, .bool false, .bool false] 32)).alloc (.map #[] 0))) := hidI (E1.start w n P)
  generalize (((w.alloc (.cells #[.slice none 0 0, .bool false, .bool false] 32)).alloc (.cells #[.slice none 0 0, .bool false, .bool false] 32)).alloc (.map #[] 0)) = W0 at HS1 ⊢
  go_loopw [24] (fun i wr => ∃ k : Nat, k ≤ n ∧ i = .int .i64 k ∧ E1 w n P k wr) (fun i _ => n - (intOf i).toNat)
  case atStart => exact ⟨0, by omega, rfl, HS1.out⟩
  case round =>
    clear HS1
    obtain ⟨k, hk, rfl, hL⟩ := hrel
    have HL := hidI hL
    by_cases hlt : k < n
    · have hE := HE.out
      have hp := hE.part k hlt
      have hps := hE.small k hlt
      rw [← hL.bel.cell (p := ⟨bp, k, none⟩) (World.block_lt_of_cell? w _ hp)] at hp
      have hlk := hL.map.look false Yba.underlying3 Yba.underlying96 (zero3 wr) (x := (P k : Int)) (wf64 (by omega) (by omega))
      have hlk' : (Instr.lookup 96 (.map (some (w.heap.size + 2))) (.int .i64 (P k : Int)) false).run Yba.prog wr = .ok (.int .i64 (Pl.cnt P k (P k : Int) : Int)) wr := by
        rw [hlk, ← sizeF_look]; cases Pl.sizeF P k (P k : Int) <;> rfl
      obtain ⟨w2, hup, hm2, hg2⟩ := hL.map.update Yba.underlying3 Yba.underlying96 (by unfold maxLen; omega) (x := (P k : Int)) (wf64 (by omega) (by omega)) (.int .i64 ((Pl.cnt P k (P k : Int) : Int) + 1))
      rw [sizeF_succ] at hm2
      have hc := cnt_le P k (P k : Int)
      have HN := hidI (hL.next hg2 hm2)
      generalize Pl.cnt P k (P k : Int) = C at hlk' hup hc
      generalize P k = pk at hp hps hlk' hup
      clear hE hlk hm2 hg2 hL
      go_wp2_with fail
      go_roundw
      case rel => exact ⟨k + 1, by omega, by go_num, HN.out⟩
      case measure => simp [intOf]; omega
    · obtain rfl : k = n := by omega
      clear hL
      go_wp2_with fail
      rw [show w.heap.size + 1 + 1 = w.heap.size + 2 from rfl]
      have HS2 := hidI (E2.start (S := S) HL.out)
      generalize hM : wr.heap.size = M at HS2 ⊢
      have hMs : w.heap.size + 3 ≤ M := by rw [← hM]; exact HL.out.size
      generalize wr.alloc (.map #[] 0) = W1 at HS2 ⊢
      clear hM HL hm96 hm97 hk hlt
      go_loopw [36] (fun i wq => ∃ m : Nat, m ≤ k ∧ i = .int .i64 m ∧ E2 w k P S M m wq) (fun i _ => k - (intOf i).toNat)
      case atStart => exact ⟨0, by omega, rfl, HS2.out⟩
      case round =>
        clear HS2
        obtain ⟨m, hm, rfl, hL⟩ := hrel
        have HL := hidI hL
        by_cases hlt : m < k
        · have hE := HE.out.below' hL.bel
          obtain ⟨b, hnb0, hno0⟩ := HE.out.node m hlt
          have hbw : b < w.heap.size := World.block_lt_of_cell? w _ hno0.id
          have hbpw : bp < w.heap.size := World.block_lt_of_cell? w _ (HE.out.part m hlt)
          have hnb := (hL.bel.cell (p := ⟨bn, m, none⟩) (World.block_lt_of_cell? w _ hnb0)).trans hnb0
          have hno := hno0.below hL.bel
          have HN0 := hidI hno0
          clear hnb0 hno0
          have hid := hno.id
          have HNO := hidI hno
          have HSQ := hidI (seq_any (S m) b m m (fun s hs => by have := hE.ids m hlt s hs; omega) (hE.asc m hlt) (by omega) wr (by have := hE.len m hlt; omega) hno)
          have hpm := hE.part m hlt
          have HEV := hidI hE
          clear hE hL hno
          go_wp2_with fail
          refine (HSQ.out).mono ?_
          rintro e w1 ⟨rfl, hb1⟩
          have HL1 := hidI (HL.out.below hb1)
          have HEV1 := hidI (HEV.out.below hb1)
          have HNO1 := hidI (HNO.out.below hb1)
          clear HL HEV HNO HSQ hid hpm hnb hb1
          by_cases h0 : Pl.seqOf (S m) m = 0
          · have HSK := hidI (HL1.out.skip h0)
            simp only [h0]
            go_wp2_with fail
            go_roundw
            case rel => exact ⟨m + 1, by omega, by go_num, HSK.out⟩
            case measure => simp [intOf]; omega
          · have hq0 : (0 : Int) < (Pl.seqOf (S m) m : Int) := by omega
            obtain ⟨v, hT5, hrow⟩ := HL1.out.row
            obtain ⟨va, vc, rfl⟩ := own_form hrow
            have t0 := cell_of_row w1 _ 0 _ _ _ hT5
            simp at t0
            have hid1 := HNO1.out.id
            have hp1 := HEV1.out.part m hlt
            have hps := HEV1.out.small m hlt
            obtain ⟨len, hlen⟩ : ∃ len, len = (Pl.own S m).length := ⟨_, rfl⟩
            rw [← hlen] at t0 hrow hT5
            obtain ⟨w2, hup, hm2, hg2⟩ := MapIs.update (w := w1.drew) (e := 100) (t := 97) HL1.out.ats Yba.underlying35 Yba.underlying97 (by unfold maxLen; omega) (x := (m : Int)) (wf32 (by omega) (by omega)) (.agg #[.int .i64 (len : Int), .int .i64 (P m : Int)])
            have hmI : (m : Int) < (k : Int) := by omega
            have HRW := hidI hrow
            have HT5 := hidI hT5
            have HM2 := hidI hm2
            have HG2 := hidI hg2
            have HLN := hidI hlen
            clear hrow hT5 hm2 hg2 hlen
            have HS2 : Hid (SY b bp m (w.heap.size + 2) (P m) (Pl.cnt P k (P m : Int)) w2) := hidI (by
              have kk : ∀ {x : Nat}, x < M → w2.heap[x]? = w1.heap[x]? := fun {x} hx => HG2.out.block x (by show x < w1.heap.size; have := HL1.out.size; omega) (by intro e; have := Option.some.inj e; omega)
              refine ⟨(World.cell?_of_block (kk (by show b < M; omega))).trans hid1, (World.cell?_of_block (kk (by show bp < M; omega))).trans hp1, ?_⟩
              have hmp := MapIs.kept (w := w1.drew) HL1.out.map HG2.out (by intro e; have := Option.some.inj e; omega)
              rw [MapIs.look hmp false Yba.underlying3 Yba.underlying96 (zero3 w2) (wf64 (by omega) (by omega)), ← sizeF_look]
              cases Pl.sizeF P k (P m : Int) <;> rfl)
            have HS2d : Hid (SY b bp m (w.heap.size + 2) (P m) (Pl.cnt P k (P m : Int)) w2.drew) := hidI ⟨HS2.out.1, HS2.out.2.1, by
              have hmp := MapIs.kept (w := w1.drew) HL1.out.map HG2.out (by intro e; have := Option.some.inj e; omega)
              rw [MapIs.look (w := w2.drew) hmp false Yba.underlying3 Yba.underlying96 (zero3 _) (wf64 (by omega) (by omega)), ← sizeF_look]
              cases Pl.sizeF P k (P m : Int) <;> rfl⟩
            have HBW2 : Hid (Below w.heap.size w w2) := hidI (Below.grown (w := w1.drew) HL1.out.bel.drew HG2.out (by show _ ≤ w1.heap.size; have := HL1.out.size; omega) (fun k' hk' => by have := Option.some.inj hk'; omega))
            have HAC := hidI (active_any (S m) b m m (fun s hs => by have := HEV1.out.ids m hlt s hs; omega) (HEV1.out.asc m hlt) (by omega) w2.drew (by have := HEV1.out.len m hlt; omega) (HN0.out.below HBW2.out.drew))
            have hw2s : M + 1 ≤ w2.heap.size := Nat.le_trans HL1.out.size HG2.out.size
            have t2 : w2.cell? ⟨w.heap.size + 1, 0, none⟩ = some (.slice va len vc) := (World.cell?_of_block (HG2.out.block (w.heap.size + 1) (by show _ < w1.heap.size; have := HL1.out.size; omega) (by intro e; have := Option.some.inj e; omega))).trans t0
            have HF3 : Hid (∀ w3, Below w2.drew.heap.size w2.drew w3 → SY b bp m (w.heap.size + 2) (P m) (Pl.cnt P k (P m : Int)) w3 ∧ (∀ o, SY b bp m (w.heap.size + 2) (P m) (Pl.cnt P k (P m : Int)) (w3.alloc o)) ∧ w3.cell? ⟨w.heap.size + 1, 0, none⟩ = some (.slice va len vc) ∧ w.heap.size + 1 < w3.heap.size ∧ M + 1 ≤ w3.heap.size) := hidI (fun w3 hb3 => by
              have hb : Below w2.heap.size w2 w3 := ⟨hb3.os, hb3.tape, hb3.output, hb3.size, hb3.block⟩
              have hmp := (MapIs.kept (w := w1.drew) HL1.out.map HG2.out (by intro e; have := Option.some.inj e; omega)).kept (grown_of_below hb none) (by simp)
              have key : ∀ W, Below w3.heap.size w3 W → SY b bp m (w.heap.size + 2) (P m) (Pl.cnt P k (P m : Int)) W := fun W hW => by
                refine ⟨(hW.cell (by show b < _; have := hb.size; omega)).trans ((hb.cell (by show b < _; omega)).trans HS2.out.1), (hW.cell (by show bp < _; have := hb.size; omega)).trans ((hb.cell (by show bp < _; omega)).trans HS2.out.2.1), ?_⟩
                rw [MapIs.look (hmp.kept (grown_of_below hW none) (by simp)) false Yba.underlying3 Yba.underlying96 (zero3 _) (wf64 (by omega) (by omega)), ← sizeF_look]
                cases Pl.sizeF P k (P m : Int) <;> rfl
              exact ⟨key w3 (Below.refl _ _), fun o => key _ ((Below.refl _ _).alloc (Nat.le_refl _) _), (hb.cell (by show w.heap.size + 1 < _; omega)).trans t2, by have := hb.size; omega, Nat.le_trans hw2s hb.size⟩)
            have HNX : Hid (∀ w3, Below w2.drew.heap.size w2.drew w3 → _) := hidI (fun w3 hb3 => E2.next (w3 := w3) HL1.out (by omega) hMs HLN.out hps hbw hbpw hid1 hp1 HT5.out HRW.out HG2.out HM2.out hb3)
            obtain ⟨i37, hi37, hz37, hs37, hb37⟩ := xinfo_parts Yba.xinfo37
            have hml : len + 1 ≤ maxLen := by have := own_len S m; have := HLN.out; unfold maxLen; omega
            have hby : (len + 1) * 40 ≤ 140737488355328 := by have := own_len S m; have := HLN.out; omega
            have h1c : ∀ u ∈ (NW P S k m).toList, u.oneCell' = true := by
              intro u hu
              simp at hu
              rcases hu with rfl | rfl | rfl | rfl | rfl <;> rfl
            go_wp2_with fail
            go_region
            go_wp2_with fail
            clear hup t0 hid1 hp1
            refine wp_region_held_drew (S := fun w' => SY b bp m (w.heap.size + 2) (P m) (Pl.cnt P k (P m : Int)) w') (by kernel_rfl) HS2d.out (fun hHeld => ?_)
            refine wpAnyH_take (i := 0) (v := ?v0) rfl (by kernel_rfl) (by kernel_rfl) (by kernel_rfl) (fun _ _ _ h => h) (Or.inl ⟨by rfl, ?hy0⟩) (by assumption) ?rest0
            case hy0 =>
              intro w' hSw
              try dsimp only at hSw
              go_simp
              all_goals with_reducible rfl
            simp only [Act.put, List.setIfInBounds_toArray, List.set_cons_zero, List.set_cons_succ]
            refine wpAnyH_take (i := 2) (v := ?v2) rfl (by kernel_rfl) (by kernel_rfl) (by kernel_rfl) (fun _ _ _ h => h) (Or.inl ⟨by rfl, ?hy2⟩) (by assumption) ?rest2
            case hy2 =>
              intro w' hSw
              try dsimp only at hSw
              go_simp
              all_goals with_reducible rfl
            simp only [Act.put, List.setIfInBounds_toArray, List.set_cons_zero, List.set_cons_succ]
            refine wpAnyH_take (i := 3) (v := ?v3) rfl (by kernel_rfl) (by kernel_rfl) (by kernel_rfl) (fun _ _ _ h => h) (Or.inl ⟨by rfl, ?hy3⟩) (by assumption) ?rest3
            case hy3 =>
              intro w' hSw
              try dsimp only at hSw
              go_simp
              all_goals with_reducible rfl
            simp only [Act.put, List.setIfInBounds_toArray, List.set_cons_zero, List.set_cons_succ]
            refine wpAnyH_take (i := 4) (v := ?v4) rfl (by kernel_rfl) (by kernel_rfl) (by kernel_rfl) (fun _ _ _ h => h) (Or.inl ⟨by rfl, ?hy4⟩) (by assumption) ?rest4
            case hy4 =>
              intro w' hSw
              try dsimp only at hSw
              go_simp
              all_goals with_reducible rfl
            simp only [Act.put, List.setIfInBounds_toArray, List.set_cons_zero, List.set_cons_succ]
            refine wpAnyH_take (i := 5) (v := ?v5) rfl (by kernel_rfl) (by kernel_rfl) (by kernel_rfl) (fun _ _ _ h => h) (Or.inl ⟨by rfl, ?hy5⟩) (by assumption) ?rest5
            case hy5 =>
              intro w' hSw
              try dsimp only at hSw
              go_simp
              all_goals with_reducible rfl
            simp only [Act.put, List.setIfInBounds_toArray, List.set_cons_zero, List.set_cons_succ]
            refine wpAnyH_take (i := 6) (v := ?v6) rfl (by kernel_rfl) (by kernel_rfl) (by kernel_rfl) (fun _ _ _ h => h) (Or.inl ⟨by rfl, ?hy6⟩) (by assumption) ?rest6
            case hy6 =>
              intro w' hSw
              try dsimp only at hSw
              go_simp
              all_goals with_reducible rfl
            simp only [Act.put, List.setIfInBounds_toArray, List.set_cons_zero, List.set_cons_succ]
            refine wpAnyH_take (i := 7) (v := ?v7) rfl (by kernel_rfl) (by kernel_rfl) (by kernel_rfl) (fun _ _ _ h => h) (Or.inl ⟨by rfl, ?hy7⟩) (by assumption) ?rest7
            case hy7 =>
              intro w' hSw
              try dsimp only at hSw
              go_simp
              all_goals with_reducible rfl
            simp only [Act.put, List.setIfInBounds_toArray, List.set_cons_zero, List.set_cons_succ]
            refine wpAnyH_take (i := 8) (v := ?v8) rfl (by kernel_rfl) (by kernel_rfl) (by kernel_rfl) (fun _ _ _ h => h) (Or.inl ⟨by rfl, ?hy8⟩) (by assumption) ?rest8
            case hy8 =>
              intro w' hSw
              try dsimp only at hSw
              go_simp
              all_goals with_reducible rfl
            simp only [Act.put, List.setIfInBounds_toArray, List.set_cons_zero, List.set_cons_succ]
            refine wpAnyH_take (i := 9) (v := ?v9) rfl (by kernel_rfl) (by kernel_rfl) (by kernel_rfl) (fun _ _ _ h => h) (Or.inl ⟨by rfl, ?hy9⟩) (by assumption) ?rest9
            case hy9 =>
              intro w' hSw
              try dsimp only at hSw
              go_simp
              all_goals with_reducible rfl
            simp only [Act.put, List.setIfInBounds_toArray, List.set_cons_zero, List.set_cons_succ]
            refine wpAnyH_take (i := 10) (v := ?v10) rfl (by kernel_rfl) (by kernel_rfl) (by kernel_rfl) (fun _ _ _ h => h) (Or.inl ⟨by rfl, ?hy10⟩) (by assumption) ?rest10
            case hy10 =>
              intro w' hSw
              try dsimp only at hSw
              go_simp
              all_goals with_reducible rfl
            simp only [Act.put, List.setIfInBounds_toArray, List.set_cons_zero, List.set_cons_succ]
            refine wpAnyH_take (i := 11) (v := ?v11) rfl (by kernel_rfl) (by kernel_rfl) (by kernel_rfl) (fun _ _ _ h => h) (Or.inl ⟨by rfl, ?hy11⟩) (by assumption) ?rest11
            case hy11 =>
              intro w' hSw
              try dsimp only at hSw
              go_simp
              all_goals with_reducible rfl
            simp only [Act.put, List.setIfInBounds_toArray, List.set_cons_zero, List.set_cons_succ]
            refine wpAnyH_take (i := 12) (v := ?v12) rfl (by kernel_rfl) (by kernel_rfl) (by kernel_rfl) (fun _ _ _ h => h) (Or.inl ⟨by rfl, ?hy12⟩) (by assumption) ?rest12
            case hy12 =>
              intro w' hSw
              try dsimp only at hSw
              go_simp
              all_goals with_reducible rfl
            simp only [Act.put, List.setIfInBounds_toArray, List.set_cons_zero, List.set_cons_succ]
            refine wpAnyH_take (i := 13) (v := ?v13) rfl (by kernel_rfl) (by kernel_rfl) (by kernel_rfl) (fun _ _ _ h => h) (Or.inl ⟨by rfl, ?hy13⟩) (by assumption) ?rest13
            case hy13 =>
              intro w' hSw
              try dsimp only at hSw
              go_simp
              all_goals with_reducible rfl
            simp only [Act.put, List.setIfInBounds_toArray, List.set_cons_zero, List.set_cons_succ]
            refine wpAnyH_take (i := 14) (v := ?v14) rfl (by kernel_rfl) (by kernel_rfl) (by kernel_rfl) (fun _ _ _ h => h) (Or.inl ⟨by rfl, ?hy14⟩) (by assumption) ?rest14
            case hy14 =>
              intro w' hSw
              try dsimp only at hSw
              go_simp
              all_goals with_reducible rfl
            simp only [Act.put, List.setIfInBounds_toArray, List.set_cons_zero, List.set_cons_succ]
            refine wpAnyH_take (i := 15) (v := ?v15) rfl (by kernel_rfl) (by kernel_rfl) (by kernel_rfl) (fun _ _ _ h => h) (Or.inl ⟨by rfl, ?hy15⟩) (by assumption) ?rest15
            case hy15 =>
              intro w' hSw
              try dsimp only at hSw
              go_simp
              all_goals with_reducible rfl
            simp only [Act.put, List.setIfInBounds_toArray, List.set_cons_zero, List.set_cons_succ]
            refine wpAnyH_take (i := 16) (v := ?v16) rfl (by kernel_rfl) (by kernel_rfl) (by kernel_rfl) (fun _ _ _ h => h) (Or.inl ⟨by rfl, ?hy16⟩) (by assumption) ?rest16
            case hy16 =>
              intro w' hSw
              try dsimp only at hSw
              go_simp
              all_goals with_reducible rfl
            simp only [Act.put, List.setIfInBounds_toArray, List.set_cons_zero, List.set_cons_succ]
            refine wpAnyH_take (i := 17) (v := ?v17) rfl (by kernel_rfl) (by kernel_rfl) (by kernel_rfl) (fun _ _ _ h => h) (Or.inl ⟨by rfl, ?hy17⟩) (by assumption) ?rest17
            case hy17 =>
              intro w' hSw
              try dsimp only at hSw
              go_simp
              all_goals with_reducible rfl
            simp only [Act.put, List.setIfInBounds_toArray, List.set_cons_zero, List.set_cons_succ]
            refine wpAnyH_ready (rs := [1, 18]) (by kernel_rfl) (by simp) ?_
            refine AllReadyH.cons rfl (fun K hK => ?_) ?_
            focus
              go_simp
              refine hK.out _ _ HS2d.out (fun hHeld => ?_)
              clear hK K
              try simp only [Act.put, List.setIfInBounds_toArray, List.set_cons_zero, List.set_cons_succ]
              refine wpAnyH_ready (rs := [18]) (by kernel_rfl) (by simp) ?_
              refine AllReadyH.cons rfl (fun K hK => ?_) ?_
              focus
                go_simp
                go_at_call 12
                refine (HAC.out).mono ?_
                rintro e w3 ⟨rfl, hb3⟩
                obtain ⟨hs3, hs3a, t3, hl3, hw3⟩ := HF3.out w3 hb3
                obtain ⟨hoa, hba, hfx⟩ := HNX.out w3 hb3
                have HOA := hidI hoa
                have HFX := hidI hfx
                have HS3 := hidI hs3
                have HS3a := hidI hs3a
                have HCN := hidI (news_cells w3 (NW P S k m) 37)
                clear hs3 hs3a hb3 hoa hfx
                go_wp2_with fail
                refine hK.out _ _ HS3.out (fun hHeld => ?_)
                clear hK K
                try simp only [Act.put, List.setIfInBounds_toArray, List.set_cons_zero, List.set_cons_succ]
                refine wpAnyH_take (i := 19) (v := ?va19) rfl (by kernel_rfl) (by kernel_rfl) (by kernel_rfl) (fun _ _ _ h => h) (Or.inl ⟨by rfl, ?hya19⟩) (by assumption) ?resta19
                case hya19 =>
                  intro w' hSw
                  try dsimp only at hSw
                  go_simp
                  all_goals with_reducible rfl
                simp only [Act.put, List.setIfInBounds_toArray, List.set_cons_zero, List.set_cons_succ]
                refine wpAnyH_take (i := 20) (v := ?va20) rfl (by kernel_rfl) (by kernel_rfl) (by kernel_rfl) (fun _ _ _ h => h) (Or.inl ⟨by rfl, ?hya20⟩) (by assumption) ?resta20
                case hya20 =>
                  intro w' hSw
                  try dsimp only at hSw
                  go_simp
                  all_goals with_reducible rfl
                simp only [Act.put, List.setIfInBounds_toArray, List.set_cons_zero, List.set_cons_succ]
                refine wpAnyH_ready (rs := [21]) (by kernel_rfl) (by simp) ?_
                refine AllReadyH.cons rfl (fun K hK => ?_) ?_
                focus
                  go_simp
                  refine hK.out _ _ (HS3a.out _) (fun hHeld => ?_)
                  clear hK K
                  try simp only [Act.put, List.setIfInBounds_toArray, List.set_cons_zero, List.set_cons_succ]
                  refine wpAnyH_ready (rs := [22]) (by kernel_rfl) (by simp) ?_
                  refine AllReadyH.cons rfl (fun K hK => ?_) ?_
                  focus
                    refine step_appG (by rfl) _ _ 30 (by rfl) (M + 1) 37 i37 _ 5 40 Yba.underlying30 hi37 hz37 hs37 hb37 rfl (by decide) (.slice va len vc) len ((Pl.own S m).flatMap (Pl.stand P S k (fun _ => 0))) (by rfl) HOA.out ⟨w3.heap.size, 0, none⟩ 1 1 (NW P S k m).toList (by rfl) (by rfl) HCN.out h1c hml hby hba ?_
                    intro v' w4 hown4 hgrow4
                    obtain ⟨va', vc', rfl⟩ := own_form hown4
                    obtain ⟨⟨hs4, hs5⟩, t4, f4, hE⟩ := HFX.out _ w4 hown4 hgrow4
                    have HRL := hidI hE
                    have HS4 := hidI hs4
                    have HS5 := hidI hs5
                    clear hown4 hgrow4 hE hs4 hs5
                    refine hK.out _ _ HS4.out (fun hHeld => ?_)
                    clear hK K
                    try simp only [Act.put, List.setIfInBounds_toArray, List.set_cons_zero, List.set_cons_succ]
                    refine wpAnyH_take (i := 23) (v := ?va23) rfl (by kernel_rfl) (by kernel_rfl) (by kernel_rfl) (fun _ _ _ h => h) (Or.inl ⟨by rfl, ?hya23⟩) (by assumption) ?resta23
                    case hya23 =>
                      intro w' hSw
                      try dsimp only at hSw
                      go_simp
                      all_goals with_reducible rfl
                    simp only [Act.put, List.setIfInBounds_toArray, List.set_cons_zero, List.set_cons_succ]
                    refine wpAnyH_ready (rs := [24]) (by kernel_rfl) (by simp) ?_
                    refine AllReadyH.cons rfl (fun K hK => ?_) ?_
                    focus
                      go_simp
                      refine hK.out _ _ HS5.out (fun hHeld => ?_)
                      clear hK K
                      try simp only [Act.put, List.setIfInBounds_toArray, List.set_cons_zero, List.set_cons_succ]
                      refine wpAnyH_done (by kernel_rfl) ?_ _
                      clear hHeld t3 hl3 hw3 t4 f4 HS4 HS5 HFX HOA HCN
                      go_wp2_with fail
                      go_roundw
                      case rel => exact ⟨m + 1, by omega, by go_num, HRL.out⟩
                      case measure => simp [intOf]; omega
                    exact AllReadyH.nil
                  exact AllReadyH.nil
                exact AllReadyH.nil
              exact AllReadyH.nil
            refine AllReadyH.cons rfl (fun K hK => ?_) ?_
            focus
              go_simp
              go_at_call 12
              refine (HAC.out).mono ?_
              rintro e w3 ⟨rfl, hb3⟩
              obtain ⟨hs3, hs3a, t3, hl3, hw3⟩ := HF3.out w3 hb3
              obtain ⟨hoa, hba, hfx⟩ := HNX.out w3 hb3
              have HOA := hidI hoa
              have HFX := hidI hfx
              have HS3 := hidI hs3
              have HS3a := hidI hs3a
              have HCN := hidI (news_cells w3 (NW P S k m) 37)
              clear hs3 hs3a hb3 hoa hfx
              go_wp2_with fail
              refine hK.out _ _ HS3.out (fun hHeld => ?_)
              clear hK K
              try simp only [Act.put, List.setIfInBounds_toArray, List.set_cons_zero, List.set_cons_succ]
              refine wpAnyH_take (i := 19) (v := ?vb19) rfl (by kernel_rfl) (by kernel_rfl) (by kernel_rfl) (fun _ _ _ h => h) (Or.inl ⟨by rfl, ?hyb19⟩) (by assumption) ?restb19
              case hyb19 =>
                intro w' hSw
                try dsimp only at hSw
                go_simp
                all_goals with_reducible rfl
              simp only [Act.put, List.setIfInBounds_toArray, List.set_cons_zero, List.set_cons_succ]
              refine wpAnyH_take (i := 20) (v := ?vb20) rfl (by kernel_rfl) (by kernel_rfl) (by kernel_rfl) (fun _ _ _ h => h) (Or.inl ⟨by rfl, ?hyb20⟩) (by assumption) ?restb20
              case hyb20 =>
                intro w' hSw
                try dsimp only at hSw
                go_simp
                all_goals with_reducible rfl
              simp only [Act.put, List.setIfInBounds_toArray, List.set_cons_zero, List.set_cons_succ]
              refine wpAnyH_ready (rs := [1, 21]) (by kernel_rfl) (by simp) ?_
              refine AllReadyH.cons rfl (fun K hK => ?_) ?_
              focus
                go_simp
                refine hK.out _ _ HS3.out (fun hHeld => ?_)
                clear hK K
                try simp only [Act.put, List.setIfInBounds_toArray, List.set_cons_zero, List.set_cons_succ]
                refine wpAnyH_ready (rs := [21]) (by kernel_rfl) (by simp) ?_
                refine AllReadyH.cons rfl (fun K hK => ?_) ?_
                focus
                  go_simp
                  refine hK.out _ _ (HS3a.out _) (fun hHeld => ?_)
                  clear hK K
                  try simp only [Act.put, List.setIfInBounds_toArray, List.set_cons_zero, List.set_cons_succ]
                  refine wpAnyH_ready (rs := [22]) (by kernel_rfl) (by simp) ?_
                  refine AllReadyH.cons rfl (fun K hK => ?_) ?_
                  focus
                    refine step_appG (by rfl) _ _ 30 (by rfl) (M + 1) 37 i37 _ 5 40 Yba.underlying30 hi37 hz37 hs37 hb37 rfl (by decide) (.slice va len vc) len ((Pl.own S m).flatMap (Pl.stand P S k (fun _ => 0))) (by rfl) HOA.out ⟨w3.heap.size, 0, none⟩ 1 1 (NW P S k m).toList (by rfl) (by rfl) HCN.out h1c hml hby hba ?_
                    intro v' w4 hown4 hgrow4
                    obtain ⟨va', vc', rfl⟩ := own_form hown4
                    obtain ⟨⟨hs4, hs5⟩, t4, f4, hE⟩ := HFX.out _ w4 hown4 hgrow4
                    have HRL := hidI hE
                    have HS4 := hidI hs4
                    have HS5 := hidI hs5
                    clear hown4 hgrow4 hE hs4 hs5
                    refine hK.out _ _ HS4.out (fun hHeld => ?_)
                    clear hK K
                    try simp only [Act.put, List.setIfInBounds_toArray, List.set_cons_zero, List.set_cons_succ]
                    refine wpAnyH_take (i := 23) (v := ?vb23) rfl (by kernel_rfl) (by kernel_rfl) (by kernel_rfl) (fun _ _ _ h => h) (Or.inl ⟨by rfl, ?hyb23⟩) (by assumption) ?restb23
                    case hyb23 =>
                      intro w' hSw
                      try dsimp only at hSw
                      go_simp
                      all_goals with_reducible rfl
                    simp only [Act.put, List.setIfInBounds_toArray, List.set_cons_zero, List.set_cons_succ]
                    refine wpAnyH_ready (rs := [24]) (by kernel_rfl) (by simp) ?_
                    refine AllReadyH.cons rfl (fun K hK => ?_) ?_
                    focus
                      go_simp
                      refine hK.out _ _ HS5.out (fun hHeld => ?_)
                      clear hK K
                      try simp only [Act.put, List.setIfInBounds_toArray, List.set_cons_zero, List.set_cons_succ]
                      refine wpAnyH_done (by kernel_rfl) ?_ _
                      clear hHeld t3 hl3 hw3 t4 f4 HS4 HS5 HFX HOA HCN
                      go_wp2_with fail
                      go_roundw
                      case rel => exact ⟨m + 1, by omega, by go_num, HRL.out⟩
                      case measure => simp [intOf]; omega
                    exact AllReadyH.nil
                  exact AllReadyH.nil
                exact AllReadyH.nil
              refine AllReadyH.cons rfl (fun K hK => ?_) ?_
              focus
                go_simp
                refine hK.out _ _ (HS3a.out _) (fun hHeld => ?_)
                clear hK K
                try simp only [Act.put, List.setIfInBounds_toArray, List.set_cons_zero, List.set_cons_succ]
                refine wpAnyH_ready (rs := [1]) (by kernel_rfl) (by simp) ?_
                refine AllReadyH.cons rfl (fun K hK => ?_) ?_
                focus
                  go_simp
                  refine hK.out _ _ (HS3a.out _) (fun hHeld => ?_)
                  clear hK K
                  try simp only [Act.put, List.setIfInBounds_toArray, List.set_cons_zero, List.set_cons_succ]
                  refine wpAnyH_ready (rs := [22]) (by kernel_rfl) (by simp) ?_
                  refine AllReadyH.cons rfl (fun K hK => ?_) ?_
                  focus
                    refine step_appG (by rfl) _ _ 30 (by rfl) (M + 1) 37 i37 _ 5 40 Yba.underlying30 hi37 hz37 hs37 hb37 rfl (by decide) (.slice va len vc) len ((Pl.own S m).flatMap (Pl.stand P S k (fun _ => 0))) (by rfl) HOA.out ⟨w3.heap.size, 0, none⟩ 1 1 (NW P S k m).toList (by rfl) (by rfl) HCN.out h1c hml hby hba ?_
                    intro v' w4 hown4 hgrow4
                    obtain ⟨va', vc', rfl⟩ := own_form hown4
                    obtain ⟨⟨hs4, hs5⟩, t4, f4, hE⟩ := HFX.out _ w4 hown4 hgrow4
                    have HRL := hidI hE
                    have HS4 := hidI hs4
                    have HS5 := hidI hs5
                    clear hown4 hgrow4 hE hs4 hs5
                    refine hK.out _ _ HS4.out (fun hHeld => ?_)
                    clear hK K
                    try simp only [Act.put, List.setIfInBounds_toArray, List.set_cons_zero, List.set_cons_succ]
                    refine wpAnyH_take (i := 23) (v := ?vc23) rfl (by kernel_rfl) (by kernel_rfl) (by kernel_rfl) (fun _ _ _ h => h) (Or.inl ⟨by rfl, ?hyc23⟩) (by assumption) ?restc23
                    case hyc23 =>
                      intro w' hSw
                      try dsimp only at hSw
                      go_simp
                      all_goals with_reducible rfl
                    simp only [Act.put, List.setIfInBounds_toArray, List.set_cons_zero, List.set_cons_succ]
                    refine wpAnyH_ready (rs := [24]) (by kernel_rfl) (by simp) ?_
                    refine AllReadyH.cons rfl (fun K hK => ?_) ?_
                    focus
                      go_simp
                      refine hK.out _ _ HS5.out (fun hHeld => ?_)
                      clear hK K
                      try simp only [Act.put, List.setIfInBounds_toArray, List.set_cons_zero, List.set_cons_succ]
                      refine wpAnyH_done (by kernel_rfl) ?_ _
                      clear hHeld t3 hl3 hw3 t4 f4 HS4 HS5 HFX HOA HCN
                      go_wp2_with fail
                      go_roundw
                      case rel => exact ⟨m + 1, by omega, by go_num, HRL.out⟩
                      case measure => simp [intOf]; omega
                    exact AllReadyH.nil
                  exact AllReadyH.nil
                exact AllReadyH.nil
              exact AllReadyH.nil
            exact AllReadyH.nil
        · obtain rfl : m = k := by omega
          clear hL
          go_wp2_with fail
          have HS3 := hidI (E3.start HL.out)
          clear HL hm
          obtain ⟨w5, rfl⟩ : ∃ w5 : World, w5 = wr := ⟨_, rfl⟩
          go_loopw [89] (fun i wq => ∃ j : Nat, j ≤ m ∧ i = .int .i64 j ∧ E3 w m P S M j 0 wq) (fun i _ => m - (intOf i).toNat)
          case atStart => exact ⟨0, by omega, rfl, HS3.out⟩
          case round =>
            clear HS3
            obtain ⟨j, hj, rfl, hL⟩ := hrel
            have HL := hidI hL
            by_cases hjl : j < m
            · obtain ⟨b, hnb0, hno0⟩ := HE.out.node j hjl
              have hbw : b < w.heap.size := World.block_lt_of_cell? w _ hno0.id
              have hnb := (hL.bel.cell (p := ⟨bn, j, none⟩) (World.block_lt_of_cell? w _ hnb0)).trans hnb0
              have HNO := hidI hno0
              obtain ⟨G, cap, h3, hcells⟩ := hno0.slice
              have h3r := (hL.bel.cell (p := ⟨b, 3, none⟩) hbw).trans h3
              have HCE := hidI hcells
              obtain ⟨T, hT⟩ : ∃ T, T = (S j).length := ⟨_, rfl⟩
              have hTm : T ≤ m := by rw [hT]; exact HE.out.len j hjl
              have HT := hidI hT
              rw [← hT] at h3r
              have hjI : (j : Int) < (m : Int) := by omega
              clear hnb0 hno0 hL hcells hT h3
              go_wp2_with fail
              obtain ⟨w6, rfl⟩ : ∃ w6 : World, w6 = wr := ⟨_, rfl⟩
              go_loopw [99] (fun i wq => ∃ t : Nat, t ≤ T ∧ i = .int .i64 t ∧ E3 w m P S M j t wq) (fun i _ => T - (intOf i).toNat)
              case atStart => exact ⟨0, by omega, rfl, HL.out⟩
              case round =>
                clear HL hnb h3r
                obtain ⟨t, ht, rfl, hL⟩ := hrel
                have HL := hidI hL
                by_cases htl : t < T
                · obtain ⟨g6, rfl, hcs⟩ := HCE.out (by have := HT.out; omega)
                  obtain ⟨s, hs⟩ : ∃ s, (S j)[t]? = some s := ⟨(S j)[t]'(by rw [← HT.out]; exact htl), by simp⟩
                  have hcs' := hcs t s hs
                  have hg6 : g6 < w.heap.size := World.block_lt_of_cell? w ⟨g6, t * 6 + 0, none⟩ (by rw [hcs' 0 (by omega)]; rfl)
                  have ec : ∀ q, q < 6 → wr.cell? ⟨g6, t * 6 + q, none⟩ = s.cells[q]? := fun q hq => (hL.bel.cell (p := ⟨g6, t * 6 + q, none⟩) hg6).trans (hcs' q hq)
                  have c0 : wr.cell? ⟨g6, t * 6, none⟩ = some (.int .i32 (s.id : Int)) := ec 0 (by omega)
                  have c1 : wr.cell? ⟨g6, t * 6 + 1, none⟩ = some (.int .u64 (s.seq : Int)) := ec 1 (by omega)
                  have c2 : wr.cell? ⟨g6, t * 6 + 2, none⟩ = some (.bool s.act) := ec 2 (by omega)
                  have c3 : wr.cell? ⟨g6, t * 6 + 3, none⟩ = some (.int .i32 0) := ec 3 (by omega)
                  have c4 : wr.cell? ⟨g6, t * 6 + 4, none⟩ = some (.string ⟨#[]⟩) := ec 4 (by omega)
                  have c5 : wr.cell? ⟨g6, t * 6 + 5, none⟩ = some (.slice none 0 0) := ec 5 (by omega)
                  have hsid : s.id < m := HE.out.ids j hjl s (List.mem_of_getElem? hs)
                  obtain ⟨va, vc, hT5, hrow⟩ := hL.row
                  have d0 := cell_of_row wr _ 0 _ _ _ hT5
                  have d1 := cell_of_row wr _ 1 _ _ _ hT5
                  have f1 : wr.frozen? ⟨w.heap.size + 1, 1, none⟩ = false := by simp [World.frozen?, hT5]
                  simp at d0 d1
                  have hl1 : w.heap.size + 1 < wr.heap.size := (Array.getElem?_eq_some_iff.1 hT5).1
                  have hMl : M < wr.heap.size := hL.ats.lt
                  have hlg6 : g6 < wr.heap.size := Nat.lt_of_lt_of_le hg6 hL.bel.size
                  have htI : (t : Int) < (T : Int) := by omega
                  have HSS := hidI hs
                  have HT5 := hidI hT5
                  have HRW := hidI hrow
                  have HATS := hidI hL.ats
                  clear hcs hcs' ec hs hL hT5 hrow
                  cases hix : (Pl.own S m).idxOf? s.id with
                  | none =>
                    have HMI := hidI (HL.out.miss hMs HSS.out (miss_none hix))
                    have hlk : ∀ v o, (Instr.lookup 97 (.map (some M)) (.int .i32 (s.id : Int)) true).run Yba.prog ((wr.setCell ⟨w.heap.size + 1, 1, none⟩ v).alloc o) = .ok (.tuple #[.agg #[.int .i64 0, .int .i64 0], .bool false]) ((wr.setCell ⟨w.heap.size + 1, 1, none⟩ v).alloc o) := fun v o => by
                      rw [MapIs.look ((HATS.out.kept (grown_set wr (w.heap.size + 1) 1 v) (by simp; omega)).kept (grown_of_below ((Below.refl _ _).alloc (Nat.le_refl _) o) none) (by simp)) true Yba.underlying35 Yba.underlying97 (zero100 _) (wf32 (by omega) (by omega)), atF_none hix]
                      rfl
                    clear hix
                    generalize Pl.stall S j t = stl at d1 HMI
                    cases stl
                    all_goals
                      go_wp2_with fail
                      go_quiet (fail)
                      go_wp2_with fail
                      go_roundw
                      case rel => exact ⟨t + 1, by omega, by go_num, (HMI.out.below ((Below.refl _ _).alloc (Nat.le_refl _) _)).below (bel_drewN ((Below.refl _ _).alloc (Nat.le_refl _) _) _)⟩
                      case measure => simp [intOf]; omega
                  | some q =>
                    have hlk : ∀ v o, (Instr.lookup 97 (.map (some M)) (.int .i32 (s.id : Int)) true).run Yba.prog ((wr.setCell ⟨w.heap.size + 1, 1, none⟩ v).alloc o) = .ok (.tuple #[.agg #[.int .i64 (q : Int), .int .i64 (P s.id : Int)], .bool true]) ((wr.setCell ⟨w.heap.size + 1, 1, none⟩ v).alloc o) := fun v o => by
                      rw [MapIs.look ((HATS.out.kept (grown_set wr (w.heap.size + 1) 1 v) (by simp; omega)).kept (grown_of_below ((Below.refl _ _).alloc (Nat.le_refl _) o) none) (by simp)) true Yba.underlying35 Yba.underlying97 (zero100 _) (wf32 (by omega) (by omega)), atF_some hix]
                      rfl
                    have hq := idx_get hix
                    have hql : q < (Pl.own S m).length := (List.getElem?_eq_some_iff.1 hq).1
                    rcases HRW.out.2 with ⟨_, h1⟩ | ⟨g, cap5, cur5, hv, hg, _⟩
                    · omega
                    obtain ⟨rfl, rfl⟩ : va = some ⟨g, 0, none⟩ ∧ vc = cap5 := by simpa using hv
                    have hgl := (HRW.out.lt g rfl).2
                    have r1 : wr.cell? ⟨g, q * 5 + 1, none⟩ = some (.int .u64 (Pl.seqOf (S s.id) s.id : Int)) := (World.ownsRow.cellAt HRW.out (q * 5 + 1) (by omega)).trans (stand_cell hq 1 (by omega))
                    have r2 : wr.cell? ⟨g, q * 5 + 2, none⟩ = some (.int .i64 (Pl.held P S j t s.id : Int)) := (World.ownsRow.cellAt HRW.out (q * 5 + 2) (by omega)).trans (stand_cell hq 2 (by omega))
                    have fr : ∀ x, wr.frozen? ⟨g, x, none⟩ = false := fun x => own_free HRW.out x
                    have hp0 := HE.out.part j hjl
                    have hbpw : bp < w.heap.size := World.block_lt_of_cell? w _ hp0
                    have hpj := (HL.out.bel.cell (p := ⟨bp, j, none⟩) hbpw).trans hp0
                    have hps := HE.out.small j hjl
                    have hps2 := HE.out.small s.id hsid
                    have hbl : bp < wr.heap.size := Nat.lt_of_lt_of_le hbpw HL.out.bel.size
                    have hl0 : w.heap.size < wr.heap.size := by omega
                    have hgl1 : g < wr.heap.size + 1 := by omega
                    have hbl1 : bp < wr.heap.size + 1 := by omega
                    have hn1 : ¬ (w.heap.size + 1 = g) := by omega
                    have hn1' : ¬ (g = w.heap.size + 1) := by omega
                    have hn2 : ¬ (w.heap.size + 1 = bp) := by omega
                    have hn2' : ¬ (bp = w.heap.size + 1) := by omega
                    have hheld : Pl.held P S j t s.id ≤ 65536 := Nat.le_trans (held_le (fun k hk => HE.out.len k hk) hjl) (Nat.mul_le_mul (by omega : j + 1 ≤ 256) hn)
                    have hqI : (q : Int) < ((Pl.own S m).length : Int) := by omega
                    have hq0 : (0 : Int) ≤ (q : Int) := by omega
                    have hqn : ¬ ((q : Int) < 0) := by omega
                    have hlw : (Pl.own S m).length ≤ 256 := Nat.le_trans (own_len S m) hn
                    have HQ := hidI hq
                    by_cases hsq : s.seq = Pl.seqOf (S s.id) s.id
                    · by_cases hpt : P j = P s.id
                      · have HHI := hidI (HL.out.hit hMs HSS.out hq (by simp [Pl.hit, hsq, hpt]) HT5.out HRW.out)
                        rw [← hsq] at r1
                        rw [← hpt] at hlk
                        generalize Pl.held P S j t s.id = H at r2 HHI hheld
                        generalize Pl.stall S j t = stl at d1 HHI
                        clear HRW HT5 HL HATS hix hsq hpt hq hv hp0
                        generalize (Pl.own S m).length = LN at d0 hqI hql hlw
                        generalize P j = pj at hpj hlk hps
                        cases stl
                        all_goals
                          go_wp2_with fail
                          go_quiet (fail)
                          go_wp2_with fail
                          go_roundw
                          case rel =>
                            refine ⟨t + 1, by omega, by go_num, ?_⟩
                            rw [set_drewN, World.setCell_alloc_past _ _ _ _ (by rw [World.size_alloc, World.size_setCell]; exact hgl1), World.setCell_alloc_past _ _ _ _ (by rw [World.size_setCell]; exact hgl)]
                            exact (HHI.out.below ((Below.refl _ _).alloc (Nat.le_refl _) _)).below (bel_drewN ((Below.refl _ _).alloc (Nat.le_refl _) _) _)
                          case measure => simp [intOf]; omega
                      · have HMI := hidI (HL.out.miss hMs HSS.out (miss_seq (fun h => hpt h.2)))
                        have hptI : ¬ ((P j : Int) = (P s.id : Int)) := by omega
                        rw [← hsq] at r1
                        generalize Pl.stall S j t = stl at d1 HMI
                        clear HRW HT5 HL HATS hix hsq hpt hq hv hp0 r2
                        generalize (Pl.own S m).length = LN at d0 hqI hql hlw
                        generalize P j = pj at hpj hps hptI
                        generalize P s.id = pi at hlk hps2 hptI
                        cases stl
                        all_goals
                          go_wp2_with fail
                          go_quiet (fail)
                          go_wp2_with fail
                          go_roundw
                          case rel => exact ⟨t + 1, by omega, by go_num, (HMI.out.below ((Below.refl _ _).alloc (Nat.le_refl _) _)).below (bel_drewN ((Below.refl _ _).alloc (Nat.le_refl _) _) _)⟩
                          case measure => simp [intOf]; omega
                    · have HMI := hidI (HL.out.miss hMs HSS.out (miss_seq (fun h => hsq h.1)))
                      have hsqI : ¬ ((s.seq : Int) = (Pl.seqOf (S s.id) s.id : Int)) := by omega
                      generalize Pl.stall S j t = stl at d1 HMI
                      clear HRW HT5 HL HATS hix hsq hq hv hp0 r2
                      generalize (Pl.own S m).length = LN at d0 hqI hql hlw
                      generalize Pl.seqOf (S s.id) s.id = sq at r1 hsqI
                      cases stl
                      all_goals
                        go_wp2_with fail
                        go_quiet (fail)
                        go_wp2_with fail
                        go_roundw
                        case rel => exact ⟨t + 1, by omega, by go_num, (HMI.out.below ((Below.refl _ _).alloc (Nat.le_refl _) _)).below (bel_drewN ((Below.refl _ _).alloc (Nat.le_refl _) _) _)⟩
                        case measure => simp [intOf]; omega
                · obtain rfl : t = T := by omega
                  have HD : Hid (E3 w m P S M (j + 1) 0 wr) := hidI (E3.done (HT.out ▸ hL))
                  clear hL HL
                  go_wp2_with fail
                  go_roundw
                  case rel => exact ⟨j + 1, by omega, by go_num, HD.out⟩
                  case measure => simp [intOf]; omega
            · obtain rfl : j = m := by omega
              obtain ⟨va, vc, hT5, hrow⟩ := hL.row
              have HS5 := hidI (E5.start hL hT5 hrow)
              have d0 := cell_of_row wr _ 0 _ _ _ hT5
              simp at d0
              have hlw : (Pl.own S j).length ≤ 256 := Nat.le_trans (own_len S j) hn
              obtain ⟨LN, hLN⟩ : ∃ LN, LN = (Pl.own S j).length := ⟨_, rfl⟩
              rw [← hLN] at d0 hlw
              have HLN := hidI hLN
              clear HL hL hT5 hrow hLN hj
              go_wp2_with fail
              clear d0
              obtain ⟨w7, rfl⟩ : ∃ w7 : World, w7 = wr := ⟨_, rfl⟩
              go_loopw [154] (fun i wq => ∃ x : Nat, x ≤ LN ∧ i = .int .i64 x ∧ E5 w j P S M x va vc wq) (fun i _ => LN - (intOf i).toNat)
              case atStart => exact ⟨0, by omega, rfl, HS5.out⟩
              case round =>
                clear HS5
                obtain ⟨x, hx, rfl, hL⟩ := hrel
                have HL := hidI hL
                have d0 := cell_of_row wr _ 0 _ _ _ hL.out
                have d1 := cell_of_row wr _ 1 _ _ _ hL.out
                have d2 := cell_of_row wr _ 2 _ _ _ hL.out
                simp at d0 d1 d2
                rw [← HLN.out] at d0
                by_cases hxl : x < LN
                · have f2 : wr.frozen? ⟨w.heap.size + 1, 2, none⟩ = false := by simp [World.frozen?, hL.out]
                  have hl1 : w.heap.size + 1 < wr.heap.size := (Array.getElem?_eq_some_iff.1 hL.out).1
                  obtain ⟨i, hi⟩ : ∃ i, (Pl.own S j)[x]? = some i := ⟨(Pl.own S j)[x]'(by rw [← HLN.out]; exact hxl), by simp⟩
                  have hrow := hL.row
                  rcases hrow.2 with ⟨_, h1⟩ | ⟨g, cap5, cur5, hv, hg, _⟩
                  · have := HLN.out; omega
                  obtain ⟨rfl, rfl⟩ : va = some ⟨g, 0, none⟩ ∧ vc = cap5 := by simpa using hv
                  have hx5 : x * 5 + 5 ≤ (Pl.own S j).length * 5 := by have := HLN.out; omega
                  have ec : ∀ q, q < 5 → wr.cell? ⟨g, x * 5 + q, none⟩ = (Pl.stand P S j (Pl.held P S j 0) i)[q]? := fun q hq => (World.ownsRow.cellAt hrow (x * 5 + q) (by omega)).trans (stand_cell hi q hq)
                  have e0 : wr.cell? ⟨g, x * 5, none⟩ = some (.int .i32 (i : Int)) := ec 0 (by omega)
                  have e1 : wr.cell? ⟨g, x * 5 + 1, none⟩ = some (.int .u64 (Pl.seqOf (S i) i : Int)) := ec 1 (by omega)
                  have e2 : wr.cell? ⟨g, x * 5 + 2, none⟩ = some (.int .i64 (Pl.held P S j 0 i : Int)) := ec 2 (by omega)
                  have e3 : wr.cell? ⟨g, x * 5 + 3, none⟩ = some (.int .i64 (Pl.cnt P j (P i : Int) : Int)) := ec 3 (by omega)
                  have e4 : wr.cell? ⟨g, x * 5 + 4, none⟩ = some (.bool (!Pl.actOf (S i) i)) := ec 4 (by omega)
                  have hgl := (hrow.lt g rfl).2
                  have hxI : (x : Int) < (LN : Int) := by omega
                  have HNX := hidI (hL.next hMs hi)
                  clear ec hrow hL hi hv HL d0 d1
                  generalize Pl.starve P S j x = sv at d2 HNX
                  generalize Pl.seqOf (S i) i = sq at e1
                  generalize Pl.actOf (S i) i = ac at e4
                  by_cases hlt : Pl.held P S j 0 i < Pl.cnt P j (P i : Int)
                  · simp only [hlt, decide_true] at HNX
                    generalize Pl.held P S j 0 i = H at e2 hlt
                    generalize Pl.cnt P j (P i : Int) = C at e3 hlt
                    have hltI : (H : Int) < (C : Int) := by omega
                    cases sv
                    all_goals
                      go_wp2_with fail
                      go_roundw
                      case rel => exact ⟨x + 1, by omega, by go_num, HNX.out.below ((Below.refl _ _).alloc (Nat.le_refl _) _)⟩
                      case measure => simp [intOf]; omega
                  · simp only [hlt, decide_false] at HNX
                    generalize Pl.held P S j 0 i = H at e2 hlt
                    generalize Pl.cnt P j (P i : Int) = C at e3 hlt
                    have hltI : ¬ ((H : Int) < (C : Int)) := by omega
                    cases sv
                    all_goals
                      go_wp2_with fail
                      go_roundw
                      case rel => exact ⟨x + 1, by omega, by go_num, HNX.out.below ((Below.refl _ _).alloc (Nat.le_refl _) _)⟩
                      case measure => simp [intOf]; omega
                · obtain rfl : x = LN := by omega
                  have r0 := cell_of_row wr _ 0 _ _ _ hL.res
                  have r1 := cell_of_row wr _ 1 _ _ _ hL.res
                  have r2 := cell_of_row wr _ 2 _ _ _ hL.res
                  have fr : ∀ q, wr.frozen? ⟨w.heap.size, q, none⟩ = false := fun q => by simp [World.frozen?, hL.res]
                  simp at r0 r1 r2
                  have hl1 : w.heap.size + 1 < wr.heap.size := (Array.getElem?_eq_some_iff.1 hL.out).1
                  have hl0 : w.heap.size < wr.heap.size := by omega
                  have HF := hidI (hL.fin hMs (Pl.stall S j 0) (Pl.starve P S j x))
                  rw [← HLN.out] at HF
                  clear hL
                  obtain ⟨stl, hst⟩ : ∃ stl, stl = Pl.stall S j 0 := ⟨_, rfl⟩
                  obtain ⟨sv, hsv⟩ : ∃ sv, sv = Pl.starve P S j x := ⟨_, rfl⟩
                  rw [← hst] at d1 HF
                  rw [← hsv] at d2 HF
                  have HST := hidI hst
                  have HSV := hidI hsv
                  clear hst hsv
                  go_wp2_with fail
                  obtain ⟨k0, k1, k2⟩ := HF.out
                  generalize ((wr.setCell ⟨w.heap.size, 0, none⟩ (.slice va x vc)).setCell ⟨w.heap.size, 1, none⟩ (.bool stl)).setCell ⟨w.heap.size, 2, none⟩ (.bool sv) = WF at k0 k1 k2 ⊢
                  have z0 := cell_of_row WF _ 0 _ _ _ k0
                  have z1 := cell_of_row WF _ 1 _ _ _ k0
                  have z2 := cell_of_row WF _ 2 _ _ _ k0
                  simp at z0 z1 z2
                  refine bodyPost_ret (v := .agg #[.slice va x vc, .bool stl, .bool sv]) (by simp [results, Yba.results8, go_sem, z0, z1, z2]) rfl ⟨.slice va x vc, M + 1, by omega, ?_, k1, ?_⟩
                  · rw [HST.out, HSV.out, HLN.out]
                  · rw [← HLN.out]; exact k2

end Go.Proofs.Ybulkaeu
