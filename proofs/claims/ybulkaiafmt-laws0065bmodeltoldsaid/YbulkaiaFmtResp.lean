/-
  Seat b0065aF: the contract of resp (16).
-/
import Derived.Test.YbulkaiaFmtKit
import Derived.Deep.CutBlock
import Derived.Deep.CutRange
import Derived.Deep.QuietTactic
import Derived.BigQuiet
import Derived.BigRegion
set_option linter.unusedSimpArgs false
set_option linter.unusedVariables false
namespace Go.Proofs.YbulkaiaFmt
open Go.RowKit

/-- after k records -/
structure RL (B : Nat) (w : World) (rs : List Pl.Rec) (k : Nat) (v : Value) (wr : World) : Prop where
  bel : Below B w wr
  size : B + 2 ≤ wr.heap.size
  res : wr.heap[B]? = some (.cells #[.int .i64 0, .slice none 0 0, .slice none 0 0] 50 (0, 0))
  row : ∃ xs, wr.ownsRow (B + 1) 33 5 v k xs ∧ RRs wr (rs.take k) xs

abbrev SR (T : Nat) (r : Pl.Rec) (w : World) : Prop := w.cell? ⟨T, 0, none⟩ = some (.int .u8 (r.o : Int)) ∧ w.cell? ⟨T, 1, none⟩ = some (.int .u8 (r.t : Int)) ∧ w.cell? ⟨T, 2, none⟩ = some (.int .u8 (r.c : Int))

theorem len_nm (j : Nat) (hj : j < 5) : 1 ≤ (Pl.nm j).length ∧ (Pl.nm j).length ≤ 4 := by
  match j, hj with
  | 0, _ => decide
  | 1, _ => decide
  | 2, _ => decide
  | 3, _ => decide
  | 4, _ => decide

theorem SR.below {T : Nat} {r : Pl.Rec} {w w' : World} (h : SR T r w) (hb : Below w.heap.size w w') (hT : T < w.heap.size) : SR T r w' := by
  unfold SR at h ⊢
  have c : ∀ i, w'.cell? ⟨T, i, none⟩ = w.cell? ⟨T, i, none⟩ := fun i => hb.cell hT
  simp only [c]
  exact h
theorem SR.alloc {T : Nat} {r : Pl.Rec} {w : World} (h : SR T r w) (o : Obj) (hT : T < w.heap.size) : SR T r (w.alloc o) := h.below ((Below.refl _ _).alloc (Nat.le_refl _) _) hT
theorem SR.grown {T : Nat} {r : Pl.Rec} {w w' : World} {row : Option Nat} (h : SR T r w) (hb : w.grownBy w' row) (hT : T < w.heap.size) (hne : some T ≠ row) : SR T r w' := by
  unfold SR at h ⊢
  have c : ∀ i, w'.cell? ⟨T, i, none⟩ = w.cell? ⟨T, i, none⟩ := fun i => World.cell?_of_block (hb.block T hT hne)
  simp only [c]
  exact h
theorem grown_two (w : World) (o1 o2 : Obj) : w.grownBy ((w.alloc o1).alloc o2) none := grown_of_below (((Below.refl _ _).alloc (Nat.le_refl _) _).alloc (by simp) _) none

abbrev NW (o t c g L : Nat) (b : Bool) : Array Value := #[nmS (o % 5), .int .u16 (Pl.typ t), .int .u16 (Pl.cls c), .int .u32 60, .slice (some ⟨g, 0, none⟩) (L - b.toNat) L]
theorem nw_one (o t c g L : Nat) (b : Bool) : ∀ u ∈ (NW o t c g L b).toList, u.oneCell' = true := by
  intro u hu
  simp [NW] at hu
  rcases hu with rfl | rfl | rfl | rfl | rfl <;> rfl
theorem news_cells (w : World) (cs : Array Value) (t : TypeId) : ∀ j u, cs.toList[j]? = some u → (w.alloc (.cells cs t)).cell? ((⟨w.heap.size, 0, none⟩ : Addr).add j) = some u := by
  intro j u h
  rw [Addr.add_lit, Nat.zero_add, cell_of_row _ _ j _ _ _ (heap_alloc_new w (.cells cs t))]
  simpa using h
theorem own_far {w : World} {base e size n : Nat} {v : Value} {xs : List Value} (h : w.ownsRow base e size v n xs) : some w.heap.size ≠ v.ownBlock := by
  intro e1
  have := h.lt _ e1.symm
  omega

theorem RL.next {B : Nat} {w wr W w1 w3 : World} {rs : List Pl.Rec} {k : Nat} {v v' : Value} {ro rt rc rg L : Nat} {rb : Bool} {xs : List Value} {o1 : Obj}
    (hL : RL B w rs k v wr) (hx1 : wr.ownsRow (B + 1) 33 5 v k xs) (hx2 : RRs wr (rs.take k) xs) (hr : rs[k]? = some ⟨ro, rt, rc, rg, rb⟩) (hLL : L = (Pl.nm (rg % 5)).length)
    (hW : (wr.alloc o1).alloc (.cells (bytesA (Pl.nm (rg % 5))) 5) = W) (hb : Below W.drew.heap.size W.drew w1)
    (h4 : w3.ownsRow (B + 1) 33 5 v' (k + 1) (xs ++ (NW ro rt rc (wr.heap.size + 1) L rb).toList)) (h5 : (w1.alloc (.cells (NW ro rt rc (wr.heap.size + 1) L rb) 33)).grownBy w3 v.ownBlock) : RL B w rs (k + 1) v' w3 := by
  have hb0 : Below wr.heap.size wr W := by rw [← hW]; exact ((Below.refl _ _).alloc (Nat.le_refl _) _).alloc (by simp) _
  have hs0 : W.heap.size = wr.heap.size + 2 := by rw [← hW]; simp
  have hb1 : Below W.heap.size W w1 := ⟨hb.os, hb.tape, hb.output, hb.size, hb.block⟩
  have hb2 : Below wr.heap.size wr (w1.alloc (.cells (NW ro rt rc (wr.heap.size + 1) L rb) 33)) := (hb0.trans (hb1.mono (by omega))).alloc (by have := hb1.size; omega) _
  have hs := hL.size
  have hs5 := h5.size
  have hs2 := hb2.size
  have hx := hx1.kept (grown_of_below hb2 none) (Classical.em _)
  have hwire : WireAt (w1.alloc (.cells (NW ro rt rc (wr.heap.size + 1) L rb) 33)) (wr.heap.size + 1) (rg % 5) := by
    have h : WireAt W (wr.heap.size + 1) (rg % 5) := by
      have := heap_alloc_new (wr.alloc o1) (.cells (bytesA (Pl.nm (rg % 5))) 5)
      rw [hW, show (wr.alloc o1).heap.size = wr.heap.size + 1 by simp] at this
      exact this
    exact WireAt.below ((Below.refl _ _).alloc (Nat.le_refl _) _) (WireAt.below hb1 h)
  refine ⟨(hL.bel.trans (hb2.mono (by omega))).grown h5 (by omega) (fun k' hk' => by have := (hx1.lt k' hk').1; omega), by omega, ?_, _, h4, ?_⟩
  · rw [h5.block B (by omega) (by intro e; have := (hx1.lt B e.symm).1; omega), hb2.block B (by omega)]
    exact hL.res
  · have hlt : k < rs.length := (List.getElem?_eq_some_iff.1 hr).1
    have ht : rs.take (k + 1) = rs.take k ++ [⟨ro, rt, rc, rg, rb⟩] := by
      rw [List.take_add_one, hr]; rfl
    rw [ht]
    have hN : (NW ro rt rc (wr.heap.size + 1) L rb).toList = rrCells ⟨ro, rt, rc, rg, rb⟩ (wr.heap.size + 1) := by subst hLL; rfl
    rw [hN]
    exact ((hx2.far (fun g r h => WireAt.below hb2 h)).snoc _ _ hwire).far (fun g r h => WireAt.grown hx (by decide) h5 h)

theorem own_form {w : World} {base e size n : Nat} {v : Value} {xs : List Value} (h : w.ownsRow base e size v n xs) : ∃ a c, v = .slice a n c := by
  rcases h.2 with ⟨rfl, rfl⟩ | ⟨g, cap, cur, rfl, _⟩
  · exact ⟨_, _, rfl⟩
  · exact ⟨_, _, rfl⟩

theorem own_weak {w : World} {base e size n : Nat} {v : Value} {xs : List Value} (h : w.ownsRow (base + 1) e size v n xs) : w.ownsRow base e size v n xs := by
  refine ⟨h.1, ?_⟩
  rcases h.2 with h0 | ⟨g, cap, cur, hv, hg, r⟩
  · exact .inl h0
  · exact .inr ⟨g, cap, cur, hv, by omega, r⟩
theorem wire_set3 {w : World} {B : Nat} {cs : Array Value} {fr : Nat × Nat} (hB : w.heap[B]? = some (.cells cs 50 fr)) {g r : Nat} (h : WireAt w g r) {o0 o1 o2 : Nat} {x0 x1 x2 : Value} :
    WireAt (((w.setCell ⟨B, o0, none⟩ x0).setCell ⟨B, o1, none⟩ x1).setCell ⟨B, o2, none⟩ x2) g r := by
  have hne : g ≠ B := by
    intro e; subst e
    unfold WireAt at h
    rw [h] at hB
    simp at hB
  unfold WireAt at h ⊢
  rw [Below.heap_setCell _ _ _ _ hne, Below.heap_setCell _ _ _ _ hne, Below.heap_setCell _ _ _ _ hne]
  exact h

theorem RL.start (w : World) (rs : List Pl.Rec) (n : Nat) (hn : n ≤ 1024) : RL w.heap.size w rs 0 (.slice (some ⟨w.heap.size + 1, 0, none⟩) 0 n) ((w.alloc (Obj.cells #[Value.int IntKind.i64 0, Value.slice none 0 0, Value.slice none 0 0] 50)).alloc
      (Obj.cells (madeCells #[Value.string { data := #[] }, Value.int IntKind.u16 0, Value.int IntKind.u16 0, Value.int IntKind.u32 0, Value.slice none 0 0] (n * 5)) 33)) := by
  refine ⟨((Below.refl _ _).alloc (Nat.le_refl _) _).alloc (by simp) _, by simp, ?_, [], ?_, ?_⟩
  · rw [Below.heap_alloc _ _ _ (by simp)]; exact heap_alloc_new w _
  · have h := World.ownsRow_made (base := w.heap.size + 1) (e := 33) (size := 5) (w.alloc (Obj.cells #[Value.int IntKind.i64 0, Value.slice none 0 0, Value.slice none 0 0] 50)) (madeCells #[Value.string { data := #[] }, Value.int IntKind.u16 0, Value.int IntKind.u16 0, Value.int IntKind.u32 0, Value.slice none 0 0] (n * 5)) n (by simp) (by unfold maxLen; omega) (size_madeCells _ _)
    simpa using h
  · simpa using RRs.nil _

set_option maxRecDepth 100000 in
set_option maxHeartbeats 3200000 in
theorem resp_any (a : Option Addr) (bb oo cap : Nat) (rs : List Pl.Rec) (w : World) (v1 : Value) (ha : 0 < rs.length → a = some ⟨bb, oo, none⟩) (hrs : RecsAt w bb oo rs) (hn : rs.length ≤ 1024) (hv : w.cell? ⟨1, 0, none⟩ = some v1) :
    Calls Ybaf.prog 16 #[.slice a rs.length cap] w fun e w' => ∃ v, e = .returned (.agg #[.int .i64 0, v, .slice none 0 0]) ∧ Below w.heap.size w w' ∧ ∃ xs, w'.ownsRow w.heap.size 33 5 v rs.length xs ∧ RRs w' rs xs := by
  obtain ⟨i33, hi33, hz33, hs33, hb33⟩ := info_parts Ybaf.info33
  have hmk := fun W => run_make (P := Ybaf.prog) W 48 33 i33 _ Ybaf.underlying48 hi33 hz33 .i64 .i64 0 (rs.length : Int) (by omega) (by omega) (by rw [hb33]; omega) (by omega)
  obtain ⟨n, hnn⟩ : ∃ n, n = rs.length := ⟨_, rfl⟩
  rw [← hnn] at ha hn hmk ⊢
  have HN := hidI hnn
  have HRS := hidI hrs
  have HV := hidI hv
  have HA := hidI ha
  clear hrs hv hnn ha
  go_enter Ybaf.func16, Ybaf.ntmps16
  go_wp2_with fail
  have HL : Hid (RL w.heap.size w rs 0 (.slice (some ⟨w.heap.size + 1, 0, none⟩) 0 n) ((w.alloc (Obj.cells #[Value.int IntKind.i64 0, Value.slice none 0 0, Value.slice none 0 0] 50)).alloc
      (Obj.cells (madeCells #[Value.string { data := #[] }, Value.int IntKind.u16 0, Value.int IntKind.u16 0, Value.int IntKind.u32 0, Value.slice none 0 0] (n * 5)) 33))) := hidI (RL.start w rs n hn)
  clear hmk
  generalize ((w.alloc (Obj.cells #[Value.int IntKind.i64 0, Value.slice none 0 0, Value.slice none 0 0] 50)).alloc
      (Obj.cells (madeCells #[Value.string { data := #[] }, Value.int IntKind.u16 0, Value.int IntKind.u16 0, Value.int IntKind.u32 0, Value.slice none 0 0] (n * 5)) 33)) = W0 at HL ⊢
  go_loopw [3, 12] (fun v i wr => ∃ k : Nat, k ≤ n ∧ i = .int .i64 k ∧ RL w.heap.size w rs k v wr) (fun _ i _ => n - (intOf i).toNat)
  case atStart => exact ⟨0, by omega, rfl, HL.out⟩
  case round =>
    clear HL
    obtain ⟨k, hk, rfl, hL⟩ := hrel
    have HL := hidI hL
    have hsr := hL.size
    by_cases hlt : k < n
    · obtain rfl := HA.out (by omega)
      obtain ⟨r, hr⟩ : ∃ r, rs[k]? = some r := ⟨rs[k]'(by rw [← HN.out]; exact hlt), by simp⟩
      have HR := hidI hr
      obtain ⟨⟨ok1, ok2, ok3, ok4⟩, c0, c1, c2, c3, c4⟩ := HRS.out k r hr
      have hold : bb < w.heap.size := World.block_lt_of_cell? w _ c0
      rw [← hL.bel.cell hold] at c0 c1 c2 c3 c4
      have HV' : Hid (wr.cell? ⟨1, 0, none⟩ = some v1) := hidI (by rw [hL.bel.cell (World.block_lt_of_cell? w ⟨1, 0, none⟩ HV.out)]; exact HV.out)
      clear hr hL
      obtain ⟨ro, rt, rc, rg, rb⟩ := r
      have hwi := fun W => wire_any (rg : Int) (rg % 5) (by omega) (by dsimp only at ok4; omega) (by omega) W
      obtain ⟨L, hLL, hL1, hL4⟩ : ∃ L, L = (Pl.nm (rg % 5)).length ∧ 1 ≤ L ∧ L ≤ 4 := ⟨_, rfl, len_nm _ (Nat.mod_lt _ (by decide))⟩
      rw [← hLL] at hwi
      have HWI := hidI hwi
      have HLL := hidI hLL
      clear hwi hLL
      dsimp only at ok1 ok2 ok3 ok4 c0 c1 c2 c3 c4
      go_upto_if 21 with (go_at_call 27; refine (HWI.out _).mono ?_; rintro e w1 ⟨rfl, rfl⟩)
      go_cut [6] from 22 to 26 (fun v6 wc => v6 = .slice (some ⟨wr.heap.size + 1, 0, none⟩) (L - rb.toNat) L ∧ wc = (wr.alloc (.cells #[.int .u8 ro, .int .u8 rt, .int .u8 rc, .int .u8 rg, .bool rb] 69)).alloc (.cells (bytesA (Pl.nm (rg % 5))) 5))
      case first =>
        cases rb
        · go_wp2_with fail
          go_meet
          case rel => exact ⟨rfl, rfl⟩
        · go_wp2_with fail
          go_meet
          case rel => exact ⟨rfl, rfl⟩
      case rest =>
        obtain ⟨rfl, rfl⟩ := hcut
        obtain ⟨xs, hx1, hx2⟩ := HL.out.row
        have HX1 := hidI hx1
        have HX2 := hidI hx2
        clear hx1 hx2
        generalize hWW : ((wr.alloc (.cells #[.int .u8 ro, .int .u8 rt, .int .u8 rc, .int .u8 rg, .bool rb] 69)).alloc (.cells (bytesA (Pl.nm (rg % 5))) 5)) = W
        have hWs : W.heap.size = wr.heap.size + 2 := by rw [← hWW]; simp
        have hWg : wr.grownBy W none := by rw [← hWW]; exact grown_two wr _ _
        have HS : Hid (SR wr.heap.size ⟨ro, rt, rc, rg, rb⟩ W) := hidI (by rw [← hWW]; simp [SR])
        have HSd : Hid (SR wr.heap.size ⟨ro, rt, rc, rg, rb⟩ W.drew) := HS
        have HXW := hidI (HX1.out.kept hWg (Classical.em _))
        have HVW : Hid (W.drew.cell? ⟨1, 0, none⟩ = some v1) := hidI ((World.cell?_of_block (hWg.block 1 (by omega) (by simp))).trans HV'.out)
        have hnm := name_any (ro : Int) (ro % 5) (by omega) (by omega) (by omega) W.drew v1 HVW.out
        rw [show (ro : Int) = IntKind.i64.wrap (ro : Int) by rw [IntKind.wrap_i64]; omega] at hnm
        have HNM := hidI hnm
        clear hnm
        have HTY := hidI (fun W => (type_any rt ok2 W).mono (fun e w' h => (⟨h.1, h.2.symm⟩ : e = _ ∧ W = w')))
        have HCL := hidI (fun W => (class_any rc ok3 W).mono (fun e w' h => (⟨h.1, h.2.symm⟩ : e = _ ∧ W = w')))
        have HWW := hidI hWW
        clear hWW hWg c0 c1 c2 c3 c4
        have HF : Hid (∀ w1, Below W.drew.heap.size W.drew w1 → SR wr.heap.size ⟨ro, rt, rc, rg, rb⟩ w1 ∧ (∀ o, SR wr.heap.size ⟨ro, rt, rc, rg, rb⟩ (w1.alloc o)) ∧ w.heap.size + 1 ≤ (w1.alloc (.cells (NW ro rt rc (wr.heap.size + 1) L rb) 33)).heap.size ∧ (w1.alloc (.cells (NW ro rt rc (wr.heap.size + 1) L rb) 33)).ownsRow (w.heap.size + 1) 33 5 u3 k xs ∧
            (∀ j u, (NW ro rt rc (wr.heap.size + 1) L rb).toList[j]? = some u → (w1.alloc (.cells (NW ro rt rc (wr.heap.size + 1) L rb) 33)).cell? ((⟨w1.heap.size, 0, none⟩ : Addr).add j) = some u) ∧
            (∀ v' w3, w3.ownsRow (w.heap.size + 1) 33 5 v' (k + 1) (xs ++ (NW ro rt rc (wr.heap.size + 1) L rb).toList) → (w1.alloc (.cells (NW ro rt rc (wr.heap.size + 1) L rb) 33)).grownBy w3 u3.ownBlock → RL w.heap.size w rs (k + 1) v' w3 ∧ SR wr.heap.size ⟨ro, rt, rc, rg, rb⟩ w3)) := hidI (fun w1 hb => by
          have h2 : W.drew.heap.size = W.heap.size := rfl
          have h3 := hb.size
          have hs1 := SR.below HSd.out hb (by omega)
          have ho := (World.ownsRow.kept (w := W.drew) HXW.out (grown_of_below hb none) (Classical.em _)).alloc (.cells (NW ro rt rc (wr.heap.size + 1) L rb) 33)
          exact ⟨hs1, fun o => hs1.alloc _ (by omega), by rw [World.size_alloc]; omega, ho, news_cells w1 _ _, fun v' w3 h4 h5 => ⟨RL.next HL.out HX1.out HX2.out HR.out HLL.out HWW.out hb h4 h5, SR.grown (hs1.alloc _ (by omega)) h5 (by rw [World.size_alloc]; omega) (own_far HX1.out)⟩⟩)
        go_step
        go_region_held3 (fun w' => SR wr.heap.size ⟨ro, rt, rc, rg, rb⟩ w')
          (first | with_reducible exact HS3.out | with_reducible exact HS2.out _ | with_reducible exact HS1.out | with_reducible exact HSd.out | with_reducible exact HS.out)
          (first
            | (go_at_call 28; refine (HTY.out _).mono ?_; rintro e w' ⟨rfl, rfl⟩)
            | (go_at_call 29; refine (HCL.out _).mono ?_; rintro e w' ⟨rfl, rfl⟩)
            | (go_at_call 18; refine (HNM.out).mono ?_; rintro e w1 ⟨rfl, hb⟩; obtain ⟨hs1, hs2, hz1, hxw, hcs, hnx⟩ := HF.out w1 hb; have HS1 := hidI hs1; have HS2 := hidI hs2; have HX3 := hidI hxw; have HCS := hidI hcs; have HNX := hidI hnx; clear hb hs1 hs2 hxw hcs hnx)
            | (refine step_app (by rfl) _ _ 48 (by rfl) (w.heap.size + 1) 33 i33 _ 5 48 Ybaf.underlying48 hi33 hz33 hs33 hb33 rfl (by decide) u3 k xs (by rfl) HX3.out ⟨w1.heap.size, 0, none⟩ 1 1 (NW ro rt rc (wr.heap.size + 1) L rb).toList (by rfl) (by rfl) HCS.out (nw_one _ _ _ _ _ _) (by unfold maxLen; omega) (by omega) hz1 ?_; intro v' w3 hown hgrow; obtain ⟨hrl, hs3⟩ := HNX.out v' w3 hown hgrow; have HRL := hidI hrl; have HS3 := hidI hs3; clear hown hgrow hrl hs3)
            | fail)
        all_goals
          go_wp2_with fail
          go_roundw
          case rel => exact ⟨k + 1, by omega, by go_num, HRL.out⟩
          case measure => simp [intOf]; omega
    · obtain rfl : k = n := by omega
      clear hL
      obtain ⟨xs, hx1, hx2⟩ := HL.out.row
      rw [show rs.take k = rs by rw [HN.out]; exact List.take_length] at hx2
      have HX1 := hidI hx1
      have HX2 := hidI hx2
      have HRS2 := hidI HL.out.res
      have hc0 := cell_of_row wr _ 0 _ _ _ HRS2.out
      have hc1 := cell_of_row wr _ 1 _ _ _ HRS2.out
      have hc2 := cell_of_row wr _ 2 _ _ _ HRS2.out
      have hfz : ∀ j, wr.frozen? ⟨w.heap.size, j, none⟩ = false := fun j => by simp [World.frozen?, HRS2.out]
      simp at hc0 hc1 hc2
      obtain ⟨sa, sc, rfl⟩ := own_form hx1
      clear hx1 hx2
      have HL2 := hidI HL.out.bel
      clear HL
      go_wp2_with fail
      refine bodyPost_ret (v := .agg #[.int .i64 0, .slice sa k sc, .slice none 0 0]) (by simp [results, Ybaf.results16, go_sem, hc0, hc1, hc2]) rfl ⟨.slice sa k sc, rfl, ?_, xs, ?_, ?_⟩
      · exact ((HL2.out.setCell (Nat.le_refl _) _).setCell (Nat.le_refl _) _).setCell (Nat.le_refl _) _
      · exact own_weak (ownsRow_setCell_below (ownsRow_setCell_below (ownsRow_setCell_below HX1.out (Nat.lt_succ_self _) _) (Nat.lt_succ_self _) _) (Nat.lt_succ_self _) _)
      · exact HX2.out.far (fun g r h => wire_set3 HRS2.out h)

end Go.Proofs.YbulkaiaFmt
