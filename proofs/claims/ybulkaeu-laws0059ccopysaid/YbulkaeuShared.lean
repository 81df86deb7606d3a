/-
  Seat b0059a: the contract of (*machines).shared (14).
-/
import Derived.Test.YbulkaeuKit
namespace Go.Proofs.Ybulkaeu
open Go.RowKit

theorem Yba.info40 : (Yba.prog.info? 40).map (fun i => (i.zero, i.size, i.bytes)) = some (some (.pointer none), 1, 8) := by kernel_rfl
theorem Yba.info21 : (Yba.prog.info? 21).map (fun i => (i.zero, i.size, i.bytes)) = some (some (.int .i32 0), 1, 4) := by kernel_rfl
theorem Yba.info86 : (Yba.prog.info? 86).map (fun i => (i.size, i.bytes)) = some (5, 40) := by kernel_rfl

/-- The old blocks but two are as they were. -/
structure Two (w w' : World) (r s : Option Nat) : Prop where
  os : w'.os = w.os
  tape : w'.tape = w.tape
  output : w'.output = w.output
  size : w.heap.size ≤ w'.heap.size
  block : ∀ k, k < w.heap.size → some k ≠ r → some k ≠ s → w'.heap[k]? = w.heap[k]?

/-- the cells that the region reads, and those that it writes at its end, say the same in both worlds -/
theorem cell_far' {w w' : World} {row : Option Nat} (hg : w.grownBy w' row) {b : Nat} (hlt : b < w.heap.size) (hne : some b ≠ row) (o : Nat) : w'.cell? ⟨b, o, none⟩ = w.cell? ⟨b, o, none⟩ :=
  World.cell?_of_block (hg.block b hlt hne)
theorem frozen_far' {w w' : World} {row : Option Nat} (hg : w.grownBy w' row) {b : Nat} (hlt : b < w.heap.size) (hne : some b ≠ row) (o : Nat) : w'.frozen? ⟨b, o, none⟩ = w.frozen? ⟨b, o, none⟩ :=
  World.frozen?_of_block (hg.block b hlt hne)

abbrev SS (L H : Nat) (aN aB aM an am lm ls : Option Addr) (nN cN nB cB nM cM n cn m cm : Nat) (w' : World) : Prop :=
  w'.cell? ⟨L, 0, none⟩ = some (.slice an n cn) ∧ w'.cell? ⟨L, 2, none⟩ = some (.pointer lm) ∧ w'.cell? ⟨L, 3, none⟩ = some (.func (.func 9) #[] #[]) ∧ w'.cell? ⟨L, 4, none⟩ = some (.pointer ls) ∧ w'.cell? ⟨L, 5, none⟩ = some (.slice am m cm) ∧
  w'.cell? ⟨H, 0, none⟩ = some (.slice aN nN cN) ∧ w'.cell? ⟨H, 1, none⟩ = some (.slice aB nB cB) ∧ w'.cell? ⟨H, 5, none⟩ = some (.slice aM nM cM)
abbrev RR (H : Nat) (w' : World) : Prop := w'.heap[H]? = some (.cells #[.slice none 0 0, .slice none 0 0, .pointer none, .nilFunc, .pointer none, .slice none 0 0] 65 (0, 0))

theorem SS.far {L H : Nat} {aN aB aM an am lm ls : Option Addr} {nN cN nB cB nM cM n cn m cm : Nat} {w w' : World} {row : Option Nat} (h : SS L H aN aB aM an am lm ls nN cN nB cB nM cM n cn m cm w) (hg : w.grownBy w' row)
    (hL : L < H) (hz : H < w.heap.size) (n1 : some L ≠ row) (n2 : some H ≠ row) : SS L H aN aB aM an am lm ls nN cN nB cB nM cM n cn m cm w' := by
  unfold SS at h ⊢
  have c1 := cell_far' hg (b := L) (by omega) n1
  have c2 := cell_far' hg (b := H) (by omega) n2
  simp only [c1, c2]
  exact h

theorem SS.set {L H : Nat} {aN aB aM an am lm ls : Option Addr} {nN cN nB cB nM cM n cn m cm : Nat} {w : World} (h : SS L H aN aB aM an am lm ls nN cN nB cB nM cM n cn m cm w) {b o : Nat} (v : Value) (n1 : L ≠ b) (n2 : H ≠ b) :
    SS L H aN aB aM an am lm ls nN cN nB cB nM cM n cn m cm (w.setCell ⟨b, o, none⟩ v) := by
  unfold SS at h ⊢
  have c1 : ∀ i, (w.setCell ⟨b, o, none⟩ v).cell? ⟨L, i, none⟩ = w.cell? ⟨L, i, none⟩ := fun i => World.cell?_of_block (Below.heap_setCell _ _ _ _ n1)
  have c2 : ∀ i, (w.setCell ⟨b, o, none⟩ v).cell? ⟨H, i, none⟩ = w.cell? ⟨H, i, none⟩ := fun i => World.cell?_of_block (Below.heap_setCell _ _ _ _ n2)
  simp only [c1, c2]
  exact h

theorem own_set {w : World} {base e n c : Nat} {a : Option Addr} {xs : List Value} (h : w.ownsRow base e 1 (.slice a n c) n xs) {b o : Nat} (hb : some b ≠ ob a) (v : Value) : (w.setCell ⟨b, o, none⟩ v).ownsRow base e 1 (.slice a n c) n xs := by
  refine ⟨h.1, ?_⟩
  rcases h.2 with h0 | ⟨g, cap, cur, hv, hg, hh, r⟩
  · exact .inl h0
  · refine .inr ⟨g, cap, cur, hv, hg, ?_, r⟩
    rw [Below.heap_setCell _ _ _ _ (by
      intro e
      have : a = some ⟨g, 0, none⟩ := by simp at hv; exact hv.1
      exact hb (by rw [this]; simp [ob, e]))]
    exact hh
theorem own_six {w : World} {base e n c : Nat} {a : Option Addr} {xs : List Value} (h : w.ownsRow base e 1 (.slice a n c) n xs) {b o0 o1 o2 o3 o4 o5 : Nat} {v0 v1 v2 v3 v4 v5 : Value} (hb : some b ≠ ob a) :
    ((((((w.setCell ⟨b, o0, none⟩ v0).setCell ⟨b, o1, none⟩ v1).setCell ⟨b, o2, none⟩ v2).setCell ⟨b, o3, none⟩ v3).setCell ⟨b, o4, none⟩ v4).setCell ⟨b, o5, none⟩ v5).ownsRow base e 1 (.slice a n c) n xs :=
  own_set (own_set (own_set (own_set (own_set (own_set h hb _) hb _) hb _) hb _) hb _) hb _

theorem Two.set {w w' : World} {r s : Option Nat} (h : Two w w' r s) {b o : Nat} (hb : w.heap.size ≤ b) (v : Value) : Two w (w'.setCell ⟨b, o, none⟩ v) r s := by
  refine ⟨h.os, h.tape, h.output, ?_, fun k hk n1 n2 => ?_⟩
  · simp only [World.setCell, Array.size_modify]; exact h.size
  · rw [Below.heap_setCell _ _ _ _ (by show k ≠ b; omega)]; exact h.block k hk n1 n2
theorem two_six {w w' : World} {r s : Option Nat} (h : Two w w' r s) {b o0 o1 o2 o3 o4 o5 : Nat} {v0 v1 v2 v3 v4 v5 : Value} (hb : w.heap.size ≤ b) :
    Two w ((((((w'.setCell ⟨b, o0, none⟩ v0).setCell ⟨b, o1, none⟩ v1).setCell ⟨b, o2, none⟩ v2).setCell ⟨b, o3, none⟩ v3).setCell ⟨b, o4, none⟩ v4).setCell ⟨b, o5, none⟩ v5) r s :=
  (((((h.set hb _).set hb _).set hb _).set hb _).set hb _).set hb _
theorem two_of {w W w1 w2 : World} {r s : Option Nat} (g0 : w.grownBy W none) (g1 : W.drew.grownBy w1 r) (g2 : w1.grownBy w2 s) (hW : w.heap.size + 2 ≤ W.heap.size) (h1 : w.heap.size + 2 ≤ w1.heap.size) : Two w w2 r s := by
  refine ⟨g2.os.trans (g1.os.trans g0.os), g2.tape.trans (g1.tape.trans g0.tape), g2.output.trans (g1.output.trans g0.output), ?_, fun k hk n1 n2 => ?_⟩
  · have := g2.size; omega
  · rw [g2.block k (by omega) n2, g1.block k (by show _ < W.heap.size; omega) n1]
    exact g0.block k hk (by simp)

theorem second_new (w : World) (o1 o2 : Obj) : ((w.alloc o1).alloc o2).heap[w.heap.size + 1]? = some o2 := by
  have h := heap_alloc_new (w.alloc o1) o2
  rwa [show (w.alloc o1).heap.size = w.heap.size + 1 by simp] at h

theorem own_ne {w : World} {base e c : Nat} {a : Option Addr} (h : w.ownsRow base e 1 (.slice a 0 c) 0 []) {k : Nat} (hk : k < base ∨ w.heap.size ≤ k) : some k ≠ ob a := by
  intro e
  have := h.lt k (by rw [ownBlock_slice]; exact e.symm)
  omega

set_option maxRecDepth 100000 in
set_option maxHeartbeats 3200000 in
theorem shared_any (L base : Nat) (aN aB aM : Option Addr) (nN cN nB cB nM cM : Nat) (pm : Option Addr) (an am : Option Addr) (n cn m cm : Nat) (lm ls : Option Addr) (xsN xsM : List Value) (w : World)
    (h0 : w.cell? ⟨L, 0, none⟩ = some (.slice an n cn)) (h2 : w.cell? ⟨L, 2, none⟩ = some (.pointer lm)) (h3 : w.cell? ⟨L, 3, none⟩ = some (.func (.func 9) #[] #[])) (h4 : w.cell? ⟨L, 4, none⟩ = some (.pointer ls)) (h5 : w.cell? ⟨L, 5, none⟩ = some (.slice am m cm))
    (hN : w.ownsRow base 40 1 (.slice aN 0 cN) 0 []) (hM : w.ownsRow base 21 1 (.slice aM 0 cM) 0 []) (hNM : ob aN = none ∨ ob aN ≠ ob aM) (hL : L < base) (hbase : base ≤ w.heap.size)
    (hsN : Src w an n cn xsN) (hsM : Src w am m cm xsM) (hbN : ∀ ad : Addr, an = some ad → 0 < n → ad.block < base) (hbM : ∀ ad : Addr, am = some ad → 0 < m → ad.block < base) (hn : n ≤ 1024) (hm : m ≤ 1024) :
    Calls Yba.prog 14 #[.pointer (some ⟨L, 0, none⟩), .agg #[.slice aN nN cN, .slice aB nB cB, .pointer pm, .nilFunc, .pointer none, .slice aM nM cM]] w fun e w' =>
      ∃ aN' cN' aM' cM', e = .returned (.agg #[.slice aN' n cN', .slice aB 0 cB, .pointer lm, .func (.func 9) #[] #[], .pointer ls, .slice aM' m cM']) ∧
        w'.ownsRow base 40 1 (.slice aN' n cN') n xsN ∧ w'.ownsRow base 21 1 (.slice aM' m cM') m xsM ∧ Two w w' (ob aN) (ob aM) := by
  obtain ⟨i40, hi40, hz40, hs40, hb40⟩ := info_parts Yba.info40
  obtain ⟨i21, hi21, hz21, hs21, hb21⟩ := info_parts Yba.info21
  have HSN := hidI hsN
  have HSM := hidI hsM
  have HBN := hidI hbN
  have HBM := hidI hbM
  have HN := hidI hN
  have HM := hidI hM
  have HNM := hidI hNM
  clear hsN hsM hbN hbM hN hM hNM
  have hc24 := run_cut0 (P := Yba.prog) 24 40 i40 Yba.underlying24 hi40
  have hc39 := run_cut0 (P := Yba.prog) 39 21 i21 Yba.underlying39 hi21
  have lL := World.block_lt_of_cell? w _ h0
  go_enter Yba.func14, Yba.ntmps14
  go_wp2_with fail
  generalize hW : ((w.alloc (Obj.cells #[Value.slice aN nN cN, Value.slice aB nB cB, Value.pointer pm, Value.nilFunc, Value.pointer none, Value.slice aM nM cM] 65)).alloc (Obj.cells #[Value.slice none 0 0, Value.slice none 0 0, Value.pointer none, Value.nilFunc, Value.pointer none, Value.slice none 0 0] 65)) = W
  have hWs : W.heap.size = w.heap.size + 2 := by rw [← hW]; simp
  have hWg : w.grownBy W none := by rw [← hW]; exact ⟨rfl, rfl, rfl, by simp; omega, fun k hk _ => by simp only [World.alloc]; rw [Array.getElem?_push, if_neg (by simp; omega), Array.getElem?_push, if_neg (by omega)]⟩
  have hS : SS L w.heap.size aN aB aM an am lm ls nN cN nB cB nM cM n cn m cm W := by
    have c1 := cell_far' hWg (b := L) (by omega) (by simp)
    unfold SS
    simp only [c1, h0, h2, h3, h4, h5, true_and]
    rw [← hW]
    simp
  have hR : RR (w.heap.size + 1) W := by
    rw [← hW]
    exact second_new w _ _
  have HR := hidI hR
  have hnL : some L ≠ ob aN := own_ne HN.out (Or.inl hL)
  have hnH : some w.heap.size ≠ ob aN := own_ne HN.out (Or.inr (Nat.le_refl _))
  have hnR : some (w.heap.size + 1) ≠ ob aN := own_ne HN.out (Or.inr (Nat.le_succ _))
  have hmL : some L ≠ ob aM := own_ne HM.out (Or.inl hL)
  have hmH : some w.heap.size ≠ ob aM := own_ne HM.out (Or.inr (Nat.le_refl _))
  have hmR : some (w.heap.size + 1) ≠ ob aM := own_ne HM.out (Or.inr (Nat.le_succ _))
  have HNW := hidI (HN.out.kept hWg (by cases aN <;> simp [Value.ownBlock]))
  have HMW := hidI (HM.out.kept hWg (by cases aM <;> simp [Value.ownBlock]))
  have HSNW := hidI (HSN.out.far (fun ad had hp => hWg.block _ (by have := HBN.out ad had hp; omega) (by simp)))
  have HSMW := hidI (HSM.out.far (fun ad had hp => hWg.block _ (by have := HBM.out ad had hp; omega) (by simp)))
  have HWG := hidI hWg
  have HS : Hid (SS L w.heap.size aN aB aM an am lm ls nN cN nB cB nM cM n cn m cm W) := hidI hS
  have HSd : Hid (SS L w.heap.size aN aB aM an am lm ls nN cN nB cB nM cM n cn m cm W.drew) := hidI hS
  clear hW hWg hS hR h0 h2 h3 h4 h5
  have hneMN : (Value.slice aM 0 cM).ownBlock = none ∨ (Value.slice aM 0 cM).ownBlock ≠ ob aN := by
    rw [ownBlock_slice]
    rcases HNM.out with h | h
    · rw [h]; cases ob aM <;> simp
    · exact .inr (Ne.symm h)
  have HNE := hidI hneMN
  clear hneMN
  have hLne : L ≠ w.heap.size + 1 := by omega
  have tok1 : True := trivial
  go_region_held3 (fun w' => SS L w.heap.size aN aB aM an am lm ls nN cN nB cB nM cM n cn m cm w')
    (first | with_reducible exact HS2.out | with_reducible exact HS1.out | with_reducible exact HSd.out | with_reducible exact HS.out | (have hLne : L ≠ w.heap.size + 1 := (by omega); have hHne : w.heap.size ≠ w.heap.size + 1 := (by omega); exact ((((((HS2.out).set _ hLne hHne).set _ hLne hHne).set _ hLne hHne).set _ hLne hHne).set _ hLne hHne).set _ hLne hHne))
    ((first
      | (have _t := tok1; refine step_app (by rfl) _ _ 24 (by rfl) base 40 i40 _ 8 Yba.underlying24 hi40 hz40 hs40 hb40 rfl aN cN (by rfl) HNW.out an n cn xsN (by rfl) HSNW.out (by unfold maxLen; omega) (by omega) (by simp; omega) ?_; intro aN' cN' w1 hown1 hgrow1 hat1; clear tok1; have hz1 : w.heap.size + 2 ≤ w1.heap.size := (by rw [← hWs]; exact hgrow1.size); have HS1 := hidI (SS.far (w := W.drew) HSd.out hgrow1 lL (by show _ < W.heap.size; omega) hnL hnH); have HR1 : Hid (RR (w.heap.size + 1) w1) := hidI ((hgrow1.block _ (by show _ < W.heap.size; omega) hnR).trans HR.out); have HM1 := hidI (World.ownsRow.kept (w := W.drew) HMW.out hgrow1 HNE.out); have HSM1 := hidI (HSMW.out.far (w' := w1) (fun ad had hp => hgrow1.block _ (by have := HBM.out ad had hp; show _ < W.heap.size; omega) (own_ne HNW.out (Or.inl (HBM.out ad had hp))))); have HO1 := hidI hown1; have HG1 := hidI hgrow1; have HAT1 := hidI hat1; clear hown1 hgrow1 hat1)
      | (refine step_app (by rfl) _ _ 39 (by rfl) base 21 i21 _ 4 Yba.underlying39 hi21 hz21 hs21 hb21 rfl aM cM (by rfl) HM1.out am m cm xsM (by rfl) HSM1.out (by unfold maxLen; omega) (by omega) (by omega) ?_; intro aM' cM' w2 hown2 hgrow2 hat2; have HS2 := hidI (SS.far (w := w1) HS1.out hgrow2 lL (by omega) hmL hmH); have HR2 : Hid (RR (w.heap.size + 1) w2) := hidI ((hgrow2.block _ (by omega) hmR).trans HR1.out); have HO2 := hidI hown2; have HG2 := hidI hgrow2; have HAT2 := hidI hat2; clear hown2 hgrow2 hat2; have r0 : w2.cell? ⟨w.heap.size + 1, 0, none⟩ = some (.slice none 0 0) := cell_of_row w2 _ 0 _ _ _ HR2.out; have f0 : w2.frozen? ⟨w.heap.size + 1, 0, none⟩ = false := frozen_of_row w2 _ 0 _ _ HR2.out; have r1 : w2.cell? ⟨w.heap.size + 1, 1, none⟩ = some (.slice none 0 0) := cell_of_row w2 _ 1 _ _ _ HR2.out; have f1 : w2.frozen? ⟨w.heap.size + 1, 1, none⟩ = false := frozen_of_row w2 _ 1 _ _ HR2.out; have r2 : w2.cell? ⟨w.heap.size + 1, 2, none⟩ = some (.pointer none) := cell_of_row w2 _ 2 _ _ _ HR2.out; have f2 : w2.frozen? ⟨w.heap.size + 1, 2, none⟩ = false := frozen_of_row w2 _ 2 _ _ HR2.out; have r3 : w2.cell? ⟨w.heap.size + 1, 3, none⟩ = some .nilFunc := cell_of_row w2 _ 3 _ _ _ HR2.out; have f3 : w2.frozen? ⟨w.heap.size + 1, 3, none⟩ = false := frozen_of_row w2 _ 3 _ _ HR2.out; have r4 : w2.cell? ⟨w.heap.size + 1, 4, none⟩ = some (.pointer none) := cell_of_row w2 _ 4 _ _ _ HR2.out; have f4 : w2.frozen? ⟨w.heap.size + 1, 4, none⟩ = false := frozen_of_row w2 _ 4 _ _ HR2.out; have r5 : w2.cell? ⟨w.heap.size + 1, 5, none⟩ = some (.slice none 0 0) := cell_of_row w2 _ 5 _ _ _ HR2.out; have f5 : w2.frozen? ⟨w.heap.size + 1, 5, none⟩ = false := frozen_of_row w2 _ 5 _ _ HR2.out)))
  go_wp2
  refine bodyPost_ret (v := .agg #[.slice aN' n cN', .slice aB 0 cB, .pointer lm, .func (.func 9) #[] #[], .pointer ls, .slice aM' m cM']) (by simp [results, Yba.results14, go_sem, r0, r1, r2, r3, r4, r5]) rfl ⟨aN', cN', aM', cM', rfl, ?_, ?_, ?_⟩
  · have h1 : w2.ownsRow base 40 1 (.slice aN' n cN') n xsN := HO1.out.kept HG2.out (by
      rw [ownBlock_slice]
      rcases HAT1.out with h | h
      · rw [h]; exact HNM.out
      · rw [h]; exact .inr (by
          have := own_ne HM.out (k := W.drew.heap.size) (Or.inr (by show _ ≤ W.heap.size; omega))
          exact this))
    have h2 : some (w.heap.size + 1) ≠ ob aN' := by
      rcases HAT1.out with h | h
      · rw [h]; exact hnR
      · rw [h]; intro e; have e' := Option.some.inj e; have e2 : W.drew.heap.size = W.heap.size := rfl; omega
    exact own_six h1 h2
  · have h2 : some (w.heap.size + 1) ≠ ob aM' := by
      rcases HAT2.out with h | h
      · rw [h]; exact hmR
      · rw [h]; intro e; have e' := Option.some.inj e; omega
    exact own_six HO2.out h2
  · exact two_six (two_of HWG.out HG1.out HG2.out (by omega) hz1) (Nat.le_succ _)

end Go.Proofs.Ybulkaeu
