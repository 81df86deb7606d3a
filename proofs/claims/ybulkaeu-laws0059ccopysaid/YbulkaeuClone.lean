/-
  Seat b0059a: the contracts of reuse (13) and (*broadcastLayer).clone (10).
-/
import Derived.Test.YbulkaeuShared
import Derived.Deep.RegionWith
namespace Go.Proofs.Ybulkaeu
open Go.RowKit

/-- what the layer's block holds -/
abbrev layerB (aN aB aM : Option Addr) (nN cN nB cB nM cM : Nat) (lm : Option Addr) (f : Value) (ls : Option Addr) : Obj :=
  .cells #[.slice aN nN cN, .slice aB nB cB, .pointer lm, f, .pointer ls, .slice aM nM cM] 67 (0, 0)

theorem ta_old (C : Nat) (w : World) : (Instr.typeAssert (.iface 61 (.pointer (some ⟨C, 0, none⟩))) 69 61 true).run Yba.prog w = .ok (.tuple #[.pointer (some ⟨C, 0, none⟩), .bool true]) w := by kernel_rfl
theorem ta_nil (w : World) : (Instr.typeAssert .nilIface 69 61 true).run Yba.prog w = .ok (.tuple #[.pointer none, .bool false]) w := by kernel_rfl
theorem ta_set (p : Value) (w : World) : (Instr.typeAssert (.iface 70 p) 69 61 true).run Yba.prog w = .ok (.tuple #[.pointer none, .bool false]) w := by kernel_rfl
theorem ta_other (p : Value) (w : World) : (Instr.typeAssert (.iface 77 p) 69 61 true).run Yba.prog w = .ok (.tuple #[.pointer none, .bool false]) w := by kernel_rfl

set_option maxRecDepth 100000 in
theorem reuse_old (C : Nat) (w : World) : Calls Yba.prog 13 #[.iface 61 (.pointer (some ⟨C, 0, none⟩))] w fun e w' => e = .returned (.pointer (some ⟨C, 0, none⟩)) ∧ w = w' := by
  have hta := ta_old C
  go_enter Yba.func13, Yba.ntmps13
  go_wp2
  go_ret
  exact ⟨rfl, rfl⟩

set_option maxRecDepth 100000 in
theorem reuse_nil (w : World) : Calls Yba.prog 13 #[.nilIface] w fun e w' => e = .returned (.pointer (some ⟨w.heap.size, 0, none⟩)) ∧ w.alloc (layerB none none none 0 0 0 0 0 0 none .nilFunc none) = w' := by
  have hta := ta_nil 
  go_enter Yba.func13, Yba.ntmps13
  go_wp2
  go_ret
  exact ⟨rfl, rfl⟩

set_option maxRecDepth 100000 in
theorem reuse_set (p : Value) (w : World) : Calls Yba.prog 13 #[.iface 70 p] w fun e w' => e = .returned (.pointer (some ⟨w.heap.size, 0, none⟩)) ∧ w.alloc (layerB none none none 0 0 0 0 0 0 none .nilFunc none) = w' := by
  have hta := ta_set p
  go_enter Yba.func13, Yba.ntmps13
  go_wp2
  go_ret
  exact ⟨rfl, rfl⟩

set_option maxRecDepth 100000 in
theorem reuse_other (p : Value) (w : World) : Calls Yba.prog 13 #[.iface 77 p] w fun e w' => e = .returned (.pointer (some ⟨w.heap.size, 0, none⟩)) ∧ w.alloc (layerB none none none 0 0 0 0 0 0 none .nilFunc none) = w' := by
  have hta := ta_other p
  go_enter Yba.func13, Yba.ntmps13
  go_wp2
  go_ret
  exact ⟨rfl, rfl⟩

/-- what clone leaves -/
def Cloned (base C : Nat) (aB : Option Addr) (cB n m : Nat) (lm ls : Option Addr) (xsN xsM : List Value) (w : World) (aN' : Option Addr) (cN' : Nat) (aM' : Option Addr) (cM' : Nat) (w' : World) : Prop :=
  w'.heap[C]? = some (layerB aN' aB aM' n cN' 0 cB m cM' lm (.func (.func 9) #[] #[]) ls) ∧ w'.ownsRow base 40 1 (.slice aN' n cN') n xsN ∧ w'.ownsRow base 21 1 (.slice aM' m cM') m xsM ∧ Below base w w'

theorem cells_of_layer {w : World} {C : Nat} {aN aB aM : Option Addr} {nN cN nB cB nM cM : Nat} {lm : Option Addr} {f : Value} {ls : Option Addr} (h : w.heap[C]? = some (layerB aN aB aM nN cN nB cB nM cM lm f ls)) :
    w.cell? ⟨C, 0, none⟩ = some (.slice aN nN cN) ∧ w.cell? ⟨C, 1, none⟩ = some (.slice aB nB cB) ∧ w.cell? ⟨C, 2, none⟩ = some (.pointer lm) ∧ w.cell? ⟨C, 3, none⟩ = some f ∧ w.cell? ⟨C, 4, none⟩ = some (.pointer ls) ∧ w.cell? ⟨C, 5, none⟩ = some (.slice aM nM cM) ∧
    (∀ j, w.frozen? ⟨C, j, none⟩ = false) :=
  ⟨cell_of_row w C 0 _ _ _ h, cell_of_row w C 1 _ _ _ h, cell_of_row w C 2 _ _ _ h, cell_of_row w C 3 _ _ _ h, cell_of_row w C 4 _ _ _ h, cell_of_row w C 5 _ _ _ h, fun j => frozen_of_row w C j _ _ h⟩

theorem set_block {w : World} {b o : Nat} {cs : Array Value} {t : TypeId} {fr : Nat × Nat} (h : w.heap[b]? = some (.cells cs t fr)) (v : Value) : (w.setCell ⟨b, o, none⟩ v).heap[b]? = some (.cells (cs.setIfInBounds o v) t fr) := by
  simp [World.setCell, Array.getElem?_modify, h]

theorem own_not {w : World} {base e n c C : Nat} {a : Option Addr} {xs : List Value} {cs : Array Value} {t : Nat} {fr : Nat × Nat} (h : w.ownsRow base e 1 (.slice a n c) n xs) (hC : w.heap[C]? = some (.cells cs t fr)) (hne : t ≠ e) : some C ≠ ob a := by
  intro e'
  rcases h.2 with ⟨h0, _⟩ | ⟨g, cap, cur, hv, _, hh, _⟩
  · simp at h0; rw [h0.1] at e'; simp [ob] at e'
  · simp at hv
    rw [hv.1] at e'
    simp [ob] at e'
    subst e'
    rw [hC] at hh
    simp at hh
    exact hne hh.2.1

theorem cloned_of {base C : Nat} {aN aB aM : Option Addr} {nN cN nB cB nM cM : Nat} {pm : Option Addr} {n m : Nat} {lm ls : Option Addr} {xsN xsM : List Value} {w wC w2 : World} {aN' : Option Addr} {cN' : Nat} {aM' : Option Addr} {cM' : Nat}
    (hbel : Below base w wC) (hT : Two wC.drew w2 (ob aN) (ob aM)) (hD : w2.heap[C]? = some (layerB aN aB aM nN cN nB cB nM cM pm .nilFunc none)) (hN : w2.ownsRow base 40 1 (.slice aN' n cN') n xsN) (hM : w2.ownsRow base 21 1 (.slice aM' m cM') m xsM)
    (hkN : ∀ k, k < base → some k ≠ ob aN) (hkM : ∀ k, k < base → some k ≠ ob aM) (hCb : base ≤ C) (hbase : base ≤ wC.heap.size) :
    Cloned base C aB cB n m lm ls xsN xsM w aN' cN' aM' cM'
      ((((((w2.setCell ⟨C, 0, none⟩ (.slice aN' n cN')).setCell ⟨C, 1, none⟩ (.slice aB 0 cB)).setCell ⟨C, 2, none⟩ (.pointer lm)).setCell ⟨C, 3, none⟩ (.func (.func 9) #[] #[])).setCell ⟨C, 4, none⟩ (.pointer ls)).setCell ⟨C, 5, none⟩ (.slice aM' m cM')) := by
  refine ⟨?_, own_six hN (own_not hN hD (by decide)), own_six hM (own_not hM hD (by decide)), ?_⟩
  · exact set_block (set_block (set_block (set_block (set_block (set_block hD _) _) _) _) _) _
  · refine hbel.trans ?_
    have hB : Below base wC w2 := ⟨hT.os, hT.tape, hT.output, hT.size, fun k hk => hT.block k (by show _ < wC.heap.size; omega) (hkN k hk) (hkM k hk)⟩
    exact (((((hB.setCell (p := ⟨C, 0, none⟩) hCb _).setCell (p := ⟨C, 1, none⟩) hCb _).setCell (p := ⟨C, 2, none⟩) hCb _).setCell (p := ⟨C, 3, none⟩) hCb _).setCell (p := ⟨C, 4, none⟩) hCb _).setCell (p := ⟨C, 5, none⟩) hCb _

set_option maxRecDepth 100000 in
set_option maxHeartbeats 3200000 in
theorem clone_core (into : Value) (C L base : Nat) (aN aB aM : Option Addr) (nN cN nB cB nM cM : Nat) (pm : Option Addr) (an am : Option Addr) (n cn m cm : Nat) (lm ls : Option Addr) (xsN xsM : List Value) (w wC : World)
    (hre : Calls Yba.prog 13 #[into] w fun e w' => e = .returned (.pointer (some ⟨C, 0, none⟩)) ∧ wC = w')
    (hC : wC.heap[C]? = some (layerB aN aB aM nN cN nB cB nM cM pm .nilFunc none)) (hCN : some C ≠ ob aN) (hCM : some C ≠ ob aM) (hCb : base ≤ C) (hbel : Below base w wC)
    (h0 : wC.cell? ⟨L, 0, none⟩ = some (.slice an n cn)) (h2 : wC.cell? ⟨L, 2, none⟩ = some (.pointer lm)) (h3 : wC.cell? ⟨L, 3, none⟩ = some (.func (.func 9) #[] #[])) (h4 : wC.cell? ⟨L, 4, none⟩ = some (.pointer ls)) (h5 : wC.cell? ⟨L, 5, none⟩ = some (.slice am m cm))
    (hN : wC.ownsRow base 40 1 (.slice aN 0 cN) 0 []) (hM : wC.ownsRow base 21 1 (.slice aM 0 cM) 0 []) (hNM : ob aN = none ∨ ob aN ≠ ob aM) (hL : L < base) (hbase : base ≤ wC.heap.size)
    (hsN : Src wC an n cn xsN) (hsM : Src wC am m cm xsM) (hbN : ∀ ad : Addr, an = some ad → 0 < n → ad.block < base) (hbM : ∀ ad : Addr, am = some ad → 0 < m → ad.block < base) (hn : n ≤ 1024) (hm : m ≤ 1024) :
    Calls Yba.prog 10 #[.pointer (some ⟨L, 0, none⟩), into] w fun e w' => e = .returned (.iface 61 (.pointer (some ⟨C, 0, none⟩))) ∧ ∃ aN' cN' aM' cM', Cloned base C aB cB n m lm ls xsN xsM w aN' cN' aM' cM' w' := by
  have hsh := shared_any L base aN aB aM nN cN nB cB nM cM pm an am n cn m cm lm ls xsN xsM wC.drew h0 h2 h3 h4 h5 hN hM hNM hL hbase hsN hsM hbN hbM hn hm
  have HRE := hidI hre
  have HSH := hidI hsh
  have HC := hidI hC
  have hCl : C < wC.heap.size := (Array.getElem?_eq_some_iff.1 hC).1
  obtain ⟨c0, c1, c2, c3, c4, c5, fC⟩ := cells_of_layer hC
  have HBEL := hidI hbel
  have HKN := hidI (fun k hk => own_ne hN (k := k) (Or.inl hk))
  have HKM := hidI (fun k hk => own_ne hM (k := k) (Or.inl hk))
  clear hre hsh hC hbel h0 h2 h3 h4 h5 hN hM hNM hsN hsM hbN hbM
  go_enter Yba.func10, Yba.ntmps10
  go_wp2_with (go_at_call 13; refine HRE.out.mono ?_; rintro e w1 ⟨rfl, rfl⟩)
  go_region_with (go_at_call 14; refine HSH.out.mono ?_; rintro e w2 ⟨aN', cN', aM', cM', rfl, hoN, hoM, hTw⟩; have HD := hidI ((hTw.block C hCl hCN hCM).trans HC.out); obtain ⟨d0, d1, d2, d3, d4, d5, fD⟩ := cells_of_layer HD.out; have HON := hidI hoN; have HOM := hidI hoM; have HTW := hidI hTw; clear hoN hoM hTw)
  have hfin := cloned_of (lm := lm) (ls := ls) HBEL.out HTW.out HD.out HON.out HOM.out HKN.out HKM.out hCb hbase
  have HF := hidI hfin
  clear hfin d0 d1 d2 d3 d4 d5 fD c0 c1 c2 c3 c4 c5 fC
  generalize ((((((w2.setCell ⟨C, 0, none⟩ (.slice aN' n cN')).setCell ⟨C, 1, none⟩ (.slice aB 0 cB)).setCell ⟨C, 2, none⟩ (.pointer lm)).setCell ⟨C, 3, none⟩ (.func (.func 9) #[] #[])).setCell ⟨C, 4, none⟩ (.pointer ls)).setCell ⟨C, 5, none⟩ (.slice aM' m cM')) = w3 at HF ⊢
  go_wp2
  go_ret
  exact ⟨rfl, aN', cN', aM', cM', HF.out⟩

end Go.Proofs.Ybulkaeu
