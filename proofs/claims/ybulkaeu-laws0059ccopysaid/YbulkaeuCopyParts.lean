/-
  Seat b0059a: LawS0059CCopy: what is no walk.
-/
import Derived.Test.YbulkaeuClone
namespace Go.Proofs.Ybulkaeu
open Go.RowKit

/-- the pool's pointer that a pick takes -/
def po (h : Nat) (z : Int) : Option Addr := if z % 3 = 0 then some ⟨h, 0, none⟩ else if z % 3 = 1 then some ⟨h + 1, 0, none⟩ else none
def poolA (h : Nat) : Array Value := #[.pointer (some ⟨h, 0, none⟩), .pointer (some ⟨h + 1, 0, none⟩), .pointer none]

set_option maxRecDepth 100000 in
theorem run_pool (g : Nat) (r : Int) (h0 : 0 ≤ r) (h3 : r < 3) (W : World) : (Instr.indexAt 45 (.pointer (some ⟨g, 0, none⟩)) (.int .i64 r)).run Yba.prog W = .ok (.pointer (some ⟨g, r.toNat, none⟩)) W := by
  rcases (show r = 0 ∨ r = 1 ∨ r = 2 by omega) with rfl | rfl | rfl <;> rfl

theorem pool_cell (h : Nat) (z : Int) : (poolA h)[(z % 3).toNat]? = some (.pointer (po h z)) := by
  rcases (show z % 3 = 0 ∨ z % 3 = 1 ∨ z % 3 = 2 by omega) with e | e | e <;> simp [po, poolA, e]

theorem Yba.info86z : (Yba.prog.info? 86).map (fun i => (i.zero, i.size, i.bytes)) = some (some (.agg #[.int .i32 0, .int .u8 0, .int .i32 0, .int .u64 0, .string ⟨#[]⟩]), 5, 40) := by kernel_rfl

/-- the loop that fills the nodes -/
structure L1 (h n : Nat) (zs : List Int) (k : Nat) (W4 wr : World) : Prop where
  size : wr.heap.size = h + 4
  bel : Below (h + 3) W4 wr
  row : ∃ cur, wr.heap[h + 3]? = some (.cells cur 40 (0, 0)) ∧ cur.size = n ∧ ∀ j, j < k → cur[j]? = some (.pointer (po h (zs.getD j 0)))

theorem L1.cell {h n k : Nat} {zs : List Int} {W4 wr : World} (H : L1 h n zs k W4 wr) {j : Nat} (hj : j < n) : ∃ v, wr.cell? ⟨h + 3, j, none⟩ = some v := by
  obtain ⟨cur, hc, hs, _⟩ := H.row
  exact ⟨cur[j]'(by omega), by rw [cell_of_row wr _ _ _ _ _ hc]; simp [hs, hj]⟩
theorem L1.free {h n k : Nat} {zs : List Int} {W4 wr : World} (H : L1 h n zs k W4 wr) (j : Nat) : wr.frozen? ⟨h + 3, j, none⟩ = false := by
  obtain ⟨cur, hc, _⟩ := H.row
  exact frozen_of_row wr _ _ _ _ hc
theorem L1.next {h n k : Nat} {zs : List Int} {W4 wr : World} (H : L1 h n zs k W4 wr) (hk : k < n) : L1 h n zs (k + 1) W4 (wr.setCell ⟨h + 3, k, none⟩ (.pointer (po h (zs.getD k 0)))) := by
  obtain ⟨hs, hb, cur, hc, hz, hall⟩ := H
  refine ⟨by simpa [World.setCell] using hs, hb.setCell (p := ⟨h + 3, k, none⟩) (Nat.le_refl _) _, _, set_block hc _, by simpa using hz, fun j hj => ?_⟩
  by_cases e : j = k
  · subst e; rw [Array.getElem?_setIfInBounds_self_of_lt (by omega)]
  · rw [Array.getElem?_setIfInBounds_ne (Ne.symm e)]; exact hall j (by omega)

theorem four {w W4 : World} {o1 o2 o3 o4 : Obj} (hW : (((w.alloc o1).alloc o2).alloc o3).alloc o4 = W4) :
    W4.heap.size = w.heap.size + 4 ∧ Below w.heap.size w W4 ∧ W4.heap[w.heap.size + 2]? = some o3 ∧ W4.heap[w.heap.size + 3]? = some o4 := by
  subst hW
  refine ⟨by simp, ((((Below.refl _ _).alloc (Nat.le_refl _) _).alloc (by simp) _).alloc (by simp; omega) _).alloc (by simp; omega) _, ?_, ?_⟩
  · rw [Below.heap_alloc _ _ _ (by simp)]
    have := heap_alloc_new ((w.alloc o1).alloc o2) o3
    rwa [show ((w.alloc o1).alloc o2).heap.size = w.heap.size + 2 by simp] at this
  · have := heap_alloc_new (((w.alloc o1).alloc o2).alloc o3) o4
    rwa [show (((w.alloc o1).alloc o2).alloc o3).heap.size = w.heap.size + 3 by simp] at this

theorem last_new (w : World) (o : Obj) {s : Nat} (h : w.heap.size = s) : (w.alloc o).heap[s]? = some o := by
  subst h; exact heap_alloc_new w o
theorem own0 {w : World} {base g e c : Nat} {cur : Array Value} (h : w.heap[g]? = some (.cells cur e (0, 0))) (hb : base ≤ g) (hc : cur.size = c) (hm : c ≤ maxLen) : w.ownsRow base e 1 (.slice (some ⟨g, 0, none⟩) 0 c) 0 [] :=
  ⟨by simp, .inr ⟨g, c, cur, rfl, hb, h, Nat.zero_le _, hm, by simpa using hc, by simp⟩⟩

theorem wrap_tmod {o : Int} (h0 : 0 ≤ o) (h1 : o ≤ 255) (k : Int) : (IntKind.i64.wrap o).tmod k = o % k := by
  have e : IntKind.i64.wrap o = o := by rw [IntKind.wrap_i64]; omega
  rw [e, Int.tmod_eq_emod_of_nonneg h0]

/-- the world when l stands -/
structure F8 (n m cap1 : Nat) (a1 : Option Addr) (zs : List Int) (w W8 : World) : Prop where
  size : W8.heap.size = w.heap.size + 8
  bel : Below w.heap.size w W8
  lay : W8.heap[w.heap.size + 7]? = some (layerB (some ⟨w.heap.size + 3, 0, none⟩) (some ⟨w.heap.size + 6, 0, none⟩) a1 n n (n % 3) (n % 3) m cap1 (some ⟨w.heap.size + 4, 0, none⟩) (.func (.func 9) #[] #[]) (some ⟨w.heap.size + 5, 0, none⟩))
  pool : W8.heap[w.heap.size + 2]? = some (.cells (poolA w.heap.size) 45 (0, 0))
  nodes : ∃ cur, W8.heap[w.heap.size + 3]? = some (.cells cur 40 (0, 0)) ∧ cur.size = n ∧ ∀ j, j < n → cur[j]? = some (.pointer (po w.heap.size (zs.getD j 0)))

theorem F8.of {n m cap1 : Nat} {a1 : Option Addr} {zs : List Int} {w W4 wr W8 : World} {o1 o2 o3 : Obj} (hB4 : Below w.heap.size w W4) (hP4 : W4.heap[w.heap.size + 2]? = some (.cells (poolA w.heap.size) 45 (0, 0))) (hL : L1 w.heap.size n zs n W4 wr)
    (hW : (((wr.alloc o1).alloc o2).alloc o3).alloc (layerB (some ⟨w.heap.size + 3, 0, none⟩) (some ⟨w.heap.size + 6, 0, none⟩) a1 n n (n % 3) (n % 3) m cap1 (some ⟨w.heap.size + 4, 0, none⟩) (.func (.func 9) #[] #[]) (some ⟨w.heap.size + 5, 0, none⟩)) = W8) :
    F8 n m cap1 a1 zs w W8 := by
  obtain ⟨h1, h2, h3, h4⟩ := four hW
  obtain ⟨hs, hb, cur, hc, hz, hall⟩ := hL
  refine ⟨by rw [h1, hs], (hB4.trans (hb.mono (by omega))).trans (h2.mono (by omega)), ?_, ?_, cur, ?_, hz, hall⟩
  · rw [hs] at h4; exact h4
  · rw [h2.block _ (by omega), hb.block _ (by omega)]; exact hP4
  · rw [h2.block _ (by omega)]; exact hc

/-- what the switch leaves in 'into' and 'old' -/
def Into8 (base : Nat) (W8 : World) (into old : Value) (wc : World) : Prop :=
  Below base W8 wc ∧ ((old = .pointer none ∧ (into = .nilIface ∨ ∃ p, into = .iface 70 p ∨ into = .iface 77 p)) ∨
    ∃ C aN aB aM nN cN nB cB nM cM pm, old = .pointer (some ⟨C, 0, none⟩) ∧ into = .iface 61 (.pointer (some ⟨C, 0, none⟩)) ∧ wc.heap[C]? = some (layerB aN aB aM nN cN nB cB nM cM pm .nilFunc none) ∧ base ≤ C ∧
      wc.ownsRow base 40 1 (.slice aN 0 cN) 0 [] ∧ wc.ownsRow base 21 1 (.slice aM 0 cM) 0 [] ∧ (ob aN = none ∨ ob aN ≠ ob aM) ∧ some C ≠ ob aN ∧ some C ≠ ob aM)

theorem alloc4 (W : World) (o1 o2 o3 o4 o5 : Obj) (i : Nat) (o : Obj) (h : [o1, o2, o3, o4, o5][i]? = some o) : (((((W.alloc o1).alloc o2).alloc o3).alloc o4).alloc o5).heap[W.heap.size + i]? = some o := by
  show (((((W.heap.push o1).push o2).push o3).push o4).push o5)[W.heap.size + i]? = _
  simp only [Array.getElem?_push, Array.size_push]
  match i, h with
  | 0, h => simp at h; subst h; rw [if_neg (by omega), if_neg (by omega), if_neg (by omega), if_neg (by omega), if_pos (by omega)]
  | 1, h => simp at h; subst h; rw [if_neg (by omega), if_neg (by omega), if_neg (by omega), if_pos (by omega)]
  | 2, h => simp at h; subst h; rw [if_neg (by omega), if_neg (by omega), if_pos (by omega)]
  | 3, h => simp at h; subst h; rw [if_neg (by omega), if_pos (by omega)]
  | 4, h => simp at h; subst h; rw [if_pos (by omega)]

theorem into5 {W8 : World} {s : Nat} (hs : W8.heap.size = s) {o1 o2 o3 o4 : Obj} {gN gM C : Nat} {curN curM : Array Value} (iN iM : Nat) {aB pm : Option Addr} {nN cN nB cB nM cM : Nat} (eN : gN = s + iN) (eM : gM = s + iM) (eC : C = s + 4)
    (hN : [o1, o2, o3, o4][iN]? = some (.cells curN 40 (0, 0))) (hM : [o1, o2, o3, o4][iM]? = some (.cells curM 21 (0, 0))) (sN : curN.size = cN) (sM : curM.size = cM) (b : cN ≤ maxLen ∧ cM ≤ maxLen) :
    Into8 s W8 (.iface 61 (.pointer (some ⟨C, 0, none⟩))) (.pointer (some ⟨C, 0, none⟩)) (((((W8.alloc o1).alloc o2).alloc o3).alloc o4).alloc (layerB (some ⟨gN, 0, none⟩) aB (some ⟨gM, 0, none⟩) nN cN nB cB nM cM pm .nilFunc none)).drew := by
  have lN : iN < 4 := by have := (List.getElem?_eq_some_iff.1 hN).1; simpa using this
  have lM : iM < 4 := by have := (List.getElem?_eq_some_iff.1 hM).1; simpa using this
  have hne : iN ≠ iM := by
    intro e; subst e; rw [hN] at hM; simp at hM
  have k : ∀ (i : Nat) (o : Obj), [o1, o2, o3, o4][i]? = some o → [o1, o2, o3, o4, layerB (some ⟨gN, 0, none⟩) aB (some ⟨gM, 0, none⟩) nN cN nB cB nM cM pm .nilFunc none][i]? = some o := by
    intro i o h
    match i, h with
    | 0, h => exact h
    | 1, h => exact h
    | 2, h => exact h
    | 3, h => exact h
    | n + 4, h => simp at h
  refine ⟨?_, Or.inr ⟨C, some ⟨gN, 0, none⟩, aB, some ⟨gM, 0, none⟩, nN, cN, nB, cB, nM, cM, pm, rfl, rfl, ?_, by omega, ?_, ?_, ?_, ?_, ?_⟩⟩
  · subst hs
    exact ((((((Below.refl _ _).alloc (Nat.le_refl _) _).alloc (by simp) _).alloc (by simp; omega) _).alloc (by simp; omega) _).alloc (by simp; omega) _).drew
  · subst hs eC; exact alloc4 W8 _ _ _ _ _ 4 _ rfl
  · subst hs eN; exact own0 (alloc4 W8 _ _ _ _ _ iN _ (k _ _ hN)) (by omega) sN b.1
  · subst hs eM; exact own0 (alloc4 W8 _ _ _ _ _ iM _ (k _ _ hM)) (by omega) sM b.2
  · right; simp only [ob, ne_eq, Option.some.injEq]; omega
  · simp only [ob, ne_eq, Option.some.injEq]; omega
  · simp only [ob, ne_eq, Option.some.injEq]; omega

def xsN (h n : Nat) (zs : List Int) : List Value := (List.range n).map fun j => .pointer (po h (zs.getD j 0))
theorem xsN_at {h n : Nat} {zs : List Int} {j : Nat} (hj : j < n) : (xsN h n zs)[j]? = some (.pointer (po h (zs.getD j 0))) := by simp [xsN, hj]

/-- the world behind clone -/
structure F9 (n m cap1 : Nat) (a1 : Option Addr) (zs : List Int) (xsM : List Value) (w : World) (C : Nat) (old : Value) (aB : Option Addr) (cB : Nat) (aN' : Option Addr) (cN' : Nat) (aM' : Option Addr) (cM' : Nat) (w' : World) : Prop where
  cC : w.heap.size + 8 ≤ C
  isOld : old = .pointer none ∨ old = .pointer (some ⟨C, 0, none⟩)
  bel : Below w.heap.size w w'
  lay : w'.heap[w.heap.size + 7]? = some (layerB (some ⟨w.heap.size + 3, 0, none⟩) (some ⟨w.heap.size + 6, 0, none⟩) a1 n n (n % 3) (n % 3) m cap1 (some ⟨w.heap.size + 4, 0, none⟩) (.func (.func 9) #[] #[]) (some ⟨w.heap.size + 5, 0, none⟩))
  pool : w'.heap[w.heap.size + 2]? = some (.cells (poolA w.heap.size) 45 (0, 0))
  nodes : ∃ cur, w'.heap[w.heap.size + 3]? = some (.cells cur 40 (0, 0)) ∧ cur.size = n ∧ ∀ j, j < n → cur[j]? = some (.pointer (po w.heap.size (zs.getD j 0)))
  layC : w'.heap[C]? = some (layerB aN' aB aM' n cN' 0 cB m cM' (some ⟨w.heap.size + 4, 0, none⟩) (.func (.func 9) #[] #[]) (some ⟨w.heap.size + 5, 0, none⟩))
  rowN : 0 < n → ∃ g, aN' = some ⟨g, 0, none⟩ ∧ w.heap.size + 8 ≤ g ∧ (∃ cur, w'.heap[g]? = some (.cells cur 40 (0, 0)) ∧ cur.size ≠ 0) ∧ ∀ j, j < n → w'.cell? ⟨g, j, none⟩ = some (.pointer (po w.heap.size (zs.getD j 0)))
  rowM : 0 < m → ∃ g, aM' = some ⟨g, 0, none⟩ ∧ w.heap.size + 8 ≤ g ∧ (∃ cur, w'.heap[g]? = some (.cells cur 21 (0, 0)) ∧ cur.size ≠ 0) ∧ ∀ j v, xsM[j]? = some v → w'.cell? ⟨g, j, none⟩ = some v

theorem own_cells {w : World} {base e n c : Nat} {a : Option Addr} {xs : List Value} (h : w.ownsRow base e 1 (.slice a n c) n xs) (hn : 0 < n) : ∃ g, a = some ⟨g, 0, none⟩ ∧ base ≤ g ∧ (∃ cur, w.heap[g]? = some (.cells cur e (0, 0)) ∧ cur.size ≠ 0) ∧ ∀ j v, xs[j]? = some v → w.cell? ⟨g, j, none⟩ = some v := by
  rcases h.2 with ⟨_, h0⟩ | ⟨g, cap, cur, hv, hb, hg, hle, _, hsz, ht⟩
  · omega
  · simp at hv
    refine ⟨g, hv.1, hb, ⟨cur, hg, by omega⟩, fun j v hj => ?_⟩
    rw [cell_of_row w g j cur e (0, 0) hg]
    rw [← ht, List.getElem?_take] at hj
    split at hj
    · simpa using hj
    · cases hj

theorem F9.of {n m cap1 : Nat} {a1 : Option Addr} {zs : List Int} {xsM : List Value} {w W8 wc w' : World} {C : Nat} {old : Value} {aB : Option Addr} {cB : Nat} {aN' : Option Addr} {cN' : Nat} {aM' : Option Addr} {cM' : Nat}
    (hF : F8 n m cap1 a1 zs w W8) (hb : Below (w.heap.size + 8) W8 wc) (hC : w.heap.size + 8 ≤ C) (hold : old = .pointer none ∨ old = .pointer (some ⟨C, 0, none⟩))
    (h : Cloned (w.heap.size + 8) C aB cB n m (some ⟨w.heap.size + 4, 0, none⟩) (some ⟨w.heap.size + 5, 0, none⟩) (xsN w.heap.size n zs) xsM wc aN' cN' aM' cM' w') :
    F9 n m cap1 a1 zs xsM w C old aB cB aN' cN' aM' cM' w' := by
  obtain ⟨h1, h2, h3, h4⟩ := h
  have hbb := hb.trans h4
  obtain ⟨cur, c1, c2, c3⟩ := hF.nodes
  refine ⟨hC, hold, hF.bel.trans (hbb.mono (by omega)), ?_, ?_, ⟨cur, ?_, c2, c3⟩, h1, fun hn => ?_, fun hm => own_cells h3 hm⟩
  · rw [hbb.block _ (by omega)]; exact hF.lay
  · rw [hbb.block _ (by omega)]; exact hF.pool
  · rw [hbb.block _ (by omega)]; exact c1
  · obtain ⟨g, e1, e2, e4, e3⟩ := own_cells h2 hn
    exact ⟨g, e1, e2, e4, fun j hj => e3 j _ (xsN_at hj)⟩

theorem clone_into {n m cap1 : Nat} {a1 : Option Addr} {zs : List Int} {xsM : List Value} {w W8 wc : World} {into old : Value} (hF : F8 n m cap1 a1 zs w W8) (hI : Into8 (w.heap.size + 8) W8 into old wc) (hn : n ≤ 1024) (hm : m ≤ 1024)
    (hsM : Src w a1 m cap1 xsM) (hbM : ∀ ad : Addr, a1 = some ad → 0 < m → ad.block < w.heap.size) :
    Calls Yba.prog 10 #[.pointer (some ⟨w.heap.size + 7, 0, none⟩), into] wc fun e w' => ∃ C aB cB aN' cN' aM' cM', e = .returned (.iface 61 (.pointer (some ⟨C, 0, none⟩))) ∧ F9 n m cap1 a1 zs xsM w C old aB cB aN' cN' aM' cM' w' := by
  obtain ⟨hb, hI⟩ := hI
  have hz : w.heap.size + 8 ≤ wc.heap.size := by have := hb.size; rw [hF.size] at this; exact this
  -- whatever world lies above W8
  have key : ∀ (wC : World), Below (w.heap.size + 8) wc wC → ∀ (C : Nat) (aN aB aM : Option Addr) (nN cN nB cB nM cM : Nat) (pm : Option Addr),
      Calls Yba.prog 13 #[into] wc (fun e w' => e = .returned (.pointer (some ⟨C, 0, none⟩)) ∧ wC = w') → wC.heap[C]? = some (layerB aN aB aM nN cN nB cB nM cM pm .nilFunc none) → some C ≠ ob aN → some C ≠ ob aM → w.heap.size + 8 ≤ C →
      wC.ownsRow (w.heap.size + 8) 40 1 (.slice aN 0 cN) 0 [] → wC.ownsRow (w.heap.size + 8) 21 1 (.slice aM 0 cM) 0 [] → (ob aN = none ∨ ob aN ≠ ob aM) → (old = .pointer none ∨ old = .pointer (some ⟨C, 0, none⟩)) →
      Calls Yba.prog 10 #[.pointer (some ⟨w.heap.size + 7, 0, none⟩), into] wc fun e w' => ∃ C aB cB aN' cN' aM' cM', e = .returned (.iface 61 (.pointer (some ⟨C, 0, none⟩))) ∧ F9 n m cap1 a1 zs xsM w C old aB cB aN' cN' aM' cM' w' := by
    intro wC hbC C aN aB aM nN cN nB cB nM cM pm hre hC hCN hCM hCb hN hM hNM hold
    have hbb : Below (w.heap.size + 8) W8 wC := hb.trans hbC
    have hl : wC.heap[w.heap.size + 7]? = _ := (hbb.block _ (by omega)).trans hF.lay
    obtain ⟨l0, _, l2, l3, l4, l5, _⟩ := cells_of_layer hl
    obtain ⟨cur, c1, c2, c3⟩ := hF.nodes
    have hcur : wC.heap[w.heap.size + 3]? = some (.cells cur 40 (0, 0)) := (hbb.block _ (by omega)).trans c1
    refine (clone_core into C (w.heap.size + 7) (w.heap.size + 8) aN aB aM nN cN nB cB nM cM pm (some ⟨w.heap.size + 3, 0, none⟩) a1 n n m cap1 (some ⟨w.heap.size + 4, 0, none⟩) (some ⟨w.heap.size + 5, 0, none⟩) (xsN w.heap.size n zs) xsM wc wC hre hC hCN hCM hCb hbC l0 l2 l3 l4 l5 hN hM hNM (by omega) (by have := hbC.size; omega) ?_ ?_ ?_ ?_ hn hm).mono ?_
    · refine ⟨by simp [xsN], fun u hu => ?_, .inr ⟨_, rfl, fun j u hj => ?_⟩⟩
      · obtain ⟨j, _, rfl⟩ := List.mem_map.1 hu; rfl
      · have hjn : j < n := by have := (List.getElem?_eq_some_iff.1 hj).1; simpa [xsN] using this
        rw [xsN_at hjn] at hj
        rw [Addr.add_lit, Nat.zero_add, cell_of_row wC _ _ _ _ _ hcur, c3 j hjn]; exact hj
    · exact hsM.far (fun ad had hp => by
        have h1 := hbM ad had hp
        rw [hbb.block _ (by omega), hF.bel.block _ h1])
    · intro ad had _; cases had; show w.heap.size + 3 < w.heap.size + 8; omega
    · intro ad had hp; have := hbM ad had hp; omega
    · rintro e w' ⟨he, aN', cN', aM', cM', hcl⟩
      exact ⟨C, aB, cB, aN', cN', aM', cM', he, F9.of hF hb hCb hold hcl⟩
  have fresh : ∀ p : Calls Yba.prog 13 #[into] wc (fun e w' => e = .returned (.pointer (some ⟨wc.heap.size, 0, none⟩)) ∧ wc.alloc (layerB none none none 0 0 0 0 0 0 none .nilFunc none) = w'), old = .pointer none →
      Calls Yba.prog 10 #[.pointer (some ⟨w.heap.size + 7, 0, none⟩), into] wc fun e w' => ∃ C aB cB aN' cN' aM' cM', e = .returned (.iface 61 (.pointer (some ⟨C, 0, none⟩))) ∧ F9 n m cap1 a1 zs xsM w C old aB cB aN' cN' aM' cM' w' := by
    intro hre ho
    exact key _ ((Below.refl _ _).alloc hz _) wc.heap.size none none none 0 0 0 0 0 0 none hre (heap_alloc_new wc _) (by simp [ob]) (by simp [ob]) hz (World.ownsRow_nil _ _ _ _) (World.ownsRow_nil _ _ _ _) (.inl rfl) (.inl ho)
  rcases hI with ⟨ho, rfl | ⟨p, rfl | rfl⟩⟩ | ⟨C, aN, aB, aM, nN, cN, nB, cB, nM, cM, pm, ho, rfl, hC, hCb, hN, hM, hNM, h1, h2⟩
  · exact fresh (reuse_nil wc) ho
  · exact fresh (reuse_set p wc) ho
  · exact fresh (reuse_other p wc) ho
  · exact key wc (Below.refl _ _) C aN aB aM nN cN nB cB nM cM pm (reuse_old C wc) hC h1 h2 hCb hN hM hNM (.inr ho)

/-- what the walk is told of the arguments -/
structure Inp (bb oo : Nat) (a0 : Option Addr) (n : Nat) (zs : List Int) (a1 : Option Addr) (m cap1 : Nat) (xsM : List Value) (w : World) : Prop where
  hn : n ≤ 1024
  hm : m ≤ 1024
  ha0 : 0 < n → a0 = some ⟨bb, oo, none⟩
  hc0 : ∀ k, k < n → w.cell? ⟨bb, oo + k, none⟩ = some (.int .u8 (zs.getD k 0))
  hz0 : ∀ k, 0 ≤ zs.getD k 0 ∧ zs.getD k 0 ≤ 255
  hsM : Src w a1 m cap1 xsM
  hbM : ∀ ad : Addr, a1 = some ad → 0 < m → ad.block < w.heap.size
  hint : ∀ v ∈ xsM, ∃ x, v = .int .i32 x

theorem Inp.numsAt {bb oo : Nat} {a0 : Option Addr} {n : Nat} {zs : List Int} {a1 : Option Addr} {m cap1 : Nat} {xsM : List Value} {w : World} (h : Inp bb oo a0 n zs a1 m cap1 xsM w) (hm : 0 < m) :
    ∃ ad, a1 = some ad ∧ ad.block < w.heap.size ∧ ∃ cb tb fr, w.heap[ad.block]? = some (.cells cb tb fr) ∧ cb.size ≠ 0 := by
  obtain ⟨h1, _, h3⟩ := h.hsM
  rcases h3 with ⟨_, h0, _⟩ | ⟨ad, rfl, hc⟩
  · omega
  · have hx : xsM[0]? = some (xsM[0]'(by omega)) := by simp [h1, hm]
    have hcell := hc 0 _ hx
    have e0 : ad.add 0 = ad := by simp [Addr.add]
    rw [e0] at hcell
    refine ⟨ad, rfl, h.hbM ad rfl hm, ?_⟩
    have hsp := World.cell?_spot hcell
    unfold World.cell? at hcell
    cases hb : w.heap[ad.block]? with
    | none => simp [hb] at hcell
    | some o =>
      cases o with
      | cells cb tb fr =>
        refine ⟨cb, tb, fr, rfl, ?_⟩
        intro e
        have : cb = #[] := Array.eq_empty_of_size_eq_zero e
        subst this
        simp [hb] at hcell
      | _ => simp [hb] at hcell

theorem Below.of_drewN {w w' : World} {n : Nat} (h : Below (w.drewN n).heap.size (w.drewN n) w') : Below w.heap.size w w' := ⟨h.os, h.tape, h.output, h.size, h.block⟩

/-- what later rounds read: a pick, the pool, l's nodes, in whatever later world -/
theorem F9.later {bb oo : Nat} {a0 : Option Addr} {n m cap1 : Nat} {a1 : Option Addr} {zs : List Int} {xsM : List Value} {w : World} {C : Nat} {old : Value} {aB : Option Addr} {cB : Nat} {aN' : Option Addr} {cN' : Nat} {aM' : Option Addr} {cM' : Nat} {w9 wr : World}
    (hI : Inp bb oo a0 n zs a1 m cap1 xsM w) (hF : F9 n m cap1 a1 zs xsM w C old aB cB aN' cN' aM' cM' w9) (hb : Below w9.heap.size w9 wr) :
    wr.heap[w.heap.size + 7]? = some (layerB (some ⟨w.heap.size + 3, 0, none⟩) (some ⟨w.heap.size + 6, 0, none⟩) a1 n n (n % 3) (n % 3) m cap1 (some ⟨w.heap.size + 4, 0, none⟩) (.func (.func 9) #[] #[]) (some ⟨w.heap.size + 5, 0, none⟩)) ∧
    (∀ k, k < n → wr.cell? ⟨bb, oo + k, none⟩ = some (.int .u8 (zs.getD k 0)) ∧ wr.cell? ⟨w.heap.size + 3, k, none⟩ = some (.pointer (po w.heap.size (zs.getD k 0)))) ∧ ∀ z : Int, wr.cell? ⟨w.heap.size + 2, (z % 3).toNat, none⟩ = some (.pointer (po w.heap.size z)) := by
  have lt7 : w.heap.size + 7 < w9.heap.size := (Array.getElem?_eq_some_iff.1 hF.lay).1
  refine ⟨(hb.block _ lt7).trans hF.lay, fun k hk => ⟨?_, ?_⟩, fun z => ?_⟩
  · have h1 := hI.hc0 k hk
    have h2 := World.block_lt_of_cell? w _ h1
    have h3 : bb < w.heap.size := h2
    rw [hb.cell (p := ⟨bb, oo + k, none⟩) (by show bb < _; omega), hF.bel.cell (p := ⟨bb, oo + k, none⟩) h3]; exact h1
  · obtain ⟨cur, c1, _, c3⟩ := hF.nodes
    rw [cell_of_row wr _ k cur 40 (0, 0) ((hb.block _ (by omega)).trans c1)]; exact c3 k hk
  · rw [cell_of_row wr _ _ _ _ _ ((hb.block _ (by omega)).trans hF.pool)]; exact pool_cell _ _

theorem Inp.numsCell {bb oo : Nat} {a0 : Option Addr} {n : Nat} {zs : List Int} {a1 : Option Addr} {m cap1 : Nat} {xsM : List Value} {w : World} (h : Inp bb oo a0 n zs a1 m cap1 xsM w) (hm : 0 < m) :
    ∃ nb no, a1 = some ⟨nb, no, none⟩ ∧ nb < w.heap.size ∧ ∀ k, k < m → ∃ x, xsM[k]? = some (.int .i32 x) ∧ w.cell? ⟨nb, no + k, none⟩ = some (.int .i32 x) := by
  obtain ⟨h1, _, h3⟩ := h.hsM
  rcases h3 with ⟨_, h0, _⟩ | ⟨ad, rfl, hc⟩
  · omega
  · have hx : xsM[0]? = some (xsM[0]'(by omega)) := by simp [h1, hm]
    have hcell := hc 0 _ hx
    obtain ⟨nb, no, spot⟩ := ad
    have hspot : spot = none := by simpa [Addr.add] using World.cell?_spot hcell
    subst hspot
    refine ⟨nb, no, rfl, h.hbM _ rfl hm, fun k hk => ?_⟩
    have hxk : xsM[k]? = some (xsM[k]'(by omega)) := by simp [h1, hk]
    obtain ⟨x, ex⟩ := h.hint (xsM[k]'(by omega)) (List.getElem_mem _)
    rw [ex] at hxk
    refine ⟨x, hxk, ?_⟩
    have := hc k _ hxk
    rwa [Addr.add_lit] at this

/-- the first statement's region -/
def headOf : Code → Option Nat
  | .region id _ _ => some id
  | .seq a _ => headOf a
  | .block _ c => headOf c
  | _ => none
/-- the code from the statement on whose first region is r -/
def tailAt (r : Nat) : Code → Option Code
  | .seq a b => if headOf a = some r then some (.seq a b) else tailAt r b
  | _ => none

theorem Yba.size44 : (Yba.prog.info? 44).map (·.size) = some 4 := by kernel_rfl
theorem Yba.size67 : (Yba.prog.info? 67).map (·.size) = some 6 := by kernel_rfl
theorem Yba.size53 : (Yba.prog.info? 53).map (·.size) = some 8 := by kernel_rfl
theorem Yba.size60 : (Yba.prog.info? 60).map (·.size) = some 6 := by kernel_rfl
theorem Yba.size40 : (Yba.prog.info? 40).map (·.size) = some 1 := by kernel_rfl
theorem Yba.size21 : (Yba.prog.info? 21).map (·.size) = some 1 := by kernel_rfl
theorem size_part {P : Program} {e s : Nat} (h : (P.info? e).map (·.size) = some s) : ∃ i, P.info? e = some i ∧ i.size = s := by
  obtain ⟨i, hi, hz⟩ := Option.map_eq_some_iff.1 h
  exact ⟨i, hi, hz⟩

end Go.Proofs.Ybulkaeu
