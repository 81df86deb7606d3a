/-
  Seat b0065aF: Unpack (31) at the five wires, whole or cut; name (18).
-/
import Derived.Test.YbulkaiaFmtUnpack
namespace Go.Proofs.YbulkaiaFmt
open Go.RowKit

/-- the wire's block -/
def WireAt (w : World) (g r : Nat) : Prop := w.heap[g]? = some (.cells (bytesA (Pl.nm r)) 5 (0, 0))
def lenOf (r : Nat) (bad : Bool) : Nat := (Pl.nm r).length - bad.toNat
def idOf (r : Nat) (bad : Bool) : Nat := if bad then 5 else r

theorem unpack_any (r : Nat) (hr : r < 5) (bad : Bool) (g : Nat) (w : World) (v1 : Value) (hg : WireAt w g r) (hv : w.cell? ⟨1, 0, none⟩ = some v1) :
    Calls Ybaf.prog 33 #[.slice (some ⟨g, 0, none⟩) (lenOf r bad) (Pl.nm r).length, .int .i64 0, .bool false] w fun e w' => ∃ i v, e = .returned (.tuple #[.agg #[nmS (idOf r bad)], .int .i64 i, v]) ∧ Below w.heap.size w w' := by
  have hl : g < w.heap.size := (Array.getElem?_eq_some_iff.1 hg).1
  have h1 : 1 < w.heap.size := World.block_lt_of_cell? w _ hv
  have hc : ∀ j, w.cell? ⟨g, j, none⟩ = (bytesA (Pl.nm r))[j]? := fun j => cell_of_row w g j _ _ _ hg
  match r, hr, bad with
  | 0, _, false => exact unpack_0 g w (hc 0) (hc 1) (hc 2) hl
  | 1, _, false => exact unpack_1 g w (hc 0) (hc 1) (hc 2) hl
  | 2, _, false => exact unpack_2 g w (hc 0) (hc 1) (hc 2) hl
  | 3, _, false => exact unpack_3 g w (hc 0) (hc 1) (hc 2) (hc 3) hl
  | 4, _, false => exact unpack_4 g w (hc 0) hl
  | 0, _, true => exact unpack_cut0 g w v1 (hc 0) (hc 1) hl h1 hv
  | 1, _, true => exact unpack_cut1 g w v1 (hc 0) (hc 1) hl h1 hv
  | 2, _, true => exact unpack_cut2 g w v1 (hc 0) (hc 1) hl h1 hv
  | 3, _, true => exact unpack_cut3 g w v1 (hc 0) (hc 1) (hc 2) hl h1 hv
  | 4, _, true => exact unpack_cut4 g w v1 hl h1 hv

theorem below_set {w w1 : World} {o : Obj} {v : Value} (h : Below (w.alloc o).heap.size (w.alloc o) w1) : Below w.heap.size w (w1.setCell ⟨w.heap.size, 0, none⟩ v) :=
  (((Below.refl _ _).alloc (Nat.le_refl _) o).trans (h.mono (by simp))).setCell (Nat.le_refl _) _

set_option maxRecDepth 100000 in
theorem Unpack_any (r : Nat) (hr : r < 5) (bad : Bool) (g : Nat) (w : World) (v1 : Value) (hg : WireAt w g r) (hv : w.cell? ⟨1, 0, none⟩ = some v1) :
    Calls Ybaf.prog 31 #[.slice (some ⟨g, 0, none⟩) (lenOf r bad) (Pl.nm r).length] w fun e w' => ∃ i v, e = .returned (.tuple #[.agg #[nmS (idOf r bad)], .int .i64 i, v]) ∧ Below w.heap.size w w' := by
  have hl : g < w.heap.size := (Array.getElem?_eq_some_iff.1 hg).1
  have h1 : 1 < w.heap.size := World.block_lt_of_cell? w _ hv
  have hu := fun o => unpack_any r hr bad g (w.alloc o) v1 ((Below.heap_alloc _ _ _ hl).trans hg) (by rw [World.cell?_alloc_past _ _ _ h1]; exact hv)
  have HU := hidI hu
  clear hu hg hv
  generalize idOf r bad = j at HU ⊢
  go_enter Ybaf.func31, Ybaf.ntmps31
  go_wp2_with (go_at_call 33; refine (HU.out _).mono ?_; rintro e w1 ⟨i, v, rfl, hb⟩; have hc0 : w1.cell? ⟨w.heap.size, 0, none⟩ = some (.string ⟨#[]⟩) := (by rw [hb.cell (p := ⟨w.heap.size, 0, none⟩) (by simp)]; simp); have hf0 : w1.frozen? ⟨w.heap.size, 0, none⟩ = false := (by rw [hb.frozen (p := ⟨w.heap.size, 0, none⟩) (by simp)]; simp); have HB := hidI hb; have hz : w.heap.size < w1.heap.size := (by have := hb.size; simp at this; omega); clear hb)
  exact bodyPost_ret (v := .tuple #[.agg #[nmS j], .int .i64 i, v]) (by simp [results, Ybaf.results31, go_sem, hc0]) rfl ⟨_, _, rfl, below_set HB.out⟩

theorem below_set2 {w w1 : World} {o o2 o3 : Obj} {v : Value} (h : Below ((w.alloc o).alloc o2).heap.size ((w.alloc o).alloc o2) w1) : Below w.heap.size w ((w1.setCell ⟨w.heap.size, 0, none⟩ v).alloc o3) :=
  have h1 := h.size
  have h2 : w.heap.size ≤ w1.heap.size := by simp at h1; omega
  (((((Below.refl _ _).alloc (Nat.le_refl _) o).alloc (by simp) o2).trans (h.mono (by simp; omega))).setCell (Nat.le_refl _) _).alloc (by rw [World.size_setCell]; exact h2) o3

theorem cell_late {w : World} {b : Nat} {v v' : Value} {o : Obj} (hb : b < w.heap.size) (h : w.cell? ⟨b, 0, none⟩ = some v') : ((w.setCell ⟨b, 0, none⟩ v).alloc o).cell? ⟨b, 0, none⟩ = some v := by
  rw [World.cell?_alloc_past _ _ _ (by rw [World.size_setCell]; exact hb)]; exact World.cell?_setCell_same _ _ _ h

set_option maxRecDepth 100000 in
theorem name_any (k : Int) (r : Nat) (h0 : 0 ≤ k) (h1 : k ≤ 255) (hr : k % 5 = (r : Int)) (w : World) (v1 : Value) (hv : w.cell? ⟨1, 0, none⟩ = some v1) :
    Calls Ybaf.prog 18 #[.int .i64 k] w fun e w' => e = .returned (.agg #[nmS r]) ∧ Below w.heap.size w w' := by
  have h1s : 1 < w.heap.size := World.block_lt_of_cell? w _ hv
  have hr5 : r < 5 := by omega
  have hu := fun o => Unpack_any r hr5 false (w.heap.size + 1) ((w.alloc o).alloc (.cells (bytesA (Pl.nm r)) 5)) v1 (by
      have := heap_alloc_new (w.alloc o) (.cells (bytesA (Pl.nm r)) 5)
      rwa [show (w.alloc o).heap.size = w.heap.size + 1 by simp] at this) (by rw [World.cell?_alloc_past _ _ _ (by simp; omega), World.cell?_alloc_past _ _ _ h1s]; exact hv)
  rw [show lenOf r false = (Pl.nm r).length from rfl, show idOf r false = r from rfl] at hu
  have HU := hidI hu
  have HR := hidI hr
  clear hu hv hr
  go_enter Ybaf.func18, Ybaf.ntmps18
  go_wp2_with (go_at_call 27; refine (wire_any k r h0 h1 HR.out _).mono ?_; rintro e w1 ⟨rfl, rfl⟩)
  refine (HU.out _).mono ?_
  rintro e w1 ⟨i, v, rfl, hb⟩
  have hlt : ∀ o o2, w.heap.size < ((w.alloc o).alloc o2).heap.size := fun o o2 => by rw [World.size_alloc, World.size_alloc]; omega
  have hc0 : w1.cell? ⟨w.heap.size, 0, none⟩ = some (.string ⟨#[]⟩) := by rw [hb.cell (p := ⟨w.heap.size, 0, none⟩) (hlt _ _)]; simp
  have hf0 : w1.frozen? ⟨w.heap.size, 0, none⟩ = false := by rw [hb.frozen (p := ⟨w.heap.size, 0, none⟩) (hlt _ _)]; simp
  have HB := hidI hb
  have hz : w.heap.size < w1.heap.size := Nat.lt_of_lt_of_le (hlt _ _) hb.size
  clear hb
  have hca : ∀ o, (w1.alloc o).cell? ⟨w.heap.size, 0, none⟩ = some (.string ⟨#[]⟩) := fun o => by rw [World.cell?_alloc_past _ _ _ hz]; exact hc0
  have hfa : ∀ c t, (w1.alloc (.cells c t)).frozen? ⟨w.heap.size, 0, none⟩ = false := fun c t => by rw [frozen?_alloc_cells]; exact hf0
  have hne : w1.heap.size ≠ w.heap.size := by omega
  have hne2 : w.heap.size ≠ w1.heap.size := by omega
  go_wp2
  exact bodyPost_ret (v := .agg #[nmS r]) (by simp [results, Ybaf.results18, go_sem, cell_late hz hc0]) rfl ⟨rfl, below_set2 HB.out⟩

end Go.Proofs.YbulkaiaFmt
