/-
  Seat b0065aF: Lower (37) at the six names.
-/
import Derived.Test.YbulkaiaFmtName
import Derived.Laws.RangeString
import Derived.Laws.StructEq
import Derived.Below
set_option linter.unusedSimpArgs false
set_option linter.unusedVariables false
namespace Go.Proofs.YbulkaiaFmt
open Go.RowKit

/-- the lower form -/
def Pl.lw : Nat → List UInt8
  | 0 => [1, 97, 0]
  | 1 => [1, 97, 0]
  | 2 => [1, 98, 0]
  | 3 => [2, 99, 99, 0]
  | 4 => [0]
  | _ => []
abbrev lwS (j : Nat) : Value := .string ⟨(Pl.lw j).toArray⟩

theorem upper_any (c : Int) (w : World) :
    Calls Ybaf.prog 44 #[.int .i32 c] w fun e w' => e = .returned (.bool (decide (65 ≤ c) && decide (c ≤ 90))) ∧ w' = w := by
  go_enter Ybaf.func44, Ybaf.ntmps44
  by_cases h1 : 65 ≤ c <;> by_cases h2 : c ≤ 90
  all_goals
    simp only [h1, h2]
    go_wp2
    go_ret
    exact ⟨rfl, rfl⟩

theorem below_iter {w w' : World} {s : ByteArray} {i : Nat} (h : w' = w.iter s i) : Below w.heap.size w w' := by
  subst h; exact (Below.refl _ _).alloc (Nat.le_refl _) _
theorem below_set1 {w w1 : World} {o o2 : Obj} {v : Value} (h : Below ((w.alloc o).alloc o2).heap.size ((w.alloc o).alloc o2) w1) : Below w.heap.size w (w1.setCell ⟨w.heap.size + 1, 0, none⟩ v) :=
  ((((Below.refl _ _).alloc (Nat.le_refl _) o).alloc (by simp) o2).trans (h.mono (by simp; omega))).setCell (Nat.le_succ _) _

set_option maxRecDepth 100000 in
theorem index_0 (w : World) :
    Calls Ybaf.prog 53 #[nmS 0, .func (.func 44) #[] #[], .bool true] w fun e w' => e = .returned (.int .i64 (-1)) ∧ ∃ i, w' = w.iter ⟨(Pl.nm 0).toArray⟩ i := by
  have n0 := fun ty => run_next_ascii (P := Ybaf.prog) w ⟨(Pl.nm 0).toArray⟩ 0 ty (by decide) (by decide)
  have n1 := fun ty => run_next_ascii (P := Ybaf.prog) w ⟨(Pl.nm 0).toArray⟩ 1 ty (by decide) (by decide)
  have n2 := fun ty => run_next_ascii (P := Ybaf.prog) w ⟨(Pl.nm 0).toArray⟩ 2 ty (by decide) (by decide)
  have ne := fun ty => run_next_end (P := Ybaf.prog) w ⟨(Pl.nm 0).toArray⟩ 3 ty (by decide)
  go_enter Ybaf.func53, Ybaf.ntmps53
  go_wp2
  refine wp_loop_rounds 8 ?_
  rw [rounds_succ]
  go_wp2_with (go_at_call 44; refine (upper_any _ _).mono ?_; rintro e w1 ⟨rfl, rfl⟩)
  rw [rounds_succ]
  go_wp2_with (go_at_call 44; refine (upper_any _ _).mono ?_; rintro e w1 ⟨rfl, rfl⟩)
  rw [rounds_succ]
  go_wp2_with (go_at_call 44; refine (upper_any _ _).mono ?_; rintro e w1 ⟨rfl, rfl⟩)
  rw [rounds_succ]
  go_wp2_with (go_at_call 44; refine (upper_any _ _).mono ?_; rintro e w1 ⟨rfl, rfl⟩)
  go_ret
  exact ⟨rfl, _, rfl⟩

set_option maxRecDepth 100000 in
theorem index_1 (w : World) :
    Calls Ybaf.prog 53 #[nmS 1, .func (.func 44) #[] #[], .bool true] w fun e w' => e = .returned (.int .i64 (1)) ∧ ∃ i, w' = w.iter ⟨(Pl.nm 1).toArray⟩ i := by
  have n0 := fun ty => run_next_ascii (P := Ybaf.prog) w ⟨(Pl.nm 1).toArray⟩ 0 ty (by decide) (by decide)
  have n1 := fun ty => run_next_ascii (P := Ybaf.prog) w ⟨(Pl.nm 1).toArray⟩ 1 ty (by decide) (by decide)
  go_enter Ybaf.func53, Ybaf.ntmps53
  go_wp2
  refine wp_loop_rounds 8 ?_
  rw [rounds_succ]
  go_wp2_with (go_at_call 44; refine (upper_any _ _).mono ?_; rintro e w1 ⟨rfl, rfl⟩)
  rw [rounds_succ]
  go_wp2_with (go_at_call 44; refine (upper_any _ _).mono ?_; rintro e w1 ⟨rfl, rfl⟩)
  go_ret
  exact ⟨rfl, _, rfl⟩

set_option maxRecDepth 100000 in
theorem index_2 (w : World) :
    Calls Ybaf.prog 53 #[nmS 2, .func (.func 44) #[] #[], .bool true] w fun e w' => e = .returned (.int .i64 (-1)) ∧ ∃ i, w' = w.iter ⟨(Pl.nm 2).toArray⟩ i := by
  have n0 := fun ty => run_next_ascii (P := Ybaf.prog) w ⟨(Pl.nm 2).toArray⟩ 0 ty (by decide) (by decide)
  have n1 := fun ty => run_next_ascii (P := Ybaf.prog) w ⟨(Pl.nm 2).toArray⟩ 1 ty (by decide) (by decide)
  have n2 := fun ty => run_next_ascii (P := Ybaf.prog) w ⟨(Pl.nm 2).toArray⟩ 2 ty (by decide) (by decide)
  have ne := fun ty => run_next_end (P := Ybaf.prog) w ⟨(Pl.nm 2).toArray⟩ 3 ty (by decide)
  go_enter Ybaf.func53, Ybaf.ntmps53
  go_wp2
  refine wp_loop_rounds 8 ?_
  rw [rounds_succ]
  go_wp2_with (go_at_call 44; refine (upper_any _ _).mono ?_; rintro e w1 ⟨rfl, rfl⟩)
  rw [rounds_succ]
  go_wp2_with (go_at_call 44; refine (upper_any _ _).mono ?_; rintro e w1 ⟨rfl, rfl⟩)
  rw [rounds_succ]
  go_wp2_with (go_at_call 44; refine (upper_any _ _).mono ?_; rintro e w1 ⟨rfl, rfl⟩)
  rw [rounds_succ]
  go_wp2_with (go_at_call 44; refine (upper_any _ _).mono ?_; rintro e w1 ⟨rfl, rfl⟩)
  go_ret
  exact ⟨rfl, _, rfl⟩

set_option maxRecDepth 100000 in
theorem index_3 (w : World) :
    Calls Ybaf.prog 53 #[nmS 3, .func (.func 44) #[] #[], .bool true] w fun e w' => e = .returned (.int .i64 (2)) ∧ ∃ i, w' = w.iter ⟨(Pl.nm 3).toArray⟩ i := by
  have n0 := fun ty => run_next_ascii (P := Ybaf.prog) w ⟨(Pl.nm 3).toArray⟩ 0 ty (by decide) (by decide)
  have n1 := fun ty => run_next_ascii (P := Ybaf.prog) w ⟨(Pl.nm 3).toArray⟩ 1 ty (by decide) (by decide)
  have n2 := fun ty => run_next_ascii (P := Ybaf.prog) w ⟨(Pl.nm 3).toArray⟩ 2 ty (by decide) (by decide)
  go_enter Ybaf.func53, Ybaf.ntmps53
  go_wp2
  refine wp_loop_rounds 8 ?_
  rw [rounds_succ]
  go_wp2_with (go_at_call 44; refine (upper_any _ _).mono ?_; rintro e w1 ⟨rfl, rfl⟩)
  rw [rounds_succ]
  go_wp2_with (go_at_call 44; refine (upper_any _ _).mono ?_; rintro e w1 ⟨rfl, rfl⟩)
  rw [rounds_succ]
  go_wp2_with (go_at_call 44; refine (upper_any _ _).mono ?_; rintro e w1 ⟨rfl, rfl⟩)
  go_ret
  exact ⟨rfl, _, rfl⟩

set_option maxRecDepth 100000 in
theorem index_4 (w : World) :
    Calls Ybaf.prog 53 #[nmS 4, .func (.func 44) #[] #[], .bool true] w fun e w' => e = .returned (.int .i64 (-1)) ∧ ∃ i, w' = w.iter ⟨(Pl.nm 4).toArray⟩ i := by
  have n0 := fun ty => run_next_ascii (P := Ybaf.prog) w ⟨(Pl.nm 4).toArray⟩ 0 ty (by decide) (by decide)
  have ne := fun ty => run_next_end (P := Ybaf.prog) w ⟨(Pl.nm 4).toArray⟩ 1 ty (by decide)
  go_enter Ybaf.func53, Ybaf.ntmps53
  go_wp2
  refine wp_loop_rounds 8 ?_
  rw [rounds_succ]
  go_wp2_with (go_at_call 44; refine (upper_any _ _).mono ?_; rintro e w1 ⟨rfl, rfl⟩)
  rw [rounds_succ]
  go_wp2_with (go_at_call 44; refine (upper_any _ _).mono ?_; rintro e w1 ⟨rfl, rfl⟩)
  go_ret
  exact ⟨rfl, _, rfl⟩

set_option maxRecDepth 100000 in
theorem index_5 (w : World) :
    Calls Ybaf.prog 53 #[nmS 5, .func (.func 44) #[] #[], .bool true] w fun e w' => e = .returned (.int .i64 (-1)) ∧ ∃ i, w' = w.iter ⟨(Pl.nm 5).toArray⟩ i := by
  have ne := fun ty => run_next_end (P := Ybaf.prog) w ⟨(Pl.nm 5).toArray⟩ 0 ty (by decide)
  go_enter Ybaf.func53, Ybaf.ntmps53
  go_wp2
  refine wp_loop_rounds 8 ?_
  rw [rounds_succ]
  go_wp2_with (go_at_call 44; refine (upper_any _ _).mono ?_; rintro e w1 ⟨rfl, rfl⟩)
  go_ret
  exact ⟨rfl, _, rfl⟩

def Pl.up (j : Nat) : Bool := j == 1 || j == 3
theorem Index_any (j : Nat) (hj : j < 6) (w : World) :
    Calls Ybaf.prog 53 #[nmS j, .func (.func 44) #[] #[], .bool true] w fun e w' => (∃ R, e = .returned (.int .i64 R) ∧ decide (0 ≤ R) = Pl.up j) ∧ Below w.heap.size w w' := by
  match j, hj with
  | 0, _ => exact (index_0 w).mono fun e w' h => ⟨⟨_, h.1, rfl⟩, below_iter h.2.choose_spec⟩
  | 1, _ => exact (index_1 w).mono fun e w' h => ⟨⟨_, h.1, rfl⟩, below_iter h.2.choose_spec⟩
  | 2, _ => exact (index_2 w).mono fun e w' h => ⟨⟨_, h.1, rfl⟩, below_iter h.2.choose_spec⟩
  | 3, _ => exact (index_3 w).mono fun e w' h => ⟨⟨_, h.1, rfl⟩, below_iter h.2.choose_spec⟩
  | 4, _ => exact (index_4 w).mono fun e w' h => ⟨⟨_, h.1, rfl⟩, below_iter h.2.choose_spec⟩
  | 5, _ => exact (index_5 w).mono fun e w' h => ⟨⟨_, h.1, rfl⟩, below_iter h.2.choose_spec⟩

theorem IndexFunc_any (j : Nat) (hj : j < 6) (w : World) :
    Calls Ybaf.prog 49 #[nmS j, .func (.func 44) #[] #[]] w fun e w' => (∃ R, e = .returned (.int .i64 R) ∧ decide (0 ≤ R) = Pl.up j) ∧ Below w.heap.size w w' := by
  go_enter Ybaf.func49, Ybaf.ntmps49
  go_wp2_with (go_at_call 53; refine (Index_any j hj _).mono ?_; rintro e w1 ⟨⟨R, rfl, hR⟩, hb⟩; have HB := hidI hb; have HR := hidI hR; clear hb hR)
  go_ret
  exact ⟨⟨_, rfl, HR.out⟩, HB.out⟩

theorem Contains_any (j : Nat) (hj : j < 6) (w : World) :
    Calls Ybaf.prog 43 #[nmS j, .func (.func 44) #[] #[]] w fun e w' => e = .returned (.bool (Pl.up j)) ∧ Below w.heap.size w w' := by
  go_enter Ybaf.func43, Ybaf.ntmps43
  go_wp2_with (go_at_call 49; refine (IndexFunc_any j hj _).mono ?_; rintro e w1 ⟨⟨R, rfl, hR⟩, hb⟩; have HB := hidI hb; have HR := hidI hR; clear hb hR)
  go_ret
  refine ⟨?_, HB.out⟩
  rw [← HR.out]
  rfl

theorem below_set3 {w w1 w2 : World} {o o2 : Obj} {u v : Value} {k : Nat} (h : Below ((w.alloc o).alloc o2).heap.size ((w.alloc o).alloc o2) w1) (h2 : Below w1.heap.size w1 w2) : Below w.heap.size w ((w2.setCell ⟨w1.heap.size, k, none⟩ u).setCell ⟨w.heap.size + 1, 0, none⟩ v) := by
  have h1 := h.size
  simp at h1
  exact ((((((Below.refl _ _).alloc (Nat.le_refl _) o).alloc (by simp) o2).trans (h.mono (by simp; omega))).trans (h2.mono (by omega))).setCell (p := ⟨w1.heap.size, k, none⟩) (show w.heap.size ≤ w1.heap.size by omega) _).setCell (Nat.le_succ _) _

theorem conv_fwd (l : List UInt8) (w1 : World) : ∃ C W2, (convert 9 22 (.string ⟨l.toArray⟩)).run Ybaf.prog w1 = .ok (.slice (some ⟨w1.heap.size, 0, none⟩) l.length C) W2 ∧ Below w1.heap.size w1 W2 ∧
    (∀ i (h : i < l.length), W2.cell? ⟨w1.heap.size, i, none⟩ = some (.int .u8 (l[i].toNat : Int))) ∧ (∀ i, i < l.length → W2.frozen? ⟨w1.heap.size, i, none⟩ = false) := by
  have hr := run_bytes_of_string (P := Ybaf.prog) w1 9 22 5 ⟨l.toArray⟩ Ybaf.underlying9 Ybaf.underlying22 Ybaf.underlying5
  have hs : (⟨l.toArray⟩ : ByteArray).size = l.length := by simp [ByteArray.size]
  rw [hs] at hr
  generalize grownCap w1 l.length 0 5 = C at hr
  have hh := heap_alloc_new w1.drew (.cells (bytesRow ⟨l.toArray⟩ C) 5 ((bytesRow ⟨l.toArray⟩ C).size, (bytesRow ⟨l.toArray⟩ C).size + 1))
  refine ⟨C, _, hr, (Below.refl _ _).drew.alloc (Nat.le_refl _) _, fun i h => ?_, fun i h => ?_⟩
  · have := cell_of_row _ w1.heap.size i _ _ _ hh
    rw [this, bytesRow_at _ _ _ (by simpa using h)]
    simp
  · have hsz : l.length ≤ (bytesRow ⟨l.toArray⟩ C).size := by simp [bytesRow]
    have hh' : (w1.drew.alloc (.cells (bytesRow ⟨l.toArray⟩ C) 5 ((bytesRow ⟨l.toArray⟩ C).size, (bytesRow ⟨l.toArray⟩ C).size + 1))).heap[w1.heap.size]? = _ := hh
    simp only [World.frozen?, hh']
    simp
    intro h2
    omega

set_option maxRecDepth 100000 in
theorem lower_0 (w : World) :
    Calls Ybaf.prog 37 #[.agg #[nmS 0]] w fun e w' => e = .returned (.agg #[lwS 0]) ∧ Below w.heap.size w w' := by
  go_enter Ybaf.func37, Ybaf.ntmps37
  go_wp2_with fail
  refine (Contains_any 0 (by decide) _).mono ?_
  rintro e w1 ⟨rfl, hb⟩
  have hlt : ∀ o o2, w.heap.size < ((w.alloc o).alloc o2).heap.size := fun o o2 => by rw [World.size_alloc, World.size_alloc]; omega
  have hlt2 : ∀ o o2, w.heap.size + 1 < ((w.alloc o).alloc o2).heap.size := fun o o2 => by rw [World.size_alloc, World.size_alloc]; omega
  have hc0 : w1.cell? ⟨w.heap.size, 0, none⟩ = some (nmS 0) := by rw [hb.cell (p := ⟨w.heap.size, 0, none⟩) (hlt _ _)]; simp
  have hc1 : w1.cell? ⟨w.heap.size + 1, 0, none⟩ = some (.string ⟨#[]⟩) := by rw [hb.cell (p := ⟨w.heap.size + 1, 0, none⟩) (hlt2 _ _)]; simp
  have hf1 : w1.frozen? ⟨w.heap.size + 1, 0, none⟩ = false := by rw [hb.frozen (p := ⟨w.heap.size + 1, 0, none⟩) (hlt2 _ _)]; simp
  have hz : w.heap.size + 1 < w1.heap.size := Nat.lt_of_lt_of_le (hlt2 _ _) hb.size
  have HB := hidI hb
  clear hb
  simp only [show Pl.up 0 = false from rfl]
  go_wp2
  exact bodyPost_ret (v := .agg #[lwS 0]) (by simp [results, Ybaf.results37, go_sem, Pl.nm, Pl.lw, hc1]) rfl ⟨rfl, below_set1 HB.out⟩

set_option maxRecDepth 100000 in
theorem lower_1 (w : World) :
    Calls Ybaf.prog 37 #[.agg #[nmS 1]] w fun e w' => e = .returned (.agg #[lwS 1]) ∧ Below w.heap.size w w' := by
  go_enter Ybaf.func37, Ybaf.ntmps37
  go_wp2_with fail
  refine (Contains_any 1 (by decide) _).mono ?_
  rintro e w1 ⟨rfl, hb⟩
  have hlt : ∀ o o2, w.heap.size < ((w.alloc o).alloc o2).heap.size := fun o o2 => by rw [World.size_alloc, World.size_alloc]; omega
  have hlt2 : ∀ o o2, w.heap.size + 1 < ((w.alloc o).alloc o2).heap.size := fun o o2 => by rw [World.size_alloc, World.size_alloc]; omega
  have hc0 : w1.cell? ⟨w.heap.size, 0, none⟩ = some (nmS 1) := by rw [hb.cell (p := ⟨w.heap.size, 0, none⟩) (hlt _ _)]; simp
  have hc1 : w1.cell? ⟨w.heap.size + 1, 0, none⟩ = some (.string ⟨#[]⟩) := by rw [hb.cell (p := ⟨w.heap.size + 1, 0, none⟩) (hlt2 _ _)]; simp
  have hf1 : w1.frozen? ⟨w.heap.size + 1, 0, none⟩ = false := by rw [hb.frozen (p := ⟨w.heap.size + 1, 0, none⟩) (hlt2 _ _)]; simp
  have hz : w.heap.size + 1 < w1.heap.size := Nat.lt_of_lt_of_le (hlt2 _ _) hb.size
  have HB := hidI hb
  clear hb
  simp only [show Pl.up 1 = true from rfl]
  obtain ⟨C, W2, hcv, hb2, hcs, hfs⟩ := conv_fwd (Pl.nm 1) w1
  rw [show (Pl.nm 1).length = 3 from rfl] at hcv
  have d0 : W2.cell? ⟨w1.heap.size, 0, none⟩ = some (.int .u8 1) := hcs 0 (by decide)
  have f0 : W2.frozen? ⟨w1.heap.size, 0, none⟩ = false := hfs 0 (by decide)
  have d1 : W2.cell? ⟨w1.heap.size, 1, none⟩ = some (.int .u8 65) := hcs 1 (by decide)
  have f1 : W2.frozen? ⟨w1.heap.size, 1, none⟩ = false := hfs 1 (by decide)
  have d2 : W2.cell? ⟨w1.heap.size, 2, none⟩ = some (.int .u8 0) := hcs 2 (by decide)
  have f2 : W2.frozen? ⟨w1.heap.size, 2, none⟩ = false := hfs 2 (by decide)
  have hcb : (convert 22 9 (.slice (some ⟨w1.heap.size, 0, none⟩) 3 C)).run Ybaf.prog (W2.setCell ⟨w1.heap.size, 1, none⟩ (.int .u8 97)) = .ok (.string ⟨([1, 97, 0] : List UInt8).toArray⟩) (W2.setCell ⟨w1.heap.size, 1, none⟩ (.int .u8 97)) :=
    run_convert_bytes_back (P := Ybaf.prog) _ 22 9 5 ⟨w1.heap.size, 0, none⟩ C [1, 97, 0] Ybaf.underlying22 Ybaf.underlying5 Ybaf.underlying9 (fun i hi => by
      rw [Addr.add_lit, Nat.zero_add]
      match i, hi with
      | 0, _ => exact (World.cell?_setCell_other _ _ _ _ (by simp)).trans d0
      | 1, _ => exact World.cell?_setCell_same _ _ _ d1
      | 2, _ => exact (World.cell?_setCell_other _ _ _ _ (by simp)).trans d2)
  have hc1' : W2.cell? ⟨w.heap.size + 1, 0, none⟩ = some (.string ⟨#[]⟩) := by rw [hb2.cell (p := ⟨w.heap.size + 1, 0, none⟩) hz]; exact hc1
  have hf1' : W2.frozen? ⟨w.heap.size + 1, 0, none⟩ = false := by rw [hb2.frozen (p := ⟨w.heap.size + 1, 0, none⟩) hz]; exact hf1
  have hne : w1.heap.size ≠ w.heap.size + 1 := by omega
  have hne2 : w.heap.size + 1 ≠ w1.heap.size := by omega
  have HB2 := hidI hb2
  clear hb2 hcs hfs
  go_wp2_with fail
  refine wp_loop_rounds 8 ?_
  rw [rounds_succ]
  go_wp2_with (go_at_call 44; refine (upper_any _ _).mono ?_; rintro e w2 ⟨rfl, rfl⟩)
  rw [rounds_succ]
  go_wp2_with (go_at_call 44; refine (upper_any _ _).mono ?_; rintro e w2 ⟨rfl, rfl⟩)
  rw [rounds_succ]
  go_wp2_with (go_at_call 44; refine (upper_any _ _).mono ?_; rintro e w2 ⟨rfl, rfl⟩)
  rw [rounds_succ]
  go_wp2_with (go_at_call 44; refine (upper_any _ _).mono ?_; rintro e w2 ⟨rfl, rfl⟩)
  exact bodyPost_ret (v := .agg #[lwS 1]) (by simp [results, Ybaf.results37, go_sem, Pl.nm, Pl.lw, hc1', hne, hne2]) rfl ⟨rfl, below_set3 HB.out HB2.out⟩

set_option maxRecDepth 100000 in
theorem lower_2 (w : World) :
    Calls Ybaf.prog 37 #[.agg #[nmS 2]] w fun e w' => e = .returned (.agg #[lwS 2]) ∧ Below w.heap.size w w' := by
  go_enter Ybaf.func37, Ybaf.ntmps37
  go_wp2_with fail
  refine (Contains_any 2 (by decide) _).mono ?_
  rintro e w1 ⟨rfl, hb⟩
  have hlt : ∀ o o2, w.heap.size < ((w.alloc o).alloc o2).heap.size := fun o o2 => by rw [World.size_alloc, World.size_alloc]; omega
  have hlt2 : ∀ o o2, w.heap.size + 1 < ((w.alloc o).alloc o2).heap.size := fun o o2 => by rw [World.size_alloc, World.size_alloc]; omega
  have hc0 : w1.cell? ⟨w.heap.size, 0, none⟩ = some (nmS 2) := by rw [hb.cell (p := ⟨w.heap.size, 0, none⟩) (hlt _ _)]; simp
  have hc1 : w1.cell? ⟨w.heap.size + 1, 0, none⟩ = some (.string ⟨#[]⟩) := by rw [hb.cell (p := ⟨w.heap.size + 1, 0, none⟩) (hlt2 _ _)]; simp
  have hf1 : w1.frozen? ⟨w.heap.size + 1, 0, none⟩ = false := by rw [hb.frozen (p := ⟨w.heap.size + 1, 0, none⟩) (hlt2 _ _)]; simp
  have hz : w.heap.size + 1 < w1.heap.size := Nat.lt_of_lt_of_le (hlt2 _ _) hb.size
  have HB := hidI hb
  clear hb
  simp only [show Pl.up 2 = false from rfl]
  go_wp2
  exact bodyPost_ret (v := .agg #[lwS 2]) (by simp [results, Ybaf.results37, go_sem, Pl.nm, Pl.lw, hc1]) rfl ⟨rfl, below_set1 HB.out⟩

set_option maxRecDepth 100000 in
theorem lower_3 (w : World) :
    Calls Ybaf.prog 37 #[.agg #[nmS 3]] w fun e w' => e = .returned (.agg #[lwS 3]) ∧ Below w.heap.size w w' := by
  go_enter Ybaf.func37, Ybaf.ntmps37
  go_wp2_with fail
  refine (Contains_any 3 (by decide) _).mono ?_
  rintro e w1 ⟨rfl, hb⟩
  have hlt : ∀ o o2, w.heap.size < ((w.alloc o).alloc o2).heap.size := fun o o2 => by rw [World.size_alloc, World.size_alloc]; omega
  have hlt2 : ∀ o o2, w.heap.size + 1 < ((w.alloc o).alloc o2).heap.size := fun o o2 => by rw [World.size_alloc, World.size_alloc]; omega
  have hc0 : w1.cell? ⟨w.heap.size, 0, none⟩ = some (nmS 3) := by rw [hb.cell (p := ⟨w.heap.size, 0, none⟩) (hlt _ _)]; simp
  have hc1 : w1.cell? ⟨w.heap.size + 1, 0, none⟩ = some (.string ⟨#[]⟩) := by rw [hb.cell (p := ⟨w.heap.size + 1, 0, none⟩) (hlt2 _ _)]; simp
  have hf1 : w1.frozen? ⟨w.heap.size + 1, 0, none⟩ = false := by rw [hb.frozen (p := ⟨w.heap.size + 1, 0, none⟩) (hlt2 _ _)]; simp
  have hz : w.heap.size + 1 < w1.heap.size := Nat.lt_of_lt_of_le (hlt2 _ _) hb.size
  have HB := hidI hb
  clear hb
  simp only [show Pl.up 3 = true from rfl]
  obtain ⟨C, W2, hcv, hb2, hcs, hfs⟩ := conv_fwd (Pl.nm 3) w1
  rw [show (Pl.nm 3).length = 4 from rfl] at hcv
  have d0 : W2.cell? ⟨w1.heap.size, 0, none⟩ = some (.int .u8 2) := hcs 0 (by decide)
  have f0 : W2.frozen? ⟨w1.heap.size, 0, none⟩ = false := hfs 0 (by decide)
  have d1 : W2.cell? ⟨w1.heap.size, 1, none⟩ = some (.int .u8 99) := hcs 1 (by decide)
  have f1 : W2.frozen? ⟨w1.heap.size, 1, none⟩ = false := hfs 1 (by decide)
  have d2 : W2.cell? ⟨w1.heap.size, 2, none⟩ = some (.int .u8 67) := hcs 2 (by decide)
  have f2 : W2.frozen? ⟨w1.heap.size, 2, none⟩ = false := hfs 2 (by decide)
  have d3 : W2.cell? ⟨w1.heap.size, 3, none⟩ = some (.int .u8 0) := hcs 3 (by decide)
  have f3 : W2.frozen? ⟨w1.heap.size, 3, none⟩ = false := hfs 3 (by decide)
  have hcb : (convert 22 9 (.slice (some ⟨w1.heap.size, 0, none⟩) 4 C)).run Ybaf.prog (W2.setCell ⟨w1.heap.size, 2, none⟩ (.int .u8 99)) = .ok (.string ⟨([2, 99, 99, 0] : List UInt8).toArray⟩) (W2.setCell ⟨w1.heap.size, 2, none⟩ (.int .u8 99)) :=
    run_convert_bytes_back (P := Ybaf.prog) _ 22 9 5 ⟨w1.heap.size, 0, none⟩ C [2, 99, 99, 0] Ybaf.underlying22 Ybaf.underlying5 Ybaf.underlying9 (fun i hi => by
      rw [Addr.add_lit, Nat.zero_add]
      match i, hi with
      | 0, _ => exact (World.cell?_setCell_other _ _ _ _ (by simp)).trans d0
      | 1, _ => exact (World.cell?_setCell_other _ _ _ _ (by simp)).trans d1
      | 2, _ => exact World.cell?_setCell_same _ _ _ d2
      | 3, _ => exact (World.cell?_setCell_other _ _ _ _ (by simp)).trans d3)
  have hc1' : W2.cell? ⟨w.heap.size + 1, 0, none⟩ = some (.string ⟨#[]⟩) := by rw [hb2.cell (p := ⟨w.heap.size + 1, 0, none⟩) hz]; exact hc1
  have hf1' : W2.frozen? ⟨w.heap.size + 1, 0, none⟩ = false := by rw [hb2.frozen (p := ⟨w.heap.size + 1, 0, none⟩) hz]; exact hf1
  have hne : w1.heap.size ≠ w.heap.size + 1 := by omega
  have hne2 : w.heap.size + 1 ≠ w1.heap.size := by omega
  have HB2 := hidI hb2
  clear hb2 hcs hfs
  go_wp2_with fail
  refine wp_loop_rounds 8 ?_
  rw [rounds_succ]
  go_wp2_with (go_at_call 44; refine (upper_any _ _).mono ?_; rintro e w2 ⟨rfl, rfl⟩)
  rw [rounds_succ]
  go_wp2_with (go_at_call 44; refine (upper_any _ _).mono ?_; rintro e w2 ⟨rfl, rfl⟩)
  rw [rounds_succ]
  go_wp2_with (go_at_call 44; refine (upper_any _ _).mono ?_; rintro e w2 ⟨rfl, rfl⟩)
  rw [rounds_succ]
  go_wp2_with (go_at_call 44; refine (upper_any _ _).mono ?_; rintro e w2 ⟨rfl, rfl⟩)
  rw [rounds_succ]
  go_wp2_with (go_at_call 44; refine (upper_any _ _).mono ?_; rintro e w2 ⟨rfl, rfl⟩)
  exact bodyPost_ret (v := .agg #[lwS 3]) (by simp [results, Ybaf.results37, go_sem, Pl.nm, Pl.lw, hc1', hne, hne2]) rfl ⟨rfl, below_set3 HB.out HB2.out⟩

set_option maxRecDepth 100000 in
theorem lower_4 (w : World) :
    Calls Ybaf.prog 37 #[.agg #[nmS 4]] w fun e w' => e = .returned (.agg #[lwS 4]) ∧ Below w.heap.size w w' := by
  go_enter Ybaf.func37, Ybaf.ntmps37
  go_wp2_with fail
  refine (Contains_any 4 (by decide) _).mono ?_
  rintro e w1 ⟨rfl, hb⟩
  have hlt : ∀ o o2, w.heap.size < ((w.alloc o).alloc o2).heap.size := fun o o2 => by rw [World.size_alloc, World.size_alloc]; omega
  have hlt2 : ∀ o o2, w.heap.size + 1 < ((w.alloc o).alloc o2).heap.size := fun o o2 => by rw [World.size_alloc, World.size_alloc]; omega
  have hc0 : w1.cell? ⟨w.heap.size, 0, none⟩ = some (nmS 4) := by rw [hb.cell (p := ⟨w.heap.size, 0, none⟩) (hlt _ _)]; simp
  have hc1 : w1.cell? ⟨w.heap.size + 1, 0, none⟩ = some (.string ⟨#[]⟩) := by rw [hb.cell (p := ⟨w.heap.size + 1, 0, none⟩) (hlt2 _ _)]; simp
  have hf1 : w1.frozen? ⟨w.heap.size + 1, 0, none⟩ = false := by rw [hb.frozen (p := ⟨w.heap.size + 1, 0, none⟩) (hlt2 _ _)]; simp
  have hz : w.heap.size + 1 < w1.heap.size := Nat.lt_of_lt_of_le (hlt2 _ _) hb.size
  have HB := hidI hb
  clear hb
  simp only [show Pl.up 4 = false from rfl]
  go_wp2
  exact bodyPost_ret (v := .agg #[lwS 4]) (by simp [results, Ybaf.results37, go_sem, Pl.nm, Pl.lw, hc1]) rfl ⟨rfl, below_set1 HB.out⟩

set_option maxRecDepth 100000 in
theorem lower_5 (w : World) :
    Calls Ybaf.prog 37 #[.agg #[nmS 5]] w fun e w' => e = .returned (.agg #[lwS 5]) ∧ Below w.heap.size w w' := by
  go_enter Ybaf.func37, Ybaf.ntmps37
  go_wp2_with fail
  refine (Contains_any 5 (by decide) _).mono ?_
  rintro e w1 ⟨rfl, hb⟩
  have hlt : ∀ o o2, w.heap.size < ((w.alloc o).alloc o2).heap.size := fun o o2 => by rw [World.size_alloc, World.size_alloc]; omega
  have hlt2 : ∀ o o2, w.heap.size + 1 < ((w.alloc o).alloc o2).heap.size := fun o o2 => by rw [World.size_alloc, World.size_alloc]; omega
  have hc0 : w1.cell? ⟨w.heap.size, 0, none⟩ = some (nmS 5) := by rw [hb.cell (p := ⟨w.heap.size, 0, none⟩) (hlt _ _)]; simp
  have hc1 : w1.cell? ⟨w.heap.size + 1, 0, none⟩ = some (.string ⟨#[]⟩) := by rw [hb.cell (p := ⟨w.heap.size + 1, 0, none⟩) (hlt2 _ _)]; simp
  have hf1 : w1.frozen? ⟨w.heap.size + 1, 0, none⟩ = false := by rw [hb.frozen (p := ⟨w.heap.size + 1, 0, none⟩) (hlt2 _ _)]; simp
  have hz : w.heap.size + 1 < w1.heap.size := Nat.lt_of_lt_of_le (hlt2 _ _) hb.size
  have HB := hidI hb
  clear hb
  simp only [show Pl.up 5 = false from rfl]
  go_wp2
  exact bodyPost_ret (v := .agg #[lwS 5]) (by simp [results, Ybaf.results37, go_sem, Pl.nm, Pl.lw, hc1]) rfl ⟨rfl, below_set1 HB.out⟩

theorem lower_any (j : Nat) (hj : j < 6) (w : World) :
    Calls Ybaf.prog 37 #[.agg #[nmS j]] w fun e w' => e = .returned (.agg #[lwS j]) ∧ Below w.heap.size w w' := by
  match j, hj with
  | 0, _ => exact lower_0 w
  | 1, _ => exact lower_1 w
  | 2, _ => exact lower_2 w
  | 3, _ => exact lower_3 w
  | 4, _ => exact lower_4 w
  | 5, _ => exact lower_5 w

end Go.Proofs.YbulkaiaFmt
