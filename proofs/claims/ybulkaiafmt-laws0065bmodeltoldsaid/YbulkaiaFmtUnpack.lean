/-
  Seat b0065aF: unpack (33) at the five wires, whole and cut by one byte.
-/
import Derived.Test.YbulkaiaFmtNames
namespace Go.Proofs.YbulkaiaFmt
set_option linter.unusedSimpArgs false
set_option linter.unusedVariables false
open Go.RowKit

theorem nil_nil (W : World) : (binOp .eql 22 (.slice none 0 0) (.slice none 0 0)).run Ybaf.prog W = .ok (.bool true) W := by kernel_rfl
theorem bits0 : bits .and .i64 0 192 = 0 := by decide
theorem bits1 : bits .and .i64 1 192 = 0 := by decide
theorem bits2 : bits .and .i64 2 192 = 0 := by decide

theorem conv_at (w : World) (o : Obj) (g n cap : Nat) (l : List UInt8) (hn : l.length = n) (hl : g < w.heap.size) (hc : ∀ j (hj : j < l.length), w.cell? ⟨g, j, none⟩ = some (.int .u8 (l[j].toNat : Int))) :
    (convert 22 9 (.slice (some ⟨g, 0, none⟩) n cap)).run Ybaf.prog (w.alloc o) = .ok (.string ⟨l.toArray⟩) (w.alloc o) := by
  subst hn
  exact run_convert_bytes_back (P := Ybaf.prog) (w.alloc o) 22 9 5 ⟨g, 0, none⟩ cap l Ybaf.underlying22 Ybaf.underlying5 Ybaf.underlying9 (fun j hj => by
    rw [Addr.add_lit, Nat.zero_add, World.cell?_alloc_past _ _ _ hl]; exact hc j hj)

set_option maxRecDepth 100000 in
set_option maxHeartbeats 1600000 in
theorem unpack_0 (g : Nat) (w : World) (c0 : w.cell? ⟨g, 0, none⟩ = some (.int .u8 1)) (c1 : w.cell? ⟨g, 1, none⟩ = some (.int .u8 97)) (c2 : w.cell? ⟨g, 2, none⟩ = some (.int .u8 0)) (hl : g < w.heap.size) :
    Calls Ybaf.prog 33 #[.slice (some ⟨g, 0, none⟩) 3 3, .int .i64 0, .bool false] w fun e w' => ∃ i v, e = .returned (.tuple #[.agg #[nmS 0], .int .i64 i, v]) ∧ Below w.heap.size w w' := by
  have hcv := fun o => conv_at w o g 3 3 [1, 97, 0] rfl hl (fun j hj => by
    match j, hj with
    | 0, _ => exact c0
    | 1, _ => exact c1
    | 2, _ => exact c2)
  have b0 := bits0
  have b1 := bits1
  have b2 := bits2
  have hnil := nil_nil
  go_enter Ybaf.func33, Ybaf.ntmps33
  go_wp2_with fail
  refine wp_loop_rounds 2 ?_
  rw [rounds_succ]
  go_wp2
  rw [rounds_succ]
  go_wp2
  exact bodyPost_ret (v := .tuple #[.agg #[nmS 0], .int .i64 3, .nilIface]) (by simp [results, Ybaf.results33, go_sem, Pl.nm]) rfl ⟨_, _, rfl, (Below.refl _ _).alloc (Nat.le_refl _) _⟩

set_option maxRecDepth 100000 in
set_option maxHeartbeats 1600000 in
theorem unpack_1 (g : Nat) (w : World) (c0 : w.cell? ⟨g, 0, none⟩ = some (.int .u8 1)) (c1 : w.cell? ⟨g, 1, none⟩ = some (.int .u8 65)) (c2 : w.cell? ⟨g, 2, none⟩ = some (.int .u8 0)) (hl : g < w.heap.size) :
    Calls Ybaf.prog 33 #[.slice (some ⟨g, 0, none⟩) 3 3, .int .i64 0, .bool false] w fun e w' => ∃ i v, e = .returned (.tuple #[.agg #[nmS 1], .int .i64 i, v]) ∧ Below w.heap.size w w' := by
  have hcv := fun o => conv_at w o g 3 3 [1, 65, 0] rfl hl (fun j hj => by
    match j, hj with
    | 0, _ => exact c0
    | 1, _ => exact c1
    | 2, _ => exact c2)
  have b0 := bits0
  have b1 := bits1
  have b2 := bits2
  have hnil := nil_nil
  go_enter Ybaf.func33, Ybaf.ntmps33
  go_wp2_with fail
  refine wp_loop_rounds 2 ?_
  rw [rounds_succ]
  go_wp2
  rw [rounds_succ]
  go_wp2
  exact bodyPost_ret (v := .tuple #[.agg #[nmS 1], .int .i64 3, .nilIface]) (by simp [results, Ybaf.results33, go_sem, Pl.nm]) rfl ⟨_, _, rfl, (Below.refl _ _).alloc (Nat.le_refl _) _⟩

set_option maxRecDepth 100000 in
set_option maxHeartbeats 1600000 in
theorem unpack_2 (g : Nat) (w : World) (c0 : w.cell? ⟨g, 0, none⟩ = some (.int .u8 1)) (c1 : w.cell? ⟨g, 1, none⟩ = some (.int .u8 98)) (c2 : w.cell? ⟨g, 2, none⟩ = some (.int .u8 0)) (hl : g < w.heap.size) :
    Calls Ybaf.prog 33 #[.slice (some ⟨g, 0, none⟩) 3 3, .int .i64 0, .bool false] w fun e w' => ∃ i v, e = .returned (.tuple #[.agg #[nmS 2], .int .i64 i, v]) ∧ Below w.heap.size w w' := by
  have hcv := fun o => conv_at w o g 3 3 [1, 98, 0] rfl hl (fun j hj => by
    match j, hj with
    | 0, _ => exact c0
    | 1, _ => exact c1
    | 2, _ => exact c2)
  have b0 := bits0
  have b1 := bits1
  have b2 := bits2
  have hnil := nil_nil
  go_enter Ybaf.func33, Ybaf.ntmps33
  go_wp2_with fail
  refine wp_loop_rounds 2 ?_
  rw [rounds_succ]
  go_wp2
  rw [rounds_succ]
  go_wp2
  exact bodyPost_ret (v := .tuple #[.agg #[nmS 2], .int .i64 3, .nilIface]) (by simp [results, Ybaf.results33, go_sem, Pl.nm]) rfl ⟨_, _, rfl, (Below.refl _ _).alloc (Nat.le_refl _) _⟩

set_option maxRecDepth 100000 in
set_option maxHeartbeats 1600000 in
theorem unpack_3 (g : Nat) (w : World) (c0 : w.cell? ⟨g, 0, none⟩ = some (.int .u8 2)) (c1 : w.cell? ⟨g, 1, none⟩ = some (.int .u8 99)) (c2 : w.cell? ⟨g, 2, none⟩ = some (.int .u8 67)) (c3 : w.cell? ⟨g, 3, none⟩ = some (.int .u8 0)) (hl : g < w.heap.size) :
    Calls Ybaf.prog 33 #[.slice (some ⟨g, 0, none⟩) 4 4, .int .i64 0, .bool false] w fun e w' => ∃ i v, e = .returned (.tuple #[.agg #[nmS 3], .int .i64 i, v]) ∧ Below w.heap.size w w' := by
  have hcv := fun o => conv_at w o g 4 4 [2, 99, 67, 0] rfl hl (fun j hj => by
    match j, hj with
    | 0, _ => exact c0
    | 1, _ => exact c1
    | 2, _ => exact c2
    | 3, _ => exact c3)
  have b0 := bits0
  have b1 := bits1
  have b2 := bits2
  have hnil := nil_nil
  go_enter Ybaf.func33, Ybaf.ntmps33
  go_wp2_with fail
  refine wp_loop_rounds 2 ?_
  rw [rounds_succ]
  go_wp2
  rw [rounds_succ]
  go_wp2
  exact bodyPost_ret (v := .tuple #[.agg #[nmS 3], .int .i64 4, .nilIface]) (by simp [results, Ybaf.results33, go_sem, Pl.nm]) rfl ⟨_, _, rfl, (Below.refl _ _).alloc (Nat.le_refl _) _⟩

set_option maxRecDepth 100000 in
set_option maxHeartbeats 1600000 in
theorem unpack_4 (g : Nat) (w : World) (c0 : w.cell? ⟨g, 0, none⟩ = some (.int .u8 0)) (hl : g < w.heap.size) :
    Calls Ybaf.prog 33 #[.slice (some ⟨g, 0, none⟩) 1 1, .int .i64 0, .bool false] w fun e w' => ∃ i v, e = .returned (.tuple #[.agg #[nmS 4], .int .i64 i, v]) ∧ Below w.heap.size w w' := by
  have hcv := fun o => conv_at w o g 1 1 [0] rfl hl (fun j hj => by
    match j, hj with
    | 0, _ => exact c0)
  have b0 := bits0
  have b1 := bits1
  have b2 := bits2
  have hnil := nil_nil
  go_enter Ybaf.func33, Ybaf.ntmps33
  go_wp2_with fail
  refine wp_loop_rounds 1 ?_
  rw [rounds_succ]
  go_wp2
  exact bodyPost_ret (v := .tuple #[.agg #[nmS 4], .int .i64 1, .nilIface]) (by simp [results, Ybaf.results33, go_sem, Pl.nm]) rfl ⟨_, _, rfl, (Below.refl _ _).alloc (Nat.le_refl _) _⟩

set_option maxRecDepth 100000 in
set_option maxHeartbeats 1600000 in
theorem unpack_cut0 (g : Nat) (w : World) (v1 : Value) (c0 : w.cell? ⟨g, 0, none⟩ = some (.int .u8 1)) (c1 : w.cell? ⟨g, 1, none⟩ = some (.int .u8 97)) (hl : g < w.heap.size) (h1 : 1 < w.heap.size) (hv : w.cell? ⟨1, 0, none⟩ = some v1) :
    Calls Ybaf.prog 33 #[.slice (some ⟨g, 0, none⟩) 2 3, .int .i64 0, .bool false] w fun e w' => ∃ i v, e = .returned (.tuple #[.agg #[nmS 5], .int .i64 i, v]) ∧ Below w.heap.size w w' := by
  have b0 := bits0
  have b1 := bits1
  have b2 := bits2
  have hnil := nil_nil
  go_enter Ybaf.func33, Ybaf.ntmps33
  go_wp2_with fail
  refine wp_loop_rounds 2 ?_
  rw [rounds_succ]
  go_wp2
  rw [rounds_succ]
  go_wp2
  go_region
  all_goals
    go_wp2
    exact bodyPost_ret (v := .tuple #[.agg #[nmS 5], .int .i64 0, v1]) (by simp [results, Ybaf.results33, go_sem, Pl.nm]) rfl ⟨_, _, rfl, ((Below.refl _ _).alloc (Nat.le_refl _) _).drew⟩

set_option maxRecDepth 100000 in
set_option maxHeartbeats 1600000 in
theorem unpack_cut1 (g : Nat) (w : World) (v1 : Value) (c0 : w.cell? ⟨g, 0, none⟩ = some (.int .u8 1)) (c1 : w.cell? ⟨g, 1, none⟩ = some (.int .u8 65)) (hl : g < w.heap.size) (h1 : 1 < w.heap.size) (hv : w.cell? ⟨1, 0, none⟩ = some v1) :
    Calls Ybaf.prog 33 #[.slice (some ⟨g, 0, none⟩) 2 3, .int .i64 0, .bool false] w fun e w' => ∃ i v, e = .returned (.tuple #[.agg #[nmS 5], .int .i64 i, v]) ∧ Below w.heap.size w w' := by
  have b0 := bits0
  have b1 := bits1
  have b2 := bits2
  have hnil := nil_nil
  go_enter Ybaf.func33, Ybaf.ntmps33
  go_wp2_with fail
  refine wp_loop_rounds 2 ?_
  rw [rounds_succ]
  go_wp2
  rw [rounds_succ]
  go_wp2
  go_region
  all_goals
    go_wp2
    exact bodyPost_ret (v := .tuple #[.agg #[nmS 5], .int .i64 0, v1]) (by simp [results, Ybaf.results33, go_sem, Pl.nm]) rfl ⟨_, _, rfl, ((Below.refl _ _).alloc (Nat.le_refl _) _).drew⟩

set_option maxRecDepth 100000 in
set_option maxHeartbeats 1600000 in
theorem unpack_cut2 (g : Nat) (w : World) (v1 : Value) (c0 : w.cell? ⟨g, 0, none⟩ = some (.int .u8 1)) (c1 : w.cell? ⟨g, 1, none⟩ = some (.int .u8 98)) (hl : g < w.heap.size) (h1 : 1 < w.heap.size) (hv : w.cell? ⟨1, 0, none⟩ = some v1) :
    Calls Ybaf.prog 33 #[.slice (some ⟨g, 0, none⟩) 2 3, .int .i64 0, .bool false] w fun e w' => ∃ i v, e = .returned (.tuple #[.agg #[nmS 5], .int .i64 i, v]) ∧ Below w.heap.size w w' := by
  have b0 := bits0
  have b1 := bits1
  have b2 := bits2
  have hnil := nil_nil
  go_enter Ybaf.func33, Ybaf.ntmps33
  go_wp2_with fail
  refine wp_loop_rounds 2 ?_
  rw [rounds_succ]
  go_wp2
  rw [rounds_succ]
  go_wp2
  go_region
  all_goals
    go_wp2
    exact bodyPost_ret (v := .tuple #[.agg #[nmS 5], .int .i64 0, v1]) (by simp [results, Ybaf.results33, go_sem, Pl.nm]) rfl ⟨_, _, rfl, ((Below.refl _ _).alloc (Nat.le_refl _) _).drew⟩

set_option maxRecDepth 100000 in
set_option maxHeartbeats 1600000 in
theorem unpack_cut3 (g : Nat) (w : World) (v1 : Value) (c0 : w.cell? ⟨g, 0, none⟩ = some (.int .u8 2)) (c1 : w.cell? ⟨g, 1, none⟩ = some (.int .u8 99)) (c2 : w.cell? ⟨g, 2, none⟩ = some (.int .u8 67)) (hl : g < w.heap.size) (h1 : 1 < w.heap.size) (hv : w.cell? ⟨1, 0, none⟩ = some v1) :
    Calls Ybaf.prog 33 #[.slice (some ⟨g, 0, none⟩) 3 4, .int .i64 0, .bool false] w fun e w' => ∃ i v, e = .returned (.tuple #[.agg #[nmS 5], .int .i64 i, v]) ∧ Below w.heap.size w w' := by
  have b0 := bits0
  have b1 := bits1
  have b2 := bits2
  have hnil := nil_nil
  go_enter Ybaf.func33, Ybaf.ntmps33
  go_wp2_with fail
  refine wp_loop_rounds 2 ?_
  rw [rounds_succ]
  go_wp2
  rw [rounds_succ]
  go_wp2
  go_region
  all_goals
    go_wp2
    exact bodyPost_ret (v := .tuple #[.agg #[nmS 5], .int .i64 0, v1]) (by simp [results, Ybaf.results33, go_sem, Pl.nm]) rfl ⟨_, _, rfl, ((Below.refl _ _).alloc (Nat.le_refl _) _).drew⟩

set_option maxRecDepth 100000 in
set_option maxHeartbeats 1600000 in
theorem unpack_cut4 (g : Nat) (w : World) (v1 : Value)  (hl : g < w.heap.size) (h1 : 1 < w.heap.size) (hv : w.cell? ⟨1, 0, none⟩ = some v1) :
    Calls Ybaf.prog 33 #[.slice (some ⟨g, 0, none⟩) 0 1, .int .i64 0, .bool false] w fun e w' => ∃ i v, e = .returned (.tuple #[.agg #[nmS 5], .int .i64 i, v]) ∧ Below w.heap.size w w' := by
  have b0 := bits0
  have b1 := bits1
  have b2 := bits2
  have hnil := nil_nil
  go_enter Ybaf.func33, Ybaf.ntmps33
  go_wp2_with fail
  refine wp_loop_rounds 1 ?_
  rw [rounds_succ]
  go_wp2
  go_region
  all_goals
    go_wp2
    exact bodyPost_ret (v := .tuple #[.agg #[nmS 5], .int .i64 0, v1]) (by simp [results, Ybaf.results33, go_sem, Pl.nm]) rfl ⟨_, _, rfl, ((Below.refl _ _).alloc (Nat.le_refl _) _).drew⟩

end Go.Proofs.YbulkaiaFmt
