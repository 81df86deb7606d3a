/-
  Seat b0068a: the contracts of shape, Store, Load, CompareAndSwap, markBehind.
-/
import Derived.Test.YbulkajqRows
import Derived.WalkKit
import Derived.WalkLawsBesides
import Derived.Laws.LoneSync
import Derived.OpenShut
namespace Go.Proofs.Ybulkajq
open Go.RowKit

theorem hidI {p : Prop} (h : p) : Hid p := h

set_option maxHeartbeats 1600000 in
theorem shape_any (x : Int) (p q r : Bool) (w : World) : Calls Yba.prog 5 #[.int .i64 x, .bool p, .bool q, .bool r] w fun e w' => (∃ s, e = .returned (.int .i64 s) ∧ (Lit.int .i64 s).wf = true) ∧ w = w' := by
  cases p <;> cases q <;> cases r
  all_goals
    go_enter Yba.func5, Yba.ntmps5
    go_wp2
    go_ret
    exact ⟨⟨_, rfl, by exact wf_bits _ _ _ _⟩, rfl⟩

theorem store_any (b : Nat) (y : Int) (u : Value) (w : World) (hc : w.cell? ⟨b, 0, none⟩ = some u) (hz : w.frozen? ⟨b, 0, none⟩ = false) :
    Calls Yba.prog 6 #[.pointer (some ⟨b, 0, none⟩), .int .i64 y] w fun e w' => e = .returned (.tuple #[]) ∧ w' = w.setCell ⟨b, 0, none⟩ (.int .i64 y) := by
  have hs := run_call_store (P := Yba.prog) Yba.func9 (by kernel_rfl) (by kernel_rfl) (by kernel_rfl) (by kernel_rfl) (k := .i64) (y := y) hc hz
  go_enter Yba.func6, Yba.ntmps6
  go_wp2
  go_end0
  exact ⟨rfl, rfl⟩

theorem load_any (b : Nat) (s : Int) (w : World) (hc : w.cell? ⟨b, 0, none⟩ = some (.int .i64 s)) :
    Calls Yba.prog 8 #[.pointer (some ⟨b, 0, none⟩)] w fun e w' => e = .returned (.int .i64 s) ∧ w = w' := by
  have hs := run_call_load (P := Yba.prog) Yba.func12 (by kernel_rfl) (by kernel_rfl) (by kernel_rfl) .i64 (by kernel_rfl) hc
  go_enter Yba.func8, Yba.ntmps8
  go_wp2
  go_ret
  exact ⟨rfl, rfl⟩

theorem cas_any (b : Nat) (s y : Int) (w : World) (hc : w.cell? ⟨b, 0, none⟩ = some (.int .i64 s)) (hz : w.frozen? ⟨b, 0, none⟩ = false) :
    Calls Yba.prog 11 #[.pointer (some ⟨b, 0, none⟩), .int .i64 s, .int .i64 y] w fun e w' => e = .returned (.bool true) ∧ w' = w.setCell ⟨b, 0, none⟩ (.int .i64 y) := by
  have hs := run_call_cas_hit (P := Yba.prog) Yba.func13 (by kernel_rfl) (by kernel_rfl) (by kernel_rfl) .i64 (by kernel_rfl) (y := y) hc hz
  go_enter Yba.func11, Yba.ntmps11
  go_wp2
  go_ret
  exact ⟨rfl, rfl⟩

theorem mark_no (b : Nat) (s : Int) (w : World) (hc : w.cell? ⟨b, 0, none⟩ = some (.int .i64 s)) (h6 : (bits .and .i64 s 6 == 2) = false) :
    Calls Yba.prog 7 #[.pointer (some ⟨b, 0, none⟩)] w fun e w' => e = .returned (.bool false) ∧ w = w' := by
  go_enter Yba.func7, Yba.ntmps7
  go_wp2_with fail
  refine wp_loop_rounds 1 ?_
  rw [rounds_succ]
  go_wp2_with (first | (go_at_call 8; refine (load_any b s _ hc).mono ?_; rintro e w1 ⟨rfl, rfl⟩) | (go_at_call 10; go_in))
  go_ret
  exact ⟨rfl, rfl⟩

theorem mark_set (b : Nat) (s : Int) (w : World) (hc : w.cell? ⟨b, 0, none⟩ = some (.int .i64 s)) (h6 : (bits .and .i64 s 6 == 2) = true) (h8 : (bits .and .i64 s 8 != 0) = true) :
    Calls Yba.prog 7 #[.pointer (some ⟨b, 0, none⟩)] w fun e w' => e = .returned (.bool true) ∧ w = w' := by
  go_enter Yba.func7, Yba.ntmps7
  go_wp2_with fail
  refine wp_loop_rounds 1 ?_
  rw [rounds_succ]
  go_wp2_with (first | (go_at_call 8; refine (load_any b s _ hc).mono ?_; rintro e w1 ⟨rfl, rfl⟩) | (go_at_call 10; go_in))
  go_ret
  exact ⟨rfl, rfl⟩

theorem mark_cas (b : Nat) (s : Int) (w : World) (hc : w.cell? ⟨b, 0, none⟩ = some (.int .i64 s)) (hz : w.frozen? ⟨b, 0, none⟩ = false) (h6 : (bits .and .i64 s 6 == 2) = true) (h8 : (bits .and .i64 s 8 != 0) = false) :
    Calls Yba.prog 7 #[.pointer (some ⟨b, 0, none⟩)] w fun e w' => e = .returned (.bool true) ∧ w' = w.setCell ⟨b, 0, none⟩ (.int .i64 (bits .or .i64 s 8)) := by
  go_enter Yba.func7, Yba.ntmps7
  go_wp2_with fail
  refine wp_loop_rounds 1 ?_
  rw [rounds_succ]
  go_wp2_with (first | (go_at_call 8; refine (load_any b s _ hc).mono ?_; rintro e w1 ⟨rfl, rfl⟩) | (go_at_call 10; go_in) | (go_at_call 11; refine (cas_any b s _ _ hc hz).mono ?_; rintro e w1 ⟨rfl, rfl⟩))
  go_ret
  exact ⟨rfl, rfl⟩

/-- the zero RWMutex -/
theorem zero69 : ∃ zc : Array Value, (∀ W, (zeroValue 69).run Yba.prog W = .ok (.agg zc) W) ∧ zc[0]? = some (.int .i64 0) :=
  ⟨match (Yba.prog.info? 69).bind (·.zero) with | some (.agg c) => c | _ => #[], fun W => by kernel_rfl, by kernel_rfl⟩

end Go.Proofs.Ybulkajq
