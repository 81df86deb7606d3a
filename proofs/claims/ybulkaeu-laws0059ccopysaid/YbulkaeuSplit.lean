/-
  Seat b0059a: splitBroadcast (9) at the law's message.
-/
import Derived.Test.YbulkaeuKit
import Derived.RegionTactic
namespace Go.Proofs.Ybulkaeu
open Go.RowKit

set_option maxRecDepth 100000 in
set_option maxHeartbeats 1600000 in
theorem split_any (w : World) : Calls Yba.prog 9 #[.agg #[.int .i32 7, .int .u8 0, .int .i32 0, .int .u64 3, .string ⟨#[]⟩]] w fun e w' =>
    e = .returned (.tuple #[.int .i32 7, .agg #[.int .u8 0, .int .i32 0, .int .u64 3, .string ⟨#[]⟩]]) ∧ Below w.heap.size w w' := by
  go_enter Yba.func9, Yba.ntmps9
  go_wp2
  go_region
  all_goals
    go_wp2
    refine bodyPost_ret (v := .tuple #[.int .i32 7, .agg #[.int .u8 0, .int .i32 0, .int .u64 3, .string ⟨#[]⟩]]) (by simp [results, Yba.results9, go_sem]) rfl ⟨rfl, ?_⟩
    exact (((Below.refl _ _).alloc (Nat.le_refl _) _).alloc (by simp) _).drew

end Go.Proofs.Ybulkaeu
