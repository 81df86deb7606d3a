/-
  Seat b0065aF: the names of the B laws: the five wires, their lower forms; contracts of wire (27), unpack (33), Unpack (31), name (18).
-/
import Derived.Test.YbulkaiaFmtRows
import Derived.WalkKit
import Derived.WalkLawsBesides
import Derived.RegionTactic
import Derived.Laws.IdiomStrings
namespace Go.Proofs.YbulkaiaFmt
open Go.RowKit

theorem hidI {p : Prop} (h : p) : Hid p := h

/-- the five wires; 5: the zero name -/
def Pl.nm : Nat → List UInt8
  | 0 => [1, 97, 0]
  | 1 => [1, 65, 0]
  | 2 => [1, 98, 0]
  | 3 => [2, 99, 67, 0]
  | 4 => [0]
  | _ => []
def bytesA (l : List UInt8) : Array Value := (l.map fun c => Value.int .u8 (c.toNat : Int)).toArray
abbrev nmS (j : Nat) : Value := .string ⟨(Pl.nm j).toArray⟩

set_option maxRecDepth 100000 in
set_option maxHeartbeats 1600000 in
theorem wire_any (k : Int) (r : Nat) (h0 : 0 ≤ k) (h1 : k ≤ 255) (hr : k % 5 = (r : Int)) (w : World) :
    Calls Ybaf.prog 27 #[.int .i64 k] w fun e w' => e = .returned (.slice (some ⟨w.heap.size, 0, none⟩) (Pl.nm r).length (Pl.nm r).length) ∧ w' = w.alloc (.cells (bytesA (Pl.nm r)) 5) := by
  rcases (show r = 0 ∨ r = 1 ∨ r = 2 ∨ r = 3 ∨ r = 4 by omega) with rfl | rfl | rfl | rfl | rfl
  all_goals
    go_enter Ybaf.func27, Ybaf.ntmps27
    go_wp2
    go_ret
    exact ⟨rfl, rfl⟩

end Go.Proofs.YbulkaiaFmt
