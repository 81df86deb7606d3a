/-
  Seat b0058aD: the contracts of isBareByte (11), isNameByte (8) at the law's table's bytes, of HasPrefix (10, 7).
-/
import Derived.Test.YbulkaegDoorRows
import Derived.Test.YbulkaegDoorPlain
import Derived.WalkKit
import Derived.WalkLawsBesides
namespace Go.Proofs.YbulkaegDoor
open Go.RowKit

theorem hidI {p : Prop} (h : p) : Hid p := h

set_option maxHeartbeats 4000000 in
theorem nameByte_any (c : Int) (q : Bool) (w : World) (hc : c ∈ Pl.tbl) :
    Calls Ybad.prog 8 #[.int .u8 c, .bool q] w fun e w' => e = .returned (.bool (Pl.okB q c)) ∧ w' = w := by
  rcases Pl.mem_tbl hc with rfl | rfl | rfl | rfl | rfl | rfl | rfl | rfl | rfl | rfl | rfl | rfl | rfl | rfl <;> cases q
  all_goals
    go_enter Ybad.func8, Ybad.ntmps8
    go_wp2
    go_ret
    exact ⟨rfl, rfl⟩

theorem ret_bool {a b : Bool} (h : a = b) : Ending.returned (.bool a) = .returned (.bool b) := by rw [h]

theorem prefix_eq (s p : ByteArray) : ((s.extract 0 p.size).toList == p.toList) = p.data.toList.isPrefixOf s.data.toList := by
  rw [ByteArray.toList_eq, ByteArray.toList_eq, Bool.eq_iff_iff, List.isPrefixOf_iff_prefix, beq_iff_eq, List.prefix_iff_eq_take]
  have e : (s.extract 0 p.size).data.toList = s.data.toList.take p.data.toList.length := by
    rw [ByteArray.data_extract, Array.toList_extract, List.extract_eq_take_drop]
    simp
  rw [e]
  exact ⟨fun h => h.symm, fun h => h.symm⟩

theorem prefix_short (s p : ByteArray) (h : ¬ p.size ≤ s.size) : p.data.toList.isPrefixOf s.data.toList = false := by
  rw [Bool.eq_false_iff, ne_eq, List.isPrefixOf_iff_prefix]
  intro h'
  have := h'.length_le
  simp at this
  exact h this

theorem prefix_any (s p : ByteArray) (w : World) :
    Calls Ybad.prog 7 #[.string s, .string p] w fun e w' => e = .returned (.bool (p.data.toList.isPrefixOf s.data.toList)) ∧ w' = w := by
  by_cases h : p.size ≤ s.size
  · have HE := hidI (prefix_eq s p)
    go_enter Ybad.func7, Ybad.ntmps7
    go_wp2
    go_ret
    exact ⟨ret_bool HE.out, rfl⟩
  · have HE := hidI (prefix_short s p h)
    go_enter Ybad.func7, Ybad.ntmps7
    go_wp2
    go_ret
    exact ⟨ret_bool HE.out.symm, rfl⟩

end Go.Proofs.YbulkaegDoor
