/-
  Seat b0058a: the contracts of skipString (6) and zzs0058bmodel (7): both compute 'scan false' of the bytes behind the first.
-/
import Derived.Test.YbulkaegRows
import Derived.Test.YbulkaegPlain
import Derived.WalkKit
import Derived.WalkLawsBesides
namespace Go.Proofs.Ybulkaeg
open Go.RowKit

theorem hidI {p : Prop} (h : p) : Hid p := h

def Pl.str : Option (List UInt8) → ByteArray
  | some r => ⟨r.toArray⟩
  | .none => ⟨#[]⟩

/-- what both functions look for -/
def Pl.rest (s : ByteArray) : Option (List UInt8) := Pl.scan false (s.data.toList.drop 1)
def Pl.tailAt (b : Bool) (s : ByteArray) (k : Nat) : Option (List UInt8) := Pl.scan b (s.data.toList.drop k)

theorem Pl.drop_cons (s : ByteArray) (k : Nat) (h : k < s.size) : s.data.toList.drop k = s[k] :: s.data.toList.drop (k + 1) := by
  rw [List.drop_eq_getElem_cons (by simpa using h)]; rfl

theorem Pl.extract_drop (s : ByteArray) (k : Nat) : s.extract k s.size = ⟨(s.data.toList.drop k).toArray⟩ := by
  apply ByteArray.ext
  rw [ByteArray.data_extract]
  apply Array.toList_inj.mp
  show (s.data.extract k s.data.size).toList = _
  rw [Array.toList_extract, List.extract_eq_take_drop, List.take_of_length_le (by simp)]

theorem Pl.scan_end (b : Bool) (s : ByteArray) (k : Nat) (h : s.size ≤ k) : Pl.tailAt b s k = .none := by
  unfold Pl.tailAt
  rw [List.drop_of_length_le (by simpa using h)]; cases b <;> rfl

theorem Pl.scan_bs (s : ByteArray) (k : Nat) (h : k < s.size) (h92 : s[k].toNat = 92) : Pl.tailAt false s k = Pl.tailAt true s (k + 1) := by
  unfold Pl.tailAt
  rw [Pl.drop_cons s k h]; simp [Pl.scan, h92]

theorem Pl.scan_esc1 (s : ByteArray) (k : Nat) : Pl.tailAt true s k = Pl.tailAt false s (k + 1) := by
  by_cases h : k < s.size
  · unfold Pl.tailAt; rw [Pl.drop_cons s k h]; simp [Pl.scan]
  · rw [Pl.scan_end _ _ _ (by omega), Pl.scan_end _ _ _ (by omega)]

theorem Pl.scan_q (s : ByteArray) (k : Nat) (h : k < s.size) (h34 : s[k].toNat = 34) : Pl.tailAt false s k = some (s.data.toList.drop (k + 1)) := by
  unfold Pl.tailAt
  rw [Pl.drop_cons s k h]; simp [Pl.scan, h34]

theorem Pl.scan_o (s : ByteArray) (k : Nat) (h : k < s.size) (h92 : ¬ s[k].toNat = 92) (h34 : ¬ s[k].toNat = 34) : Pl.tailAt false s k = Pl.tailAt false s (k + 1) := by
  unfold Pl.tailAt
  rw [Pl.drop_cons s k h]; simp [Pl.scan, h34, h92]

theorem ret_str {b c : ByteArray} {x y : Bool} (h : b = c) (hx : x = y) : Ending.returned (.tuple #[.string b, .bool x]) = .returned (.tuple #[.string c, .bool y]) := by rw [h, hx]

set_option maxHeartbeats 400000 in
theorem skip_any (s : ByteArray) (w : World) (hs : s.size ≤ 1000000) :
    Calls Yba.prog 6 #[.string s] w fun e w' => e = .returned (.tuple #[.string (Pl.str (Pl.rest s)), .bool (Pl.rest s).isSome]) ∧ w' = w := by
  go_enter Yba.func6, Yba.ntmps6
  go_wp2
  go_loop [4] (fun i => ∃ k : Nat, k ≤ s.size + 1 ∧ i = .int .i64 k ∧ Hid (Pl.rest s = Pl.tailAt false s k)) (fun i => s.size + 1 - (intOf i).toNat)
  case atStart => exact ⟨1, by omega, rfl, hidI rfl⟩
  case round =>
    obtain ⟨k, hk, rfl, HS⟩ := hrel
    by_cases hlt : k < s.size
    · by_cases h92 : s[k].toNat = 92
      · have HX : Hid (Pl.rest s = Pl.tailAt false s (k + 2)) := hidI (by rw [HS.out, Pl.scan_bs s k hlt h92, Pl.scan_esc1])
        go_wp2
        go_round
        case rel => exact ⟨k + 2, by omega, by go_num, HX⟩
        case measure => simp [intOf]; omega
      · by_cases h34 : s[k].toNat = 34
        · have HX : Hid (Pl.rest s = some (s.data.toList.drop (k + 1))) := hidI (by rw [HS.out, Pl.scan_q s k hlt h34])
          go_wp2
          go_ret2
          exact ⟨ret_str (by rw [HX.out, Pl.extract_drop]; rfl) (by rw [HX.out]; rfl), rfl⟩
        · have HX : Hid (Pl.rest s = Pl.tailAt false s (k + 1)) := hidI (by rw [HS.out, Pl.scan_o s k hlt h92 h34])
          go_wp2
          go_round
          case rel => exact ⟨k + 1, by omega, by go_num, HX⟩
          case measure => simp [intOf]; omega
    · have HX : Hid (Pl.rest s = .none) := hidI (by rw [HS.out, Pl.scan_end _ _ _ (by omega)])
      go_wp2
      go_ret2
      exact ⟨ret_str (by rw [HX.out]; rfl) (by rw [HX.out]; rfl), rfl⟩

set_option maxHeartbeats 400000 in
theorem model_any (s : ByteArray) (w : World) (hs : s.size ≤ 1000000) :
    Calls Yba.prog 7 #[.string s] w fun e w' => e = .returned (.tuple #[.string (Pl.str (Pl.rest s)), .bool (Pl.rest s).isSome]) ∧ w' = w := by
  go_enter Yba.func7, Yba.ntmps7
  go_wp2
  go_loop [4, 5] (fun e i => ∃ (k : Nat) (b : Bool), k ≤ s.size + 1 ∧ e = .bool b ∧ i = .int .i64 k ∧ Hid (Pl.rest s = Pl.tailAt b s k)) (fun _ i => s.size + 1 - (intOf i).toNat)
  case atStart => exact ⟨1, false, by omega, rfl, rfl, hidI rfl⟩
  case round =>
    obtain ⟨k, b, hk, rfl, rfl, HS⟩ := hrel
    by_cases hlt : k < s.size
    · cases b
      · by_cases h92 : s[k].toNat = 92
        · have HX : Hid (Pl.rest s = Pl.tailAt true s (k + 1)) := hidI (by rw [HS.out, Pl.scan_bs s k hlt h92])
          go_wp2
          go_round
          case rel => exact ⟨k + 1, true, by omega, rfl, by go_num, HX⟩
          case measure => simp [intOf]; omega
        · by_cases h34 : s[k].toNat = 34
          · have HX : Hid (Pl.rest s = some (s.data.toList.drop (k + 1))) := hidI (by rw [HS.out, Pl.scan_q s k hlt h34])
            go_wp2
            go_ret2
            exact ⟨ret_str (by rw [HX.out, Pl.extract_drop]; rfl) (by rw [HX.out]; rfl), rfl⟩
          · have HX : Hid (Pl.rest s = Pl.tailAt false s (k + 1)) := hidI (by rw [HS.out, Pl.scan_o s k hlt h92 h34])
            go_wp2
            go_round
            case rel => exact ⟨k + 1, false, by omega, rfl, by go_num, HX⟩
            case measure => simp [intOf]; omega
      · have HX : Hid (Pl.rest s = Pl.tailAt false s (k + 1)) := hidI (by rw [HS.out, Pl.scan_esc1])
        go_wp2
        go_round
        case rel => exact ⟨k + 1, false, by omega, rfl, by go_num, HX⟩
        case measure => simp [intOf]; omega
    · have HX : Hid (Pl.rest s = .none) := hidI (by rw [HS.out, Pl.scan_end _ _ _ (by omega)])
      go_wp2
      go_ret2
      exact ⟨ret_str (by rw [HX.out]; rfl) (by rw [HX.out]; rfl), rfl⟩

end Go.Proofs.Ybulkaeg
