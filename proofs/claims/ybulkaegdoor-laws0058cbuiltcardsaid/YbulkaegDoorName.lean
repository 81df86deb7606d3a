/-
  Seat b0058aD: the contract of isName (5) at a mark (or none) and a body of the law's table's bytes.
-/
import Derived.Test.YbulkaegDoorBytes
namespace Go.Proofs.YbulkaegDoor
open Go.RowKit

def Pl.nameOk (q : Bool) (l : List UInt8) : Bool := !l.isEmpty && l.all fun c => Pl.okB q (c.toNat : Int)

theorem prefix_no (name : ByteArray) (k : Nat) (w : World) (h : (Pl.mk k).isPrefixOf name.data.toList = false) :
    Calls Ybad.prog 7 #[.string name, .string ⟨(Pl.mk k).toArray⟩] w fun e w' => e = .returned (.bool false) ∧ w' = w :=
  (prefix_any _ _ _).mono fun _ _ h' => ⟨h'.1.trans (ret_bool h), h'.2⟩
theorem prefix_yes (name : ByteArray) (k : Nat) (w : World) (h : (Pl.mk k).isPrefixOf name.data.toList = true) :
    Calls Ybad.prog 7 #[.string name, .string ⟨(Pl.mk k).toArray⟩] w fun e w' => e = .returned (.bool true) ∧ w' = w :=
  (prefix_any _ _ _).mono fun _ _ h' => ⟨h'.1.trans (ret_bool h), h'.2⟩

theorem Pl.take_snoc (s : ByteArray) (k : Nat) (h : k < s.size) : s.data.toList.take (k + 1) = s.data.toList.take k ++ [s[k]] := by
  rw [List.take_succ_eq_append_getElem (by simpa using h)]; rfl

theorem all_snoc (q : Bool) (s : ByteArray) (k : Nat) (h : k < s.size) (ha : (s.data.toList.take k).all (fun c => Pl.okB q (c.toNat : Int)) = true) (hb : Pl.okB q (s[k].toNat : Int) = true) : (s.data.toList.take (k + 1)).all (fun c => Pl.okB q (c.toNat : Int)) = true := by
  rw [Pl.take_snoc s k h, List.all_append, ha]; simp [hb]

theorem not_all (q : Bool) (s : ByteArray) (k : Nat) (h : k < s.size) (hb : Pl.okB q (s[k].toNat : Int) = false) : Pl.nameOk q s.data.toList = false := by
  have hm : s[k] ∈ s.data.toList := by
    show s.data[k] ∈ s.data.toList
    simp
  unfold Pl.nameOk
  rw [Bool.and_eq_false_iff]
  right
  rw [List.all_eq_false]
  exact ⟨s[k], hm, by simp [hb]⟩

theorem empty_no (q : Bool) (B : ByteArray) (h : B.toList.isEmpty = true) : Pl.nameOk q B.data.toList = false := by
  rw [ByteArray.toList_eq] at h
  simp [Pl.nameOk, h]
theorem mem_at {B : ByteArray} (h : Pl.inTbl B.data.toList) (k : Nat) (hk : k < B.size) : (B[k].toNat : Int) ∈ Pl.tbl :=
  h _ (by show B.data[k] ∈ B.data.toList; simp)
theorem all_yes (q : Bool) (B : ByteArray) (k : Nat) (he : B.toList.isEmpty = false) (hk : B.size ≤ k) (h : (B.data.toList.take k).all (fun c => Pl.okB q (c.toNat : Int)) = true) : Pl.nameOk q B.data.toList = true := by
  rw [List.take_of_length_le (by simpa using hk)] at h
  rw [ByteArray.toList_eq] at he
  unfold Pl.nameOk
  rw [h, he]; rfl

set_option maxHeartbeats 800000 in
theorem isName_any (name : ByteArray) (q : Bool) (K : Nat) (B : ByteArray) (b off cap : Nat) (w : World)
    (hg : w.cell? ⟨0, 0, none⟩ = some (.slice (some ⟨b, off, none⟩) 5 cap))
    (hm : ∀ k, k < 5 → w.cell? ⟨b, off + k, none⟩ = some (.string ⟨(Pl.mk k).toArray⟩))
    (hsz : name.size ≤ 100000) (hsB : B.size ≤ 100000)
    (hK : K ≤ 5) (hno : ∀ k, k < K → (Pl.mk k).isPrefixOf name.data.toList = false)
    (hyes : K < 5 → (Pl.mk K).isPrefixOf name.data.toList = true ∧ (Pl.mk K).length ≤ name.size ∧ name.extract (Pl.mk K).length name.size = B) (hall : K = 5 → name = B)
    (hB : Pl.inTbl B.data.toList) :
    Calls Ybad.prog 5 #[.string name, .bool q] w fun e w' => e = .returned (.bool (Pl.nameOk q B.data.toList)) ∧ w' = w := by
  have HM := hidI hm
  have HNO := hidI hno
  have HY := hidI hyes
  have HA := hidI hall
  have HB := hidI hB
  clear hm hno hyes hall hB
  go_enter Ybad.func5, Ybad.ntmps5
  go_wp2
  go_loop [5, 12] (fun s i => ∃ k : Nat, k ≤ K ∧ i = .int .i64 k ∧ s = .string name) (fun _ i => 5 - (intOf i).toNat)
  case atStart => exact ⟨0, Nat.zero_le _, rfl, rfl⟩
  case round =>
    obtain ⟨k, hk, rfl, rfl⟩ := hrel
    by_cases hlt : k < K
    · have hck := HM.out k (by omega)
      go_wp2_with (go_at_call 7; refine (prefix_no _ _ _ (HNO.out k hlt)).mono ?_; rintro e w1 ⟨rfl, rfl⟩)
      go_round
      case rel => exact ⟨k + 1, by omega, by go_num, rfl⟩
      case measure => simp [intOf]; omega
    · obtain rfl : k = K := by omega
      by_cases h5 : k < 5
      · obtain ⟨hp, hle, hx⟩ := HY.out h5
        have hck := HM.out k h5
        clear HY HA HNO HM
        by_cases he : B.toList.isEmpty = true
        · have HE := hidI (empty_no q B he)
          go_wp2_with (go_at_call 7; refine (prefix_yes _ _ _ hp).mono ?_; rintro e w1 ⟨rfl, rfl⟩)
          go_ret
          exact ⟨ret_bool HE.out.symm, rfl⟩
        · rw [Bool.not_eq_true] at he
          go_wp2_with (go_at_call 7; refine (prefix_yes _ _ _ hp).mono ?_; rintro e w1 ⟨rfl, rfl⟩)
          go_loop [8] (fun i => ∃ k : Nat, k ≤ B.size ∧ i = .int .i64 k ∧ Hid ((B.data.toList.take k).all (fun c => Pl.okB q (c.toNat : Int)) = true)) (fun i => B.size - (intOf i).toNat)
          case atStart => exact ⟨0, Nat.zero_le _, rfl, hidI rfl⟩
          case round =>
            obtain ⟨j, hj, rfl, HJ⟩ := hrel
            by_cases hjl : j < B.size
            · have hmem := mem_at HB.out j hjl
              by_cases ho : Pl.okB q (B[j].toNat : Int) = true
              · have HN := hidI (all_snoc q B j hjl HJ.out ho)
                go_wp2_with (go_at_call 8; refine (nameByte_any _ _ _ hmem).mono ?_; rintro e w1 ⟨rfl, rfl⟩; rw [ho])
                go_round
                case rel => exact ⟨j + 1, by omega, by go_num, HN⟩
                case measure => simp [intOf]; omega
              · rw [Bool.not_eq_true] at ho
                have HN := hidI (not_all q B j hjl ho)
                go_wp2_with (go_at_call 8; refine (nameByte_any _ _ _ hmem).mono ?_; rintro e w1 ⟨rfl, rfl⟩; rw [ho])
                go_ret
                exact ⟨ret_bool HN.out.symm, rfl⟩
            · have HN := hidI (all_yes q B j he (by omega) HJ.out)
              go_wp2
              go_ret
              exact ⟨ret_bool HN.out.symm, rfl⟩
      · obtain rfl := HA.out (by omega)
        clear HY HA HNO HM
        by_cases he : name.toList.isEmpty = true
        · have HE := hidI (empty_no q name he)
          go_wp2_with fail
          go_ret
          exact ⟨ret_bool HE.out.symm, rfl⟩
        · rw [Bool.not_eq_true] at he
          go_wp2_with fail
          go_loop [8] (fun i => ∃ k : Nat, k ≤ name.size ∧ i = .int .i64 k ∧ Hid ((name.data.toList.take k).all (fun c => Pl.okB q (c.toNat : Int)) = true)) (fun i => name.size - (intOf i).toNat)
          case atStart => exact ⟨0, Nat.zero_le _, rfl, hidI rfl⟩
          case round =>
            obtain ⟨j, hj, rfl, HJ⟩ := hrel
            by_cases hjl : j < name.size
            · have hmem := mem_at HB.out j hjl
              by_cases ho : Pl.okB q (name[j].toNat : Int) = true
              · have HN := hidI (all_snoc q name j hjl HJ.out ho)
                go_wp2_with (go_at_call 8; refine (nameByte_any _ _ _ hmem).mono ?_; rintro e w1 ⟨rfl, rfl⟩; rw [ho])
                go_round
                case rel => exact ⟨j + 1, by omega, by go_num, HN⟩
                case measure => simp [intOf]; omega
              · rw [Bool.not_eq_true] at ho
                have HN := hidI (not_all q name j hjl ho)
                go_wp2_with (go_at_call 8; refine (nameByte_any _ _ _ hmem).mono ?_; rintro e w1 ⟨rfl, rfl⟩; rw [ho])
                go_ret
                exact ⟨ret_bool HN.out.symm, rfl⟩
            · have HN := hidI (all_yes q name j he (by omega) HJ.out)
              go_wp2
              go_ret
              exact ⟨ret_bool HN.out.symm, rfl⟩

end Go.Proofs.YbulkaegDoor
