/-
  Seat b0059a: the walk of LawS0059CCopy (5), up to the switch; the rest by its tails.
-/
import Derived.Test.YbulkaeuCopyTailA
namespace Go.Proofs.Ybulkaeu
open Go.RowKit

set_option maxRecDepth 100000 in
set_option maxHeartbeats 12800000 in
theorem core (bb oo : Nat) (a0 : Option Addr) (n cap0 : Nat) (zs : List Int) (a1 : Option Addr) (m cap1 : Nat) (xsM : List Value) (tag ol : Int) (w : World)
    (HI : Hid (Inp bb oo a0 n zs a1 m cap1 xsM w)) (ht0 : 0 ≤ tag) (ht1 : tag ≤ 255) (ho0 : 0 ≤ ol) (ho1 : ol ≤ 255) :
    Calls Yba.prog 5 #[.slice a0 n cap0, .slice a1 m cap1, .int .u8 tag, .int .u8 ol] w fun e w' => e = .returned (.bool true) ∧ Below w.heap.size w w' := by
  have hn := HI.out.hn
  have hm := HI.out.hm
  obtain ⟨i40, hi40, hz40, hs40, hb40⟩ := info_parts Yba.info40
  obtain ⟨i21, hi21, hz21, hs21, hb21⟩ := info_parts Yba.info21
  obtain ⟨i86, hi86, hz86, hs86, hb86⟩ := info_parts Yba.info86z
  have hmk24 := fun W => run_make (P := Yba.prog) W 24 40 i40 (.pointer none) Yba.underlying24 hi40 hz40 .i64 .i64 (n : Int) (n : Int) (by omega) (by omega) (by rw [hb40]; omega) (by omega)
  go_enter Yba.func5, Yba.ntmps5
  go_wp2_with fail
  generalize hW : (((w.alloc (Obj.cells #[Value.int IntKind.i32 0, Value.slice none 0 0, Value.slice none 0 0, Value.slice none 0 0] 44)).alloc (Obj.cells #[Value.int IntKind.i32 0, Value.slice none 0 0, Value.slice none 0 0, Value.slice none 0 0] 44)).alloc
    (Obj.cells #[Value.pointer (some { block := w.heap.size, off := 0 }), Value.pointer (some { block := w.heap.size + 1, off := 0 }), Value.pointer none] 45)).alloc (Obj.cells (madeCells #[Value.pointer none] n) 40) = W4
  obtain ⟨hs4, hb4, hp4, hr4⟩ := four hW
  rw [show w.heap.size + 1 + 1 + 1 = w.heap.size + 3 from rfl, show w.heap.size + 1 + 1 = w.heap.size + 2 from rfl]
  have HB4 := hidI hb4
  have HP4 := hidI hp4
  have HL1 : Hid (L1 w.heap.size n zs 0 W4 W4) := hidI ⟨hs4, Below.refl _ _, _, hr4, size_madeCells _ _, fun j hj => by omega⟩
  clear hW hb4 hp4 hr4 hmk24
  go_loopw [46] (fun i wr => ∃ k : Nat, k ≤ n ∧ i = .int .i64 k ∧ L1 w.heap.size n zs k W4 wr) (fun i _ => n - (intOf i).toNat)
  case atStart => exact ⟨0, by omega, rfl, HL1.out⟩
  case round =>
    clear HL1
    obtain ⟨k, hk, rfl, hL⟩ := hrel
    have HL := hidI hL
    have hsr := hL.size
    by_cases hlt : k < n
    · obtain rfl := HI.out.ha0 (by omega)
      have hck : wr.cell? ⟨bb, oo + k, none⟩ = some (.int .u8 (zs.getD k 0)) := by
        have h1 := HI.out.hc0 k hlt
        have h2 := World.block_lt_of_cell? w _ h1
        rw [hL.bel.cell (by simp at h2 ⊢; omega), HB4.out.cell h2]; exact h1
      obtain ⟨z, hz⟩ : ∃ z, z = zs.getD k 0 := ⟨_, rfl⟩
      have hpc : wr.cell? ⟨w.heap.size + 2, (z % 3).toNat, none⟩ = some (.pointer (po w.heap.size z)) := by
        rw [hL.bel.cell (by simp), cell_of_row W4 _ _ _ _ _ HP4.out]
        exact pool_cell _ _
      have hz2 := HI.out.hz0 k
      have HN := hidI (hL.next hlt)
      rw [← hz] at hck hz2 HN
      obtain ⟨hz0, hz255⟩ := hz2
      have HZ := hidI hz
      obtain ⟨v3, hv3⟩ := hL.cell hlt
      have hf3 := hL.free k
      have hrp := run_pool (w.heap.size + 2) (z % 3) (by omega) (by omega)
      clear hz hL
      go_wp2_with fail
      go_roundw
      case rel => exact ⟨k + 1, by omega, by go_num, HN.out⟩
      case measure => simp [intOf]; omega
    · obtain rfl : k = n := by omega
      clear hL
      have hmk62 := fun W => run_make (P := Yba.prog) W 62 86 i86 _ Yba.underlying62 hi86 hz86 .i64 .i64 ((k : Int) % 3) ((k : Int) % 3) (by omega) (by omega) (by rw [hb86]; omega) (by omega)
      go_upto_block 2 with fail
      rw [show w.heap.size + 4 + 1 + 1 + 1 = w.heap.size + 7 from rfl, show w.heap.size + 4 + 1 + 1 = w.heap.size + 6 from rfl, show w.heap.size + 4 + 1 = w.heap.size + 5 from rfl]
      generalize hW8 : (((wr.alloc _).alloc _).alloc _).alloc _ = W8
      have HF := hidI (F8.of HB4.out HP4.out HL.out hW8)
      have hs8 := HF.out.size
      clear hW8 HL hmk62
      go_cut [17, 18] from 75 to 108 (fun into old wc => Into8 (w.heap.size + 8) W8 into old wc)
      case first =>
        have hw8 : (IntKind.i64.wrap ol).tmod 8 = ol % 8 := wrap_tmod ho0 ho1 8
        have hw5 : (IntKind.i64.wrap ol).tmod 5 = ol % 5 := wrap_tmod ho0 ho1 5
        have hw6 : (IntKind.i64.wrap ol).tmod 6 = ol % 6 := wrap_tmod ho0 ho1 6
        have hw1 : IntKind.i64.wrap (1 + ol % 5) = 1 + ol % 5 := by rw [IntKind.wrap_i64]; omega
        have hmkA := fun W => run_make (P := Yba.prog) W 24 40 i40 (.pointer none) Yba.underlying24 hi40 hz40 .i64 .i64 (ol % 8) (ol % 8) (by omega) (by omega) (by rw [hb40]; omega) (by omega)
        have hmkB := fun W => run_make (P := Yba.prog) W 62 86 i86 _ Yba.underlying62 hi86 hz86 .i64 .i64 (1 + ol % 5) (1 + ol % 5) (by omega) (by omega) (by rw [hb86]; omega) (by omega)
        have hmkM := fun W => run_make (P := Yba.prog) W 39 21 i21 (.int .i32 0) Yba.underlying39 hi21 hz21 .i64 .i64 (ol % 6) 8 (by omega) (by omega) (by rw [hb21]; omega) (by omega)
        go_wp2_with fail
        · go_meet
          case rel => exact ⟨Below.refl _ _, Or.inl ⟨rfl, Or.inl rfl⟩⟩
        · go_region
          all_goals
            go_wp2
            go_meet
            case rel => first | exact into5 hs8 0 1 rfl rfl rfl rfl rfl (size_madeCells _ _) (size_madeCells _ _) (by unfold maxLen; omega) | exact into5 hs8 0 2 rfl rfl rfl rfl rfl (size_madeCells _ _) (size_madeCells _ _) (by unfold maxLen; omega) | exact into5 hs8 0 3 rfl rfl rfl rfl rfl (size_madeCells _ _) (size_madeCells _ _) (by unfold maxLen; omega) | exact into5 hs8 1 0 rfl rfl rfl rfl rfl (size_madeCells _ _) (size_madeCells _ _) (by unfold maxLen; omega) | exact into5 hs8 1 2 rfl rfl rfl rfl rfl (size_madeCells _ _) (size_madeCells _ _) (by unfold maxLen; omega) | exact into5 hs8 1 3 rfl rfl rfl rfl rfl (size_madeCells _ _) (size_madeCells _ _) (by unfold maxLen; omega) | exact into5 hs8 2 0 rfl rfl rfl rfl rfl (size_madeCells _ _) (size_madeCells _ _) (by unfold maxLen; omega) | exact into5 hs8 2 1 rfl rfl rfl rfl rfl (size_madeCells _ _) (size_madeCells _ _) (by unfold maxLen; omega) | exact into5 hs8 2 3 rfl rfl rfl rfl rfl (size_madeCells _ _) (size_madeCells _ _) (by unfold maxLen; omega) | exact into5 hs8 3 0 rfl rfl rfl rfl rfl (size_madeCells _ _) (size_madeCells _ _) (by unfold maxLen; omega) | exact into5 hs8 3 1 rfl rfl rfl rfl rfl (size_madeCells _ _) (size_madeCells _ _) (by unfold maxLen; omega) | exact into5 hs8 3 2 rfl rfl rfl rfl rfl (size_madeCells _ _) (size_madeCells _ _) (by unfold maxLen; omega)
        · go_meet
          case rel => exact ⟨(Below.refl _ _).alloc (Nat.le_of_eq hs8.symm) _, Or.inl ⟨rfl, Or.inr ⟨_, Or.inl rfl⟩⟩⟩
        · go_meet
          case rel => exact ⟨(Below.refl _ _).alloc (Nat.le_of_eq hs8.symm) _, Or.inl ⟨rfl, Or.inr ⟨_, Or.inr rfl⟩⟩⟩
      case rest =>
        go_step
        exact tail25 HI HF.out hcut

end Go.Proofs.Ybulkaeu
