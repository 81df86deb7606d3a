/-
  Seat b0058aD: the walk of LawS0058CBuilt (4).
-/
import Derived.Test.YbulkaegDoorName
import Derived.Laws.IdiomStrings
import Derived.Deep.QuietTactic
import Derived.BigQuiet
namespace Go.Proofs.YbulkaegDoor
set_option linter.unusedSimpArgs false
open Go.RowKit

def Pl.tbl8 : List UInt8 := [97, 98, 99, 88, 89, 90, 48, 49, 57, 45, 95, 46, 47, 44]
def Pl.tb (z : Int) : UInt8 := Pl.tbl8.getD (z % 14).toNat 0
def Pl.bytes (zs : List Int) (k : Nat) : List UInt8 := (zs.take k).map Pl.tb
def Pl.want (q : Bool) (zs : List Int) (n k : Nat) : Bool := decide (0 < n) && (zs.take k).all fun z => Pl.okB q ((Pl.tb z).toNat : Int)
def bytesV (l : List UInt8) : List Value := l.map fun c => .int .u8 (c.toNat : Int)

theorem rem_cases (z : Int) : z % 14 = 0 ∨ z % 14 = 1 ∨ z % 14 = 2 ∨ z % 14 = 3 ∨ z % 14 = 4 ∨ z % 14 = 5 ∨ z % 14 = 6 ∨ z % 14 = 7 ∨ z % 14 = 8 ∨ z % 14 = 9 ∨ z % 14 = 10 ∨ z % 14 = 11 ∨ z % 14 = 12 ∨ z % 14 = 13 := by omega

theorem tb_mem (z : Int) : ((Pl.tb z).toNat : Int) ∈ Pl.tbl := by
  unfold Pl.tb
  rcases rem_cases z with h | h | h | h | h | h | h | h | h | h | h | h | h | h <;> (rw [h]; decide)

theorem run_tab (z : Int) (W : World) : (Instr.index 9 (.string ⟨#[97, 98, 99, 88, 89, 90, 48, 49, 57, 45, 95, 46, 47, 44]⟩) (.int .i64 (z % 14))).run Ybad.prog W = .ok (.int .u8 ((Pl.tb z).toNat : Int)) W := by
  unfold Pl.tb
  rcases rem_cases z with h | h | h | h | h | h | h | h | h | h | h | h | h | h <;> (rw [h]; rfl)

theorem Ybad.info5 : (Ybad.prog.info? 5).map (fun i => (i.zero, i.size, i.bytes)) = some (some (.int .u8 0), 1, 1) := by kernel_rfl

def marks : Obj := .cells #[.string ⟨#[]⟩, .string ⟨#[226, 136, 134, 126]⟩, .string ⟨#[206, 148, 126]⟩, .string ⟨#[126]⟩, .string ⟨#[226, 136, 134]⟩, .string ⟨#[206, 148]⟩] 24

theorem marks_cell (w : World) (j : Nat) (h : j < 6) : (w.alloc marks).cell? ⟨w.heap.size, j, none⟩ = some (.string ⟨(Pl.mk6 j).toArray⟩) := by
  unfold marks
  rw [World.cell?_alloc_at _ _ _ _ rfl]
  match j, h with
  | 0, _ => rfl
  | 1, _ => rfl
  | 2, _ => rfl
  | 3, _ => rfl
  | 4, _ => rfl
  | 5, _ => rfl

theorem Ybad.cells9 : Ybad.prog.cellsOf 9 = 1 := by kernel_rfl
theorem run_marks (g j : Nat) (h : j < 6) (W : World) : (Instr.indexAt 24 (.pointer (some ⟨g, 0, none⟩)) (.int .i64 (j : Int))).run Ybad.prog W = .ok (.pointer (some ⟨g, j, none⟩)) W := by
  match j, h with
  | 0, _ => rfl
  | 1, _ => rfl
  | 2, _ => rfl
  | 3, _ => rfl
  | 4, _ => rfl
  | 5, _ => rfl

theorem mk6_len (j : Nat) : (Pl.mk6 j).length ≤ 4 := by
  match j with
  | 0 => decide
  | 1 => decide
  | 2 => decide
  | 3 => decide
  | 4 => decide
  | n + 5 => exact Nat.le_of_ble_eq_true rfl

theorem take_snocZ (zs : List Int) (k : Nat) (h : k < zs.length) : zs.take (k + 1) = zs.take k ++ [zs.getD k 0] := by
  rw [List.take_succ_eq_append_getElem h]; simp [h]

theorem bytes_snoc (zs : List Int) (k : Nat) (h : k < zs.length) : bytesV (Pl.bytes zs (k + 1)) = bytesV (Pl.bytes zs k) ++ [.int .u8 ((Pl.tb (zs.getD k 0)).toNat : Int)] := by
  unfold Pl.bytes
  rw [take_snocZ zs k h]; simp [bytesV]

theorem want_yes (q : Bool) (zs : List Int) (n k : Nat) (h : k < zs.length) (ho : Pl.okB q ((Pl.tb (zs.getD k 0)).toNat : Int) = true) : Pl.want q zs n (k + 1) = Pl.want q zs n k := by
  unfold Pl.want
  rw [take_snocZ zs k h, List.all_append]
  simp only [List.all_cons, List.all_nil, ho, Bool.and_true, Bool.and_false]
theorem want_no (q : Bool) (zs : List Int) (n k : Nat) (h : k < zs.length) (ho : Pl.okB q ((Pl.tb (zs.getD k 0)).toNat : Int) = false) : Pl.want q zs n (k + 1) = false := by
  unfold Pl.want
  rw [take_snocZ zs k h, List.all_append]
  simp only [List.all_cons, List.all_nil, ho, Bool.and_true, Bool.and_false]

theorem cell_new1 (w : World) (x : Value) (t : TypeId) : ∀ j u, [x][j]? = some u → (w.alloc (.cells #[x] t)).cell? ((⟨w.heap.size, 0, none⟩ : Addr).add j) = some u := by
  intro j u hj
  match j, hj with
  | 0, hj => simp at hj; subst hj; simp [Addr.add]

theorem one_grown {w wr w1 : World} {B : Nat} {o : Obj} (hB : B ≤ w.heap.size) (hb : Below B w wr) (hg : (wr.alloc o).grownBy w1 (some B)) : Below B w w1 := by
  have := hb.size
  exact (hb.alloc (by omega) o).grown hg (by simp; omega) (fun k h => by cases h; exact Nat.le_refl _)

theorem old_cell {w wr : World} (hb : Below (w.heap.size + 1) (w.alloc marks) wr) {g i : Nat} {v : Value} (h : w.cell? ⟨g, i, none⟩ = some v) : wr.cell? ⟨g, i, none⟩ = some v := by
  have h2 := World.block_lt_of_cell? w _ h
  rw [hb.cell (by simp at h2 ⊢; omega), World.cell?_alloc_past _ _ _ h2]
  exact h

theorem fin_below {w wr : World} (hb : Below (w.heap.size + 1) (w.alloc marks) wr) (n : Nat) : Below w.heap.size w (wr.drewN n) := by
  have h : Below w.heap.size w wr := ((Below.refl _ _).alloc (Nat.le_refl _) marks).trans (hb.mono (by omega))
  exact ⟨h.os, h.tape, h.output, h.size, h.block⟩

theorem which_le (j : Nat) (h : j < 6) : Pl.which j ≤ 5 := by
  match j with
  | 0 => exact Nat.le_refl _
  | n + 1 => simp only [Pl.which]; omega
theorem bytes_in (zs : List Int) (k : Nat) : Pl.inTbl (Pl.bytes zs k) := by
  intro c hc
  obtain ⟨z, _, rfl⟩ := List.mem_map.1 hc
  exact tb_mem z
theorem extract_mk (L : List UInt8) (n : Nat) : (ByteArray.mk L.toArray).extract n (ByteArray.mk L.toArray).size = ⟨(L.drop n).toArray⟩ := by
  apply ByteArray.ext
  rw [ByteArray.data_extract]
  apply Array.toList_inj.mp
  show (L.toArray.extract n L.toArray.size).toList = _
  rw [Array.toList_extract, List.extract_eq_take_drop, List.take_of_length_le (by simp)]
theorem name_cut (j : Nat) (h : j < 6) (hw : Pl.which j < 5) (B : List UInt8) : (Pl.mk (Pl.which j)).isPrefixOf (ByteArray.mk (Pl.mk6 j ++ B).toArray).data.toList = true ∧ (Pl.mk (Pl.which j)).length ≤ (ByteArray.mk (Pl.mk6 j ++ B).toArray).size ∧
    (ByteArray.mk (Pl.mk6 j ++ B).toArray).extract (Pl.mk (Pl.which j)).length (ByteArray.mk (Pl.mk6 j ++ B).toArray).size = ⟨B.toArray⟩ := by
  match j with
  | 0 => simp [Pl.which] at hw
  | n + 1 =>
    have hy := Pl.take_yes (n + 1) (by omega) B
    refine ⟨hy.1, ?_, ?_⟩
    · simp [ByteArray.size, Pl.mk6, Pl.which]
    · rw [extract_mk, hy.2]
theorem name_bare (j : Nat) (h : j < 6) (hw : Pl.which j = 5) (B : List UInt8) : (ByteArray.mk (Pl.mk6 j ++ B).toArray) = ⟨B.toArray⟩ := by
  match j with
  | 0 => rfl
  | n + 1 => simp only [Pl.which] at hw; omega
theorem name_want (q : Bool) (zs : List Int) (k : Nat) (h : (Pl.bytes zs k).length = k) : Pl.nameOk q (ByteArray.mk (Pl.bytes zs k).toArray).data.toList = Pl.want q zs k k := by
  show Pl.nameOk q (Pl.bytes zs k) = _
  unfold Pl.nameOk Pl.want
  have e1 : (!(Pl.bytes zs k).isEmpty) = decide (0 < k) := by
    cases hb : Pl.bytes zs k with
    | nil => rw [hb] at h; simp at h; subst h; rfl
    | cons a r => rw [hb] at h; simp at h; subst h; simp
  rw [e1]
  unfold Pl.bytes
  rw [List.all_map]
  rfl

set_option maxHeartbeats 800000 in
theorem core (m : Int) (a1 : Option Addr) (len cap : Nat) (zs : List Int) (q : Bool) (b off capg bb oo : Nat) (w : World)
    (hm0 : 0 ≤ m) (hm1 : m ≤ 255) (hlen : len ≤ 1024) (hzl : len ≤ zs.length) (hzb : ∀ k, 0 ≤ zs.getD k 0 ∧ zs.getD k 0 ≤ 255)
    (ha : 0 < len → a1 = some ⟨bb, oo, none⟩) (hc : ∀ k, k < len → w.cell? ⟨bb, oo + k, none⟩ = some (.int .u8 (zs.getD k 0)))
    (hg : w.cell? ⟨0, 0, none⟩ = some (.slice (some ⟨b, off, none⟩) 5 capg))
    (hmk : ∀ k, k < 5 → w.cell? ⟨b, off + k, none⟩ = some (.string ⟨(Pl.mk k).toArray⟩)) :
    Calls Ybad.prog 4 #[.int .u8 m, .slice a1 len cap, .bool q] w fun e w' => e = .returned (.bool true) ∧ Below w.heap.size w w' := by
  obtain ⟨i0, hi, hz0, hz1, hz2⟩ := info_parts Ybad.info5
  have HC := hidI hc
  have HG := hidI hg
  have HMK := hidI hmk
  have HA := hidI ha
  have HZ := hidI hzb
  clear hc hg hmk ha hzb
  go_enter Ybad.func4, Ybad.ntmps4
  go_wp2_with (at_make; refine wpList_make_own _ rfl _ _ 23 rfl (w.heap.size + 1) 5 i0 (.int .u8 0) 1 Ybad.underlying23 hi hz0 hz1 .i64 .i64 _ len rfl rfl rfl (by rw [hz2]; omega) (by unfold maxLen; omega) (by simp) ?_; intro w1 hown hgrow)
  go_loopw [9, 10, 11] (fun v t i wr => ∃ k : Nat, k ≤ len ∧ i = .int .i64 k ∧ v = .slice (some ⟨w.heap.size + 1, 0, none⟩) k len ∧ t = .bool (Pl.want q zs len k) ∧
      wr.ownsRow (w.heap.size + 1) 5 1 (.slice (some ⟨w.heap.size + 1, 0, none⟩) k len) k (bytesV (Pl.bytes zs k)) ∧ Below (w.heap.size + 1) (w.alloc marks) wr)
    (fun _ _ i _ => len - (intOf i).toNat)
  case atStart =>
    refine ⟨0, by omega, rfl, by simp, by simp [Pl.want], by simpa [bytesV, Pl.bytes] using hown, ?_⟩
    exact (Below.refl _ _).grown hgrow (by simp [marks]) (fun _ h => by cases h)
  case round =>
    clear hown hgrow
    obtain ⟨k, hk, rfl, rfl, rfl, hown, hb⟩ := hrel
    have hsz := hb.size
    by_cases hlt : k < len
    · obtain rfl := HA.out (by omega)
      have hck : wr.cell? ⟨bb, oo + k, none⟩ = some (.int .u8 (zs.getD k 0)) := by
        have h1 := HC.out k hlt
        have h2 := World.block_lt_of_cell? w _ h1
        rw [hb.cell (by simp at h2 ⊢; omega), World.cell?_alloc_past _ _ _ h2]
        exact h1
      obtain ⟨z, hz⟩ : ∃ z, z = zs.getD k 0 := ⟨_, rfl⟩
      have hzz := HZ.out k
      have HB := hidI (bytes_snoc zs k (by omega))
      have hmem := tb_mem (zs.getD k 0)
      rw [← hz] at hck hzz HB hmem
      obtain ⟨hz0, hz255⟩ := hzz
      have htab := run_tab z
      obtain ⟨c, hcc⟩ : ∃ c : Int, c = ((Pl.tb z).toNat : Int) := ⟨_, rfl⟩
      rw [← hcc] at htab HB hmem
      have HZZ := hidI hz
      have HCC := hidI hcc
      clear hz hcc
      cases q
      · by_cases h47 : c = 47
        · subst h47
          have HW : Hid (Pl.want false zs len (k + 1) = false) := hidI (want_no _ _ _ _ (by omega) (by rw [← HZZ.out, ← HCC.out]; rfl))
          go_wp2_with (at_builtin; refine wpList_append_fits _ rfl (.tmp 50) (.tmp 52) 23 rfl (w.heap.size + 1) 5 i0 1 Ybad.underlying23 hi hz1 (w.heap.size + 1) k len (bytesV (Pl.bytes zs k)) rfl (hown.alloc _) ⟨wr.heap.size, 0, none⟩ 1 1 [.int .u8 47] rfl rfl (cell_new1 _ _ _) (by simp [Value.oneCell']) (by omega) ?_; intro w1 hown1 hgrow1)
          go_roundw
          case rel => exact ⟨k + 1, by omega, by go_num, rfl, by rw [HW.out], by rw [HB.out]; exact hown1, one_grown (by simp) hb hgrow1⟩
          case measure => simp [intOf]; omega
        · by_cases h44 : c = 44
          · subst h44
            have HW : Hid (Pl.want false zs len (k + 1) = false) := hidI (want_no _ _ _ _ (by omega) (by rw [← HZZ.out, ← HCC.out]; rfl))
            go_wp2_with (at_builtin; refine wpList_append_fits _ rfl (.tmp 50) (.tmp 52) 23 rfl (w.heap.size + 1) 5 i0 1 Ybad.underlying23 hi hz1 (w.heap.size + 1) k len (bytesV (Pl.bytes zs k)) rfl (hown.alloc _) ⟨wr.heap.size, 0, none⟩ 1 1 [.int .u8 44] rfl rfl (cell_new1 _ _ _) (by simp [Value.oneCell']) (by omega) ?_; intro w1 hown1 hgrow1)
            go_roundw
            case rel => exact ⟨k + 1, by omega, by go_num, rfl, by rw [HW.out], by rw [HB.out]; exact hown1, one_grown (by simp) hb hgrow1⟩
            case measure => simp [intOf]; omega
          · have b47 : (c == 47) = false := by simpa using h47
            have b44 : (c == 44) = false := by simpa using h44
            have HW : Hid (Pl.want false zs len (k + 1) = Pl.want false zs len k) := hidI (want_yes _ _ _ _ (by omega) (by rw [← HZZ.out, ← HCC.out]; simp [Pl.okB, b47, b44]))
            go_wp2_with (at_builtin; refine wpList_append_fits _ rfl (.tmp 50) (.tmp 52) 23 rfl (w.heap.size + 1) 5 i0 1 Ybad.underlying23 hi hz1 (w.heap.size + 1) k len (bytesV (Pl.bytes zs k)) rfl (hown.alloc _) ⟨wr.heap.size, 0, none⟩ 1 1 [.int .u8 c] rfl rfl (cell_new1 _ _ _) (by simp [Value.oneCell']) (by omega) ?_; intro w1 hown1 hgrow1)
            go_roundw
            case rel => exact ⟨k + 1, by omega, by go_num, rfl, by rw [HW.out], by rw [HB.out]; exact hown1, one_grown (by simp) hb hgrow1⟩
            case measure => simp [intOf]; omega
      · have HW : Hid (Pl.want true zs len (k + 1) = Pl.want true zs len k) := hidI (want_yes _ _ _ _ (by omega) rfl)
        go_wp2_with (at_builtin; refine wpList_append_fits _ rfl (.tmp 50) (.tmp 52) 23 rfl (w.heap.size + 1) 5 i0 1 Ybad.underlying23 hi hz1 (w.heap.size + 1) k len (bytesV (Pl.bytes zs k)) rfl (hown.alloc _) ⟨wr.heap.size, 0, none⟩ 1 1 [.int .u8 c] rfl rfl (cell_new1 _ _ _) (by simp [Value.oneCell']) (by omega) ?_; intro w1 hown1 hgrow1)
        go_roundw
        case rel => exact ⟨k + 1, by omega, by go_num, rfl, by rw [HW.out], by rw [HB.out]; exact hown1, one_grown (by simp) hb hgrow1⟩
        case measure => simp [intOf]; omega
    · obtain rfl : k = len := by omega
      have hj0 : 0 ≤ m % 6 := by omega
      have hj6 : m % 6 < 6 := by omega
      obtain ⟨j, hj⟩ : ∃ j : Nat, m % 6 = (j : Int) := ⟨(m % 6).toNat, by omega⟩
      have hlB : (Pl.bytes zs k).length = k := by simp [Pl.bytes]; omega
      have hcells : ∀ j (hj : j < (Pl.bytes zs k).length), ∀ nq, (wr.drewN nq).cell? ((⟨w.heap.size + 1, 0, none⟩ : Addr).add j) = some (.int .u8 ((Pl.bytes zs k)[j].toNat : Int)) := fun j hj nq => by
        rw [World.cell?_drewN, Addr.add_lit, Nat.zero_add, hown.cellAt j (by omega)]
        simp [bytesV, hj]
      have hcv := fun nq => run_convert_bytes_back (P := Ybad.prog) (wr.drewN nq) 23 9 5 ⟨w.heap.size + 1, 0, none⟩ k (Pl.bytes zs k) Ybad.underlying23 Ybad.underlying5 Ybad.underlying9 (fun j hj => hcells j hj nq)
      rw [hlB] at hcv
      clear hcells
      have hj6' : j < 6 := by omega
      have hcm : wr.cell? ⟨w.heap.size, j, none⟩ = some (.string ⟨(Pl.mk6 j).toArray⟩) := by
        rw [hb.cell (by simp), marks_cell w j hj6']
      have hjI : (j : Int) < 6 := by omega
      have hia := run_marks w.heap.size j hj6'
      have hjw : (IntKind.i64.wrap m).tmod 6 = (j : Int) := by
        have e : IntKind.i64.wrap m = m := by rw [IntKind.wrap_i64]; omega
        rw [e, Int.tmod_eq_emod_of_nonneg hm0, hj]
      have hml : (Pl.mk6 j).length ≤ 4 := mk6_len j
      have hadd := fun W => run_string_add_lists (P := Ybad.prog) W (Pl.mk6 j) (Pl.bytes zs k) (by omega) (by omega)
      clear hj0 hj6 hj
      go_wp2_with fail
      go_quiet (fail)
      clear hcv hadd hia hjw hcm hown
      have hname := isName_any ⟨(Pl.mk6 j ++ Pl.bytes zs k).toArray⟩ q (Pl.which j) ⟨(Pl.bytes zs k).toArray⟩ b off capg (wr.drewN nq)
        (by rw [World.cell?_drewN]; exact old_cell hb HG.out) (fun i hi => by rw [World.cell?_drewN]; exact old_cell hb (HMK.out i hi))
        (by simp [ByteArray.size]; omega) (by simp [ByteArray.size]; omega) (which_le j hj6') (fun i hi => Pl.take_no j hj6' _ (bytes_in zs k) i hi)
        (fun h => name_cut j hj6' h _) (fun h => name_bare j hj6' h _) (bytes_in zs k)
      have HE := hidI (name_want q zs k hlB)
      have HN := hidI hname
      clear hname
      go_wp2_with fail
      refine HN.out.mono ?_
      rintro e w2 ⟨rfl, rfl⟩
      rw [HE.out]
      go_wp2
      go_ret
      exact ⟨rfl, fin_below hb nq⟩

end Go.Proofs.YbulkaegDoor
