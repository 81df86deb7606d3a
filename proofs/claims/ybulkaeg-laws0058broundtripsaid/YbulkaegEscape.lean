/-
  Seat b0058a: the contract of zzs0058bescape (8): it computes 'esc' of the bytes.
-/
import Derived.Test.YbulkaegSkip
import Derived.Laws.IdiomStrings
namespace Go.Proofs.Ybulkaeg
open Go.RowKit

def bytesV (l : List UInt8) : List Value := l.map fun c => .int .u8 (c.toNat : Int)
def Pl.escTo (s : ByteArray) (k : Nat) : List UInt8 := Pl.esc (s.data.toList.take k)

theorem Pl.take_snoc (s : ByteArray) (k : Nat) (h : k < s.size) : s.data.toList.take (k + 1) = s.data.toList.take k ++ [s[k]] := by
  rw [List.take_succ_eq_append_getElem (by simpa using h)]; rfl

theorem Pl.escTo_sp (s : ByteArray) (k : Nat) (h : k < s.size) (hc : s[k].toNat = 92 ∨ s[k].toNat = 34) : bytesV (Pl.escTo s (k + 1)) = bytesV (Pl.escTo s k) ++ [.int .u8 92] ++ [.int .u8 (s[k].toNat : Int)] := by
  unfold Pl.escTo
  rw [Pl.take_snoc s k h, Pl.esc_append]
  simp [bytesV, Pl.esc, hc]

theorem Pl.escTo_pl (s : ByteArray) (k : Nat) (h : k < s.size) (h92 : ¬ s[k].toNat = 92) (h34 : ¬ s[k].toNat = 34) : bytesV (Pl.escTo s (k + 1)) = bytesV (Pl.escTo s k) ++ [.int .u8 (s[k].toNat : Int)] := by
  unfold Pl.escTo
  rw [Pl.take_snoc s k h, Pl.esc_append]
  simp [bytesV, Pl.esc, h92, h34]

theorem Yba.info5 : (Yba.prog.info? 5).map (fun i => (i.zero, i.size, i.bytes)) = some (some (.int .u8 0), 1, 1) := by kernel_rfl

theorem ret_s {b c : ByteArray} (h : b = c) : Ending.returned (.string b) = .returned (.string c) := by rw [h]

theorem cell_new1 (w : World) (x : Value) (t : TypeId) : ∀ j u, [x][j]? = some u → (w.alloc (.cells #[x] t)).cell? ((⟨w.heap.size, 0, none⟩ : Addr).add j) = some u := by
  intro j u hj
  match j, hj with
  | 0, hj => simp at hj; subst hj; simp [Addr.add]

theorem one_grown {w wr w1 : World} {o : Obj} (hb : Below w.heap.size w wr) (hg : (wr.alloc o).grownBy w1 (some w.heap.size)) : Below w.heap.size w w1 := by
  have := hb.size
  exact (hb.alloc hb.size o).grown hg (by simp; omega) (fun k h => by cases h; exact Nat.le_refl _)
theorem two_grown {w wr w1 w2 : World} {o o2 : Obj} (hb : Below w.heap.size w wr) (hg : (wr.alloc o).grownBy w1 (some w.heap.size)) (hg2 : (w1.alloc o2).grownBy w2 (some w.heap.size)) : Below w.heap.size w w2 :=
  one_grown (one_grown hb hg) hg2

set_option maxHeartbeats 800000 in
set_option maxRecDepth 10000 in
theorem escape_any (s : ByteArray) (w : World) (hs : s.size ≤ 100000) :
    Calls Yba.prog 8 #[.string s] w fun e w' => e = .returned (.string ⟨(Pl.esc s.data.toList).toArray⟩) ∧ Below w.heap.size w w' := by
  obtain ⟨i0, hi, hz0, hz1, hz2⟩ := info_parts Yba.info5
  go_enter Yba.func8, Yba.ntmps8
  go_wp2_with (at_make; refine wpList_make_own _ rfl _ _ 27 rfl w.heap.size 5 i0 (.int .u8 0) 1 Yba.underlying27 hi hz0 hz1 .i64 .i64 _ (2 * s.size) rfl rfl (by omega) (by rw [hz2]; omega) (by unfold maxLen; omega) (by simp) ?_; intro w1 hown hgrow)
  go_loopw [3, 4] (fun v i wr => ∃ k n : Nat, k ≤ s.size ∧ i = .int .i64 k ∧ v = .slice (some ⟨w.heap.size, 0, none⟩) n (2 * s.size) ∧ n ≤ 2 * k ∧
      wr.ownsRow w.heap.size 5 1 (.slice (some ⟨w.heap.size, 0, none⟩) n (2 * s.size)) n (bytesV (Pl.escTo s k)) ∧ Below w.heap.size w wr)
    (fun _ i _ => s.size - (intOf i).toNat)
  case atStart =>
    exact ⟨0, 0, by omega, rfl, rfl, by omega, hown, (Below.refl _ _).grown hgrow (Nat.le_refl _) (fun _ h => by cases h)⟩
  case round =>
    clear hown hgrow
    obtain ⟨k, n, hk, rfl, rfl, hn, hown, hb⟩ := hrel
    have hsz := hb.size
    by_cases hlt : k < s.size
    · by_cases h92 : s[k].toNat = 92
      · have HE : Hid (bytesV (Pl.escTo s (k + 1)) = bytesV (Pl.escTo s k) ++ [.int .u8 92] ++ [.int .u8 92]) := hidI (by rw [Pl.escTo_sp s k hlt (Or.inl h92), h92]; rfl)
        go_wp2_with (first
          | (at_builtin; refine wpList_append_fits _ rfl (.tmp 25) (.tmp 26) 27 rfl w.heap.size 5 i0 1 Yba.underlying27 hi hz1 w.heap.size n (2 * s.size) (bytesV (Pl.escTo s k)) rfl (hown.alloc _) ⟨wr.heap.size, 0, none⟩ 1 1 [.int .u8 92] rfl rfl (cell_new1 _ _ _) (by simp [Value.oneCell']) (by omega) ?_; intro w1 hown1 hgrow1)
          | (at_builtin; refine wpList_append_fits _ rfl (.tmp 28) (.tmp 32) 27 rfl w.heap.size 5 i0 1 Yba.underlying27 hi hz1 w.heap.size (n + 1) (2 * s.size) (bytesV (Pl.escTo s k) ++ [.int .u8 92]) rfl (hown1.alloc _) ⟨w1.heap.size, 0, none⟩ 1 1 [.int .u8 92] rfl rfl (cell_new1 _ _ _) (by simp [Value.oneCell']) (by omega) ?_; intro w2 hown2 hgrow2))
        go_roundw
        case rel => exact ⟨k + 1, n + 1 + 1, by omega, by go_num, rfl, by omega, by rw [HE.out]; exact hown2, two_grown hb hgrow1 hgrow2⟩
        case measure => simp [intOf]; omega
      · by_cases h34 : s[k].toNat = 34
        · have HE : Hid (bytesV (Pl.escTo s (k + 1)) = bytesV (Pl.escTo s k) ++ [.int .u8 92] ++ [.int .u8 34]) := hidI (by rw [Pl.escTo_sp s k hlt (Or.inr h34), h34]; rfl)
          go_wp2_with (first
            | (at_builtin; refine wpList_append_fits _ rfl (.tmp 25) (.tmp 26) 27 rfl w.heap.size 5 i0 1 Yba.underlying27 hi hz1 w.heap.size n (2 * s.size) (bytesV (Pl.escTo s k)) rfl (hown.alloc _) ⟨wr.heap.size, 0, none⟩ 1 1 [.int .u8 92] rfl rfl (cell_new1 _ _ _) (by simp [Value.oneCell']) (by omega) ?_; intro w1 hown1 hgrow1)
            | (at_builtin; refine wpList_append_fits _ rfl (.tmp 28) (.tmp 32) 27 rfl w.heap.size 5 i0 1 Yba.underlying27 hi hz1 w.heap.size (n + 1) (2 * s.size) (bytesV (Pl.escTo s k) ++ [.int .u8 92]) rfl (hown1.alloc _) ⟨w1.heap.size, 0, none⟩ 1 1 [.int .u8 34] rfl rfl (cell_new1 _ _ _) (by simp [Value.oneCell']) (by omega) ?_; intro w2 hown2 hgrow2))
          go_roundw
          case rel => exact ⟨k + 1, n + 1 + 1, by omega, by go_num, rfl, by omega, by rw [HE.out]; exact hown2, two_grown hb hgrow1 hgrow2⟩
          case measure => simp [intOf]; omega
        · have HE := hidI (Pl.escTo_pl s k hlt h92 h34)
          have b92 : ((s[k].toNat : Int) == 92) = false := by simp; omega
          have b34 : ((s[k].toNat : Int) == 34) = false := by simp; omega
          go_wp2_with (at_builtin; refine wpList_append_fits _ rfl (.tmp 28) (.tmp 32) 27 rfl w.heap.size 5 i0 1 Yba.underlying27 hi hz1 w.heap.size n (2 * s.size) (bytesV (Pl.escTo s k)) rfl (hown.alloc _) ⟨wr.heap.size, 0, none⟩ 1 1 [.int .u8 (s[k].toNat : Int)] rfl rfl (cell_new1 _ _ _) (by simp [Value.oneCell']) (by omega) ?_; intro w1 hown1 hgrow1)
          go_roundw
          case rel => exact ⟨k + 1, n + 1, by omega, by go_num, rfl, by omega, by rw [HE.out]; exact hown1, one_grown hb hgrow1⟩
          case measure => simp [intOf]; omega
    · have hke : k = s.size := by omega
      have HE : Hid (Pl.escTo s k = Pl.esc s.data.toList) := hidI (by unfold Pl.escTo; rw [List.take_of_length_le (by simp; omega)])
      have hl : n = (Pl.escTo s k).length := by have := hown.1; simp [bytesV] at this; omega
      subst hl
      clear hke
      have hcells : ∀ j (hj : j < (Pl.escTo s k).length), wr.cell? ((⟨w.heap.size, 0, none⟩ : Addr).add j) = some (.int .u8 ((Pl.escTo s k)[j].toNat : Int)) := fun j hj => by
        rw [Addr.add_lit, Nat.zero_add, hown.cellAt j (by omega)]
        simp [bytesV, hj]
      have hcv := run_convert_bytes_back (P := Yba.prog) wr 27 9 5 ⟨w.heap.size, 0, none⟩ (2 * s.size) (Pl.escTo s k) Yba.underlying27 Yba.underlying5 Yba.underlying9 hcells
      clear hcells hown
      go_wp2
      go_ret
      exact ⟨ret_s (by rw [HE.out]), hb⟩

end Go.Proofs.Ybulkaeg
