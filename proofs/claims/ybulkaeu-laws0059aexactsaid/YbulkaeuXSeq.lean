/-
  Seat b0059a, LawS0059AExact: lookup (15), Seq (11), Active (12).
-/
import Derived.Test.YbulkaeuXFind
set_option linter.unusedSimpArgs false
set_option linter.unusedVariables false
namespace Go.Proofs.Ybulkaeu
open Go.RowKit

set_option maxRecDepth 100000 in
theorem lookup_any (L : List Pl.St) (b i j : Nat) (hid : ∀ s ∈ L, s.id < 256) (hasc : Asc L) (hj : j < 256) (w : World) (hl : L.length ≤ 256) (hnode : NodeAt w b i L) :
    Calls Yba.prog 15 #[.pointer (some ⟨b, 0, none⟩), .int .i32 (j : Int)] w fun e w' => Below w.heap.size w w' ∧ ((Pl.get L j = none ∧ e = .returned (.pointer none)) ∨
      ∃ s g k, Pl.get L j = some s ∧ e = .returned (.pointer (some ⟨g, k * 6, none⟩)) ∧ ∀ q, q < 6 → w'.cell? ⟨g, k * 6 + q, none⟩ = s.cells[q]?) := by
  have HF := hidI (find_any L b i j hid hasc hj w hl hnode)
  have HAS := hidI hasc
  have HNO := hidI hnode
  obtain ⟨G, cap, h3, hcells⟩ := hnode.slice
  have hbl : b < w.heap.size := World.block_lt_of_cell? w _ h3
  have HCE := hidI hcells
  obtain ⟨n, hn⟩ : ∃ n, n = L.length := ⟨_, rfl⟩
  have HN := hidI hn
  rw [← hn] at h3 hl
  clear hcells hnode hn hid hasc
  go_enter Yba.func15, Yba.ntmps15
  go_wp2_with fail
  refine (HF.out).mono ?_
  rintro e w1 ⟨k, hlb, rfl, hb1⟩
  have hget := get_of HAS.out hlb
  have d3 : w1.cell? ⟨b, 3, none⟩ = some (.slice G n cap) := (hb1.cell (p := ⟨b, 3, none⟩) hbl).trans h3
  have HB := hidI hb1
  have HG := hidI hget
  clear hb1 hlb hget
  cases hat : Pl.isAt L k j
  · go_wp2_with fail
    go_ret
    exact ⟨HB.out, .inl ⟨by have := HG.out; rw [hat] at this; simpa using this, rfl⟩⟩
  · obtain ⟨s, hs⟩ : ∃ s, L[k]? = some s := by
      cases h : L[k]? with
      | none => simp [Pl.isAt, h] at hat
      | some s => exact ⟨s, rfl⟩
    have hk : k < n := by have := (List.getElem?_eq_some_iff.1 hs).1; have := HN.out; omega
    obtain ⟨g, rfl, hcs⟩ := HCE.out (by have := HN.out; omega)
    have hcs' := hcs k s hs
    have HCS := hidI hcs'
    have hkI : (k : Int) < (n : Int) := by omega
    have hk0 : (0 : Int) ≤ (k : Int) := by omega
    have HSS := hidI hs
    clear hcs hcs' hs
    go_wp2_with fail
    go_ret
    refine ⟨HB.out, .inr ⟨s, g, k, by have := HG.out; rw [hat] at this; simpa [HSS.out] using this, rfl, fun q hq => ?_⟩⟩
    have h6 := HCS.out 0 (by omega)
    have hg : g < w.heap.size := World.block_lt_of_cell? w ⟨g, k * 6 + 0, none⟩ (by rw [h6]; rfl)
    rw [HB.out.cell (p := ⟨g, k * 6 + q, none⟩) hg]
    exact HCS.out q hq

def Pl.seqOf (L : List Pl.St) (j : Nat) : Nat := match Pl.get L j with
  | some s => s.seq
  | none => 0
def Pl.actOf (L : List Pl.St) (j : Nat) : Bool := match Pl.get L j with
  | some s => s.act
  | none => false

theorem seq_any (L : List Pl.St) (b i j : Nat) (hid : ∀ s ∈ L, s.id < 256) (hasc : Asc L) (hj : j < 256) (w : World) (hl : L.length ≤ 256) (hnode : NodeAt w b i L) :
    Calls Yba.prog 11 #[.pointer (some ⟨b, 0, none⟩), .int .i32 (j : Int)] w fun e w' => e = .returned (.int .u64 (Pl.seqOf L j : Int)) ∧ Below w.heap.size w w' := by
  have HF := hidI (lookup_any L b i j hid hasc hj w hl hnode)
  clear hid hasc hnode
  go_enter Yba.func11, Yba.ntmps11
  go_wp2_with fail
  refine (HF.out).mono ?_
  rintro e w1 ⟨hb1, ⟨hg, rfl⟩ | ⟨s, g, k, hg, rfl, hc⟩⟩
  · have HB := hidI hb1
    clear hb1
    go_wp2_with fail
    go_ret
    exact ⟨by simp only [Pl.seqOf, hg]; rfl, HB.out⟩
  · have HB := hidI hb1
    have c1 : w1.cell? ⟨g, k * 6 + 1, none⟩ = some (.int .u64 (s.seq : Int)) := hc 1 (by omega)
    clear hb1 hc
    go_wp2_with fail
    go_ret
    exact ⟨by simp only [Pl.seqOf, hg]; rfl, HB.out⟩

theorem active_any (L : List Pl.St) (b i j : Nat) (hid : ∀ s ∈ L, s.id < 256) (hasc : Asc L) (hj : j < 256) (w : World) (hl : L.length ≤ 256) (hnode : NodeAt w b i L) :
    Calls Yba.prog 12 #[.pointer (some ⟨b, 0, none⟩), .int .i32 (j : Int)] w fun e w' => e = .returned (.bool (Pl.actOf L j)) ∧ Below w.heap.size w w' := by
  have HF := hidI (lookup_any L b i j hid hasc hj w hl hnode)
  clear hid hasc hnode
  go_enter Yba.func12, Yba.ntmps12
  go_wp2_with fail
  refine (HF.out).mono ?_
  rintro e w1 ⟨hb1, ⟨hg, rfl⟩ | ⟨s, g, k, hg, rfl, hc⟩⟩
  · have HB := hidI hb1
    clear hb1
    go_wp2_with fail
    go_ret
    exact ⟨by simp only [Pl.actOf, hg]; rfl, HB.out⟩
  · have HB := hidI hb1
    have c1 : w1.cell? ⟨g, k * 6 + 2, none⟩ = some (.bool s.act) := hc 2 (by omega)
    clear hb1 hc
    go_wp2_with fail
    go_ret
    exact ⟨by simp only [Pl.actOf, hg]; rfl, HB.out⟩

end Go.Proofs.Ybulkaeu
