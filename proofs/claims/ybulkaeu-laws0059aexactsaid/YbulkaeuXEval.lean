/-
  Seat b0059a, LawS0059AExact: the plain form of Evaluate (8), what it is handed, its first loop's relation.
-/
import Derived.Test.YbulkaeuXParts
import Derived.Test.YbulkaeuXMap
set_option linter.unusedSimpArgs false
set_option linter.unusedVariables false
namespace Go.Proofs.Ybulkaeu
open Go.RowKit Go.Maps

/-- what Evaluate is handed: parts and nodes -/
structure EV (w : World) (n bn bp : Nat) (P : Nat → Nat) (S : Nat → List Pl.St) : Prop where
  part : ∀ k, k < n → w.cell? ⟨bp, k, none⟩ = some (.int .i64 (P k : Int))
  small : ∀ k, k < n → P k < 3
  node : ∀ k, k < n → ∃ b, w.cell? ⟨bn, k, none⟩ = some (.pointer (some ⟨b, 0, none⟩)) ∧ NodeAt w b k (S k)
  asc : ∀ k, k < n → Asc (S k)
  ids : ∀ k, k < n → ∀ s ∈ S k, s.id < n
  len : ∀ k, k < n → (S k).length ≤ n
theorem EV.below {w w' : World} {n bn bp : Nat} {P : Nat → Nat} {S : Nat → List Pl.St} (h : EV w n bn bp P S) (hb : Below w.heap.size w w') : EV w' n bn bp P S :=
  ⟨fun k hk => (hb.cell (p := ⟨bp, k, none⟩) (World.block_lt_of_cell? w _ (h.part k hk))).trans (h.part k hk), h.small,
   fun k hk => by obtain ⟨b, h1, h2⟩ := h.node k hk; exact ⟨b, (hb.cell (p := ⟨bn, k, none⟩) (World.block_lt_of_cell? w _ h1)).trans h1, h2.below hb⟩, h.asc, h.ids, h.len⟩

/-- how many of the first i parts are p -/
def Pl.cnt (P : Nat → Nat) (i : Nat) (p : Int) : Nat := ((List.range i).filter (fun k => decide ((P k : Int) = p))).length
theorem cnt_le (P : Nat → Nat) (i : Nat) (p : Int) : Pl.cnt P i p ≤ i := by
  have := List.length_filter_le (fun k => decide ((P k : Int) = p)) (List.range i)
  simpa [Pl.cnt] using this
theorem cnt_succ (P : Nat → Nat) (i : Nat) (p : Int) : Pl.cnt P (i + 1) p = Pl.cnt P i p + if (P i : Int) = p then 1 else 0 := by
  unfold Pl.cnt
  rw [List.range_succ, List.filter_append, List.length_append]
  congr 1
  by_cases h : (P i : Int) = p <;> simp [h]
/-- the map of sizes after i parts -/
def Pl.sizeF (P : Nat → Nat) (i : Nat) : Int → Option Value := fun p => if Pl.cnt P i p = 0 then none else some (.int .i64 (Pl.cnt P i p : Int))
theorem sizeF_zero (P : Nat → Nat) : Pl.sizeF P 0 = fun _ => none := by
  funext p; simp [Pl.sizeF, Pl.cnt]
theorem sizeF_succ (P : Nat → Nat) (i : Nat) : upd (Pl.sizeF P i) (P i : Int) (.int .i64 ((Pl.cnt P i (P i : Int) : Int) + 1)) = Pl.sizeF P (i + 1) := by
  funext p
  unfold upd Pl.sizeF
  by_cases h : p = (P i : Int)
  · subst h
    simp [cnt_succ]
  · have h' : ¬ ((P i : Int) = p) := fun e => h e.symm
    simp [h, cnt_succ, h']
theorem sizeF_look (P : Nat → Nat) (i : Nat) (p : Int) : (match Pl.sizeF P i p with | some v => v | none => Value.int .i64 0) = .int .i64 (Pl.cnt P i p : Int) := by
  unfold Pl.sizeF
  by_cases h : Pl.cnt P i p = 0
  · simp [h]
  · simp [h]

/-- the sources that have broadcast, below i -/
def Pl.own (S : Nat → List Pl.St) (i : Nat) : List Nat := (List.range i).filter (fun k => decide (0 < Pl.seqOf (S k) k))
theorem own_succ (S : Nat → List Pl.St) (i : Nat) : Pl.own S (i + 1) = Pl.own S i ++ if 0 < Pl.seqOf (S i) i then [i] else [] := by
  unfold Pl.own
  rw [List.range_succ, List.filter_append]
  congr 1
  by_cases h : 0 < Pl.seqOf (S i) i <;> simp [h]
theorem own_lt {S : Nat → List Pl.St} {i k : Nat} (h : k ∈ Pl.own S i) : k < i := by
  unfold Pl.own at h
  rw [List.mem_filter] at h
  simpa using h.1
theorem own_len (S : Nat → List Pl.St) (i : Nat) : (Pl.own S i).length ≤ i := by
  have := List.length_filter_le (fun k => decide (0 < Pl.seqOf (S k) k)) (List.range i)
  simpa [Pl.own] using this
/-- a Standing's cells -/
def Pl.stand (P : Nat → Nat) (S : Nat → List Pl.St) (n : Nat) (h : Nat → Nat) (i : Nat) : List Value :=
  [.int .i32 (i : Int), .int .u64 (Pl.seqOf (S i) i : Int), .int .i64 (h i : Int), .int .i64 (Pl.cnt P n (P i : Int) : Int), .bool (!Pl.actOf (S i) i)]
/-- the map of places -/
def Pl.atF (P : Nat → Nat) (S : Nat → List Pl.St) (i : Nat) : Int → Option Value := fun x =>
  match (Pl.own S i).idxOf? x.toNat with
  | some k => if 0 ≤ x then some (.agg #[.int .i64 (k : Int), .int .i64 (P x.toNat : Int)]) else none
  | none => none

end Go.Proofs.Ybulkaeu
