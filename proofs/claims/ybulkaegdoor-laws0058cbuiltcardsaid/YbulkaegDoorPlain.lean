/-
  Seat b0058aD: the plain functions: no Go in sight.
-/
namespace Go.Proofs.YbulkaegDoor.Pl
set_option linter.unusedSimpArgs false

/-- the law's table "abcXYZ019-_./," -/
def tbl : List Int := [97, 98, 99, 88, 89, 90, 48, 49, 57, 45, 95, 46, 47, 44]
/-- a byte of the table may stand in a name -/
def okB (q : Bool) (c : Int) : Bool := q || (!(c == 47) && !(c == 44))
/-- the marks, as the program's variable lists them -/
def mk : Nat → List UInt8
  | 0 => [226, 136, 134, 126]
  | 1 => [206, 148, 126]
  | 2 => [126]
  | 3 => [226, 136, 134]
  | _ => [206, 148]
/-- the law's six marks -/
def mk6 : Nat → List UInt8
  | 0 => []
  | n + 1 => mk n

theorem mem_tbl {c : Int} (h : c ∈ tbl) : c = 97 ∨ c = 98 ∨ c = 99 ∨ c = 88 ∨ c = 89 ∨ c = 90 ∨ c = 48 ∨ c = 49 ∨ c = 57 ∨ c = 45 ∨ c = 95 ∨ c = 46 ∨ c = 47 ∨ c = 44 := by
  simpa [tbl] using h

def inTbl (l : List UInt8) : Prop := ∀ c ∈ l, (c.toNat : Int) ∈ tbl

/-- which of the five marks is taken -/
def which : Nat → Nat
  | 0 => 5
  | n + 1 => n

theorem head_ne {c : UInt8} (h : (c.toNat : Int) ∈ tbl) : (c == 126) = false ∧ (c == 226) = false ∧ (c == 206) = false := by
  have h' := mem_tbl h
  refine ⟨?_, ?_, ?_⟩ <;> (simp only [beq_eq_false_iff_ne, ne_eq]; rintro rfl; revert h'; decide)

theorem take_no (j : Nat) (hj : j < 6) (B : List UInt8) (hB : inTbl B) (k : Nat) (hk : k < which j) : (mk k).isPrefixOf (mk6 j ++ B) = false := by
  have h0 : ∀ c r, B = c :: r → ((126 : UInt8) == c) = false ∧ ((226 : UInt8) == c) = false ∧ ((206 : UInt8) == c) = false := by
    intro c r e
    subst e
    obtain ⟨a, b, d⟩ := head_ne (hB c (by simp))
    exact ⟨by rw [beq_eq_false_iff_ne] at *; exact fun e => a e.symm, by rw [beq_eq_false_iff_ne] at *; exact fun e => b e.symm, by rw [beq_eq_false_iff_ne] at *; exact fun e => d e.symm⟩
  match B, h0 with
  | [], _ =>
    match j, hj, k, hk with
    | 0, _, 0, _ => rfl
    | 0, _, 1, _ => rfl
    | 0, _, 2, _ => rfl
    | 0, _, 3, _ => rfl
    | 0, _, 4, _ => rfl
    | 0, _, n + 5, h => exact absurd h (by simp [which])
    | 2, _, 0, _ => rfl
    | 3, _, 0, _ => rfl
    | 3, _, 1, _ => rfl
    | 4, _, 0, _ => rfl
    | 4, _, 1, _ => rfl
    | 4, _, 2, _ => rfl
    | 5, _, 0, _ => rfl
    | 5, _, 1, _ => rfl
    | 5, _, 2, _ => rfl
    | 5, _, 3, _ => rfl
    | 1, _, k, h => exact absurd h (by simp [which])
    | 2, _, n + 1, h => exact absurd h (by simp [which])
    | 3, _, n + 2, h => exact absurd h (by simp [which])
    | 4, _, n + 3, h => exact absurd h (by simp [which])
    | 5, _, n + 4, h => exact absurd h (by simp [which])
  | c :: r, h0 =>
    obtain ⟨h1, h2, h3⟩ := h0 c r rfl
    match j, hj, k, hk with
    | 0, _, 0, _ => simp [mk, mk6, List.isPrefixOf, h1, h2, h3]
    | 0, _, 1, _ => simp [mk, mk6, List.isPrefixOf, h1, h2, h3]
    | 0, _, 2, _ => simp [mk, mk6, List.isPrefixOf, h1, h2, h3]
    | 0, _, 3, _ => simp [mk, mk6, List.isPrefixOf, h1, h2, h3]
    | 0, _, 4, _ => simp [mk, mk6, List.isPrefixOf, h1, h2, h3]
    | 0, _, n + 5, h => exact absurd h (by simp [which])
    | 2, _, 0, _ => simp [mk, mk6, List.isPrefixOf, h1, h2, h3]
    | 3, _, 0, _ => simp [mk, mk6, List.isPrefixOf, h1, h2, h3]
    | 3, _, 1, _ => simp [mk, mk6, List.isPrefixOf, h1, h2, h3]
    | 4, _, 0, _ => simp [mk, mk6, List.isPrefixOf, h1, h2, h3]
    | 4, _, 1, _ => simp [mk, mk6, List.isPrefixOf, h1, h2, h3]
    | 4, _, 2, _ => simp [mk, mk6, List.isPrefixOf, h1, h2, h3]
    | 5, _, 0, _ => simp [mk, mk6, List.isPrefixOf, h1, h2, h3]
    | 5, _, 1, _ => simp [mk, mk6, List.isPrefixOf, h1, h2, h3]
    | 5, _, 2, _ => simp [mk, mk6, List.isPrefixOf, h1, h2, h3]
    | 5, _, 3, _ => simp [mk, mk6, List.isPrefixOf, h1, h2, h3]
    | 1, _, k, h => exact absurd h (by simp [which])
    | 2, _, n + 1, h => exact absurd h (by simp [which])
    | 3, _, n + 2, h => exact absurd h (by simp [which])
    | 4, _, n + 3, h => exact absurd h (by simp [which])
    | 5, _, n + 4, h => exact absurd h (by simp [which])

theorem take_yes (j : Nat) (h0 : j ≠ 0) (B : List UInt8) : (mk (which j)).isPrefixOf (mk6 j ++ B) = true ∧ (mk6 j ++ B).drop (mk (which j)).length = B := by
  match j with
  | 0 => exact absurd rfl h0
  | n + 1 =>
    refine ⟨?_, ?_⟩
    · show (mk n).isPrefixOf (mk n ++ B) = true
      rw [List.isPrefixOf_iff_prefix]; exact List.prefix_append _ _
    · show (mk n ++ B).drop (mk n).length = B
      simp

end Go.Proofs.YbulkaegDoor.Pl
