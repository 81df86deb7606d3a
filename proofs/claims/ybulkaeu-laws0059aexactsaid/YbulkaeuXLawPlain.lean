/-
  Seat b0059a, LawS0059AExact: the plain law: Evaluate's numbers are the numbers that the law reckons.
-/
import Derived.Test.YbulkaeuXEvalRel
set_option linter.unusedSimpArgs false
set_option linter.unusedVariables false
namespace Go.Proofs.Ybulkaeu

def Pl.seqE (o : Option Pl.Src) : Nat := match o with
  | some s => s.seq % 3
  | none => 0
def Pl.actE (o : Option Pl.Src) : Bool := match o with
  | some s => s.act
  | none => false
theorem seqV_eq (o : Option Pl.Src) : Pl.seqV o = .int .u64 (Pl.seqE o : Int) := by cases o <;> rfl
theorem actV_eq (o : Option Pl.Src) : Pl.actV o = .bool (Pl.actE o) := by cases o <;> rfl

theorem get_sts {ns : List Pl.Nd} {n k j : Nat} : ∀ J, Pl.get (Pl.sts ns n k J) j = if j < J then (Pl.e ns n k j).map (Pl.st j) else none
  | 0 => by simp [Pl.sts, Pl.get]
  | J + 1 => by
    have ih := get_sts (ns := ns) (n := n) (k := k) (j := j) J
    unfold Pl.get at ih ⊢
    rw [sts_succ, List.find?_append, ih]
    by_cases h : j < J
    · have h1 : j < J + 1 := by omega
      rw [if_pos h, if_pos h1]
      have h2 : ((Pl.e ns n k J).map (Pl.st J)).toList.find? (fun s => s.id == j) = none := by
        have : ¬ (J = j) := by omega
        cases Pl.e ns n k J <;> simp [Pl.st, this]
      rw [h2]
      simp
    · rw [if_neg h]
      by_cases h1 : j = J
      · subst h1
        rw [if_pos (by omega)]
        cases Pl.e ns n k j <;> simp [Pl.st]
      · rw [if_neg (by omega)]
        have : ¬ (J = j) := by omega
        cases Pl.e ns n k J <;> simp [Pl.st, this]
theorem seqOf_sts {ns : List Pl.Nd} {n k j : Nat} (hj : j < n) : Pl.seqOf (Pl.sts ns n k n) j = Pl.seqE (Pl.e ns n k j) := by
  unfold Pl.seqOf
  rw [get_sts, if_pos hj]
  cases Pl.e ns n k j <;> rfl
theorem actOf_sts {ns : List Pl.Nd} {n k j : Nat} (hj : j < n) : Pl.actOf (Pl.sts ns n k n) j = Pl.actE (Pl.e ns n k j) := by
  unfold Pl.actOf
  rw [get_sts, if_pos hj]
  cases Pl.e ns n k j <;> rfl

/-- the law's test on (k, i) -/
def Pl.holds (ns : List Pl.Nd) (n i k : Nat) : Bool := (Pl.e ns n k i).isSome && decide (Pl.seqE (Pl.e ns n k i) = Pl.seqE (Pl.e ns n i i))
def Pl.hold (ns : List Pl.Nd) (n i k : Nat) : Nat := ((List.range k).filter (fun q => decide (Pl.part ns q = Pl.part ns i) && Pl.holds ns n i q)).length
theorem hold_succ (ns : List Pl.Nd) (n i k : Nat) : Pl.hold ns n i (k + 1) = Pl.hold ns n i k + if (decide (Pl.part ns k = Pl.part ns i) && Pl.holds ns n i k) = true then 1 else 0 := by
  unfold Pl.hold
  rw [List.range_succ, List.filter_append, List.length_append]
  congr 1
  cases h : (decide (Pl.part ns k = Pl.part ns i) && Pl.holds ns n i k) <;> simp [h]
theorem hold_le (ns : List Pl.Nd) (n i k : Nat) : Pl.hold ns n i k ≤ k := by
  have := List.length_filter_le (fun q => decide (Pl.part ns q = Pl.part ns i) && Pl.holds ns n i q) (List.range k)
  simpa [Pl.hold] using this

theorem count_sts {ns : List Pl.Nd} {n i k : Nat} (hi : i < n) (S : Nat → List Pl.St) (hS : ∀ k, S k = Pl.sts ns n k n) : ∀ J, (Pl.sts ns n k J).countP (Pl.hit (Pl.part ns) S i k) = if i < J ∧ (decide (Pl.part ns k = Pl.part ns i) && Pl.holds ns n i k) = true then 1 else 0
  | 0 => by simp [Pl.sts]
  | J + 1 => by
    have ih := count_sts (k := k) hi S hS J
    rw [sts_succ, List.countP_append, ih]
    have hq : Pl.seqOf (S i) i = Pl.seqE (Pl.e ns n i i) := by rw [hS, seqOf_sts hi]
    by_cases h : J = i
    · subst h
      have h1 : ¬ (J < J) := by omega
      simp only [h1, false_and, if_false, Nat.zero_add, Nat.lt_succ_self, true_and]
      cases he : Pl.e ns n k J with
      | none => simp [Pl.holds, he]
      | some x =>
        simp only [Option.map_some, Option.toList_some, List.countP_cons, List.countP_nil, Nat.zero_add]
        congr 1
        simp only [Pl.hit, Pl.st, hq, Pl.holds, he, Pl.seqE]
        simp [and_comm]
    · have h2 : ((Pl.e ns n k J).map (Pl.st J)).toList.countP (Pl.hit (Pl.part ns) S i k) = 0 := by
        cases Pl.e ns n k J <;> simp [Pl.st, Pl.hit, h]
      rw [h2, Nat.add_zero]
      have : (i < J + 1) ↔ (i < J) := by omega
      simp only [this]
theorem held_hold {ns : List Pl.Nd} {n i : Nat} (hi : i < n) (S : Nat → List Pl.St) (hS : ∀ k, S k = Pl.sts ns n k n) : ∀ K, Pl.held (Pl.part ns) S K 0 i = Pl.hold ns n i K
  | 0 => by simp [Pl.held, Pl.hold]
  | K + 1 => by
    have ih := held_hold hi S hS K
    rw [← held_done]
    unfold Pl.held at ih ⊢
    rw [List.take_length, hold_succ, ← ih]
    simp only [List.take_zero, List.countP_nil, Nat.add_zero]
    congr 1
    rw [hS K, count_sts hi S hS n]
    simp [hi]

theorem any_sts (ns : List Pl.Nd) (n k : Nat) : ∀ J, (Pl.sts ns n k J).any (fun s => s.act) = (List.range J).any (fun j => Pl.actE (Pl.e ns n k j))
  | 0 => by simp [Pl.sts]
  | J + 1 => by
    rw [sts_succ, List.any_append, any_sts ns n k J, List.range_succ, List.any_append]
    congr 1
    cases he : Pl.e ns n k J <;> simp [he, Pl.actE, Pl.st]

/-- some of the first m entries of the flat table is active -/
def Pl.anyAct (ns : List Pl.Nd) (n m : Nat) : Bool := (List.range m).any (fun x => Pl.actE (Pl.e ns n (x / n) (x % n)))
theorem anyAct_succ (ns : List Pl.Nd) (n m : Nat) : Pl.anyAct ns n (m + 1) = (Pl.anyAct ns n m || Pl.actE (Pl.e ns n (m / n) (m % n))) := by
  unfold Pl.anyAct
  rw [List.range_succ, List.any_append]
  simp
theorem anyAct_row (ns : List Pl.Nd) (n k : Nat) : ∀ J, J ≤ n → Pl.anyAct ns n (k * n + J) = (Pl.anyAct ns n (k * n) || (List.range J).any (fun j => Pl.actE (Pl.e ns n k j)))
  | 0, _ => by simp
  | J + 1, hJ => by
    rw [← Nat.add_assoc, anyAct_succ, anyAct_row ns n k J (by omega), (flat_div (by omega)).1, (flat_div (by omega)).2, List.range_succ, List.any_append, Bool.or_assoc]
    simp
theorem stall_any (ns : List Pl.Nd) (n : Nat) (S : Nat → List Pl.St) (hS : ∀ k, S k = Pl.sts ns n k n) : ∀ K, Pl.stall S K 0 = Pl.anyAct ns n (K * n)
  | 0 => by simp [Pl.stall, Pl.anyAct]
  | K + 1 => by
    rw [← stall_done]
    have ih := stall_any ns n S hS K
    unfold Pl.stall at ih ⊢
    rw [List.take_length, Nat.add_mul, Nat.one_mul, anyAct_row ns n K n (Nat.le_refl _), ← ih, hS K, any_sts]
    simp

theorem own_prefix (S : Nat → List Pl.St) (i : Nat) : ∀ d, ∃ t, Pl.own S (i + d) = Pl.own S i ++ t
  | 0 => ⟨[], by simp⟩
  | d + 1 => by
    obtain ⟨t, ht⟩ := own_prefix S i d
    rw [← Nat.add_assoc, own_succ, ht, List.append_assoc]
    exact ⟨_, rfl⟩
theorem own_at {S : Nat → List Pl.St} {i n : Nat} (hi : i < n) (h0 : 0 < Pl.seqOf (S i) i) : (Pl.own S n)[(Pl.own S i).length]? = some i := by
  obtain ⟨t, ht⟩ := own_prefix S (i + 1) (n - (i + 1))
  rw [show i + 1 + (n - (i + 1)) = n by omega] at ht
  rw [ht, own_succ, if_pos h0, List.append_assoc]
  simp

end Go.Proofs.Ybulkaeu
