/-
  Seat b0065aF: the plain forms of the B laws' small functions, and their contracts: type (28), class (29), qtype (15), key (32).
-/
import Derived.Test.YbulkaiaFmtLower
set_option linter.unusedSimpArgs false
set_option linter.unusedVariables false
namespace Go.Proofs.YbulkaiaFmt
open Go.RowKit

/-- a record as the law's argument has it -/
structure Pl.Rec where
  o : Nat
  t : Nat
  c : Nat
  g : Nat
  bad : Bool
def Pl.Rec.ok (r : Pl.Rec) : Prop := r.o < 256 ∧ r.t < 256 ∧ r.c < 256 ∧ r.g < 256
def Pl.Rec.cells (r : Pl.Rec) : List Value := [.int .u8 (r.o : Int), .int .u8 (r.t : Int), .int .u8 (r.c : Int), .int .u8 (r.g : Int), .bool r.bad]
def Pl.typ (t : Nat) : Int := if t % 3 = 1 then 1 else 5
def Pl.cls (c : Nat) : Int := if c % 4 = 3 then 3 else 1
def Pl.qt (q : Nat) : Int := if q % 3 = 0 then 5 else if q % 3 = 1 then 1 else 28
def Pl.key (k : Nat) : Int := if k % 5 = 0 ∨ k % 5 = 1 then 0 else if k % 5 = 2 then 1 else if k % 5 = 3 then 2 else 3

theorem type_any (t : Nat) (ht : t < 256) (w : World) : Calls Ybaf.prog 28 #[.int .u8 (t : Int)] w fun e w' => e = .returned (.int .u16 (Pl.typ t)) ∧ w' = w := by
  by_cases h : t % 3 = 1
  all_goals
    have h' : ((t : Int) % 3 = 1) = (t % 3 = 1) := by simp only [eq_iff_iff]; omega
    go_enter Ybaf.func28, Ybaf.ntmps28
    go_wp2
    go_ret
    simp [Pl.typ, h]

theorem class_any (t : Nat) (ht : t < 256) (w : World) : Calls Ybaf.prog 29 #[.int .u8 (t : Int)] w fun e w' => e = .returned (.int .u16 (Pl.cls t)) ∧ w' = w := by
  by_cases h : t % 4 = 3
  all_goals
    have h' : ((t : Int) % 4 = 3) = (t % 4 = 3) := by simp only [eq_iff_iff]; omega
    go_enter Ybaf.func29, Ybaf.ntmps29
    go_wp2
    go_ret
    simp [Pl.cls, h]

theorem qtype_any (t : Nat) (ht : t < 256) (w : World) : Calls Ybaf.prog 15 #[.int .u8 (t : Int)] w fun e w' => e = .returned (.int .u16 (Pl.qt t)) ∧ w' = w := by
  rcases (show t % 3 = 0 ∨ t % 3 = 1 ∨ t % 3 = 2 by omega) with h | h | h
  all_goals
    go_enter Ybaf.func15, Ybaf.ntmps15
    go_wp2
    go_ret
    simp [Pl.qt, h]

theorem key_any (k : Nat) (hk : k < 256) (w : World) : Calls Ybaf.prog 32 #[.int .i64 (k : Int)] w fun e w' => e = .returned (.int .i64 (Pl.key k)) ∧ w' = w := by
  rcases (show k % 5 = 0 ∨ k % 5 = 1 ∨ k % 5 = 2 ∨ k % 5 = 3 ∨ k % 5 = 4 by omega) with h | h | h | h | h
  all_goals
    go_enter Ybaf.func32, Ybaf.ntmps32
    go_wp2
    go_ret
    simp [Pl.key, h]

end Go.Proofs.YbulkaiaFmt
