/-
  Seat b0059a, LawS0059AExact: a map of the call's own with integer keys, as a function from keys to values.
-/
import Derived.Test.YbulkaeuKit
import Derived.Maps.Own
import Derived.Maps.OwnOps
import Derived.Maps.Views
namespace Go.Proofs.Ybulkaeu
open Go.RowKit Go.Maps

/-- an element reads as itself -/
def selfR (v : Value) : Option (DataW Value × List MemPlace) := some (.held v, [])

/-- block b is a map with keys of type k (kind q) that holds f -/
def MapIs (w : World) (k : TypeId) (q : IntKind) (b n : Nat) (f : Int → Option Value) : Prop :=
  ∃ D, w.ownsMap Yba.prog k selfR b n D ∧ IsMap D ∧ ∀ x, (Lit.int q x).wf = true → D.atKey (.int q x) .nil = match f x with | some v => .held v | none => .nil

theorem MapIs.made (w : World) (k : TypeId) (q : IntKind) : MapIs (w.alloc (.map #[] 0)) k q w.heap.size 0 (fun _ => none) :=
  ⟨.map [], World.ownsMap_made w Yba.prog k selfR, ⟨_, rfl⟩, fun _ _ => rfl⟩
theorem MapIs.kept {w w' : World} {k : TypeId} {q : IntKind} {b n : Nat} {f : Int → Option Value} {row : Option Nat} (h : MapIs w k q b n f) (hg : w.grownBy w' row) (hne : some b ≠ row) : MapIs w' k q b n f := by
  obtain ⟨D, h1, h2, h3⟩ := h
  exact ⟨D, h1.kept hg hne, h2, h3⟩
theorem MapIs.lt {w : World} {k : TypeId} {q : IntKind} {b n : Nat} {f : Int → Option Value} (h : MapIs w k q b n f) : b < w.heap.size := by
  obtain ⟨D, h1, _⟩ := h
  exact h1.lt

theorem MapIs.look {w : World} {k e t : TypeId} {q : IntKind} {b n : Nat} {f : Int → Option Value} (h : MapIs w k q b n f) (c : Bool) (hk : Yba.prog.underlying k = some (.int q)) (ht : Yba.prog.underlying t = some (.map k e)) {z : Value} (hz : (zeroValue e).run Yba.prog w = .ok z w) {x : Int} (hx : (Lit.int q x).wf = true) :
    (Instr.lookup t (.map (some b)) (.int q x) c).run Yba.prog w = .ok (match f x with | some v => (if c then .tuple #[v, .bool true] else v) | none => (if c then .tuple #[z, .bool false] else z)) w := by
  obtain ⟨D, ⟨es, clock, hb, F, _, rfl⟩, _, h3⟩ := h
  have h3x := h3 x hx
  rcases fit_look c (int_keyed hk) ht hz hb F (keyOf_int_mk hk hx) with ⟨hrun, _, hat⟩ | ⟨e0, y, _, _, hrun, hRv, hat, _⟩
  · rw [hat] at h3x
    rw [hrun]
    cases hf : f x with
    | none => rfl
    | some v => rw [hf] at h3x; cases h3x
  · rw [hat] at h3x
    rw [hrun]
    have hy : y = (.held e0.val, []) := (Option.some.inj hRv).symm
    subst hy
    cases hf : f x with
    | none => rw [hf] at h3x; cases h3x
    | some v =>
      rw [hf] at h3x
      have : e0.val = v := by injection h3x
      rw [this]

/-- f with one key more -/
def upd (f : Int → Option Value) (x : Int) (v : Value) : Int → Option Value := fun y => if y = x then some v else f y

theorem MapIs.update {w : World} {k e t : TypeId} {q : IntKind} {b n : Nat} {f : Int → Option Value} (h : MapIs w k q b n f) (hk : Yba.prog.underlying k = some (.int q)) (ht : Yba.prog.underlying t = some (.map k e)) (hn : n < maxLen) {x : Int} (hx : (Lit.int q x).wf = true) (v : Value) :
    ∃ w', (Instr.mapUpdate t (.map (some b)) (.int q x) v).run Yba.prog w = .ok () w' ∧ MapIs w' k q b (n + 1) (upd f x v) ∧ w.grownBy w' (some b) := by
  obtain ⟨D, h1, h2, h3⟩ := h
  obtain ⟨w', hr, ho, hg⟩ := h1.update (int_keyed hk) ht hn (keyOf_int_mk hk hx) (show selfR v = some (.held v, []) from rfl)
  refine ⟨w', hr, ⟨_, ho, ?_, fun y hy => ?_⟩, hg⟩
  · obtain ⟨es, rfl⟩ := h2
    exact ⟨_, rfl⟩
  · by_cases e : y = x
    · subst e
      rw [atKey_put_same h2 (by trivial)]
      simp [upd]
    · rw [atKey_put_other (by simpa using e)]
      simp only [upd, if_neg e]
      exact h3 y hy

end Go.Proofs.Ybulkaeu
