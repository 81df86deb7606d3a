/-
  Seat b0065aF: parts of the walk of model (19).
-/
import Derived.Test.YbulkaiaFmtChase
set_option linter.unusedSimpArgs false
set_option linter.unusedVariables false
namespace Go.Proofs.YbulkaiaFmt
open Go.RowKit

/-- an id as the model's integer: 5 (the zero name) is -1 -/
def mv (x : Nat) : Int := if x = 5 then -1 else (x : Int)
abbrev mvV (x : Nat) : Value := .int .i64 (mv x)

theorem key_lw (o la : Nat) (h : la < 5) : (Pl.key o == Pl.key la) = (Pl.lw (o % 5) == Pl.lw la) := by
  have e : Pl.key o = Pl.key (o % 5) := by simp [Pl.key]
  rw [e]
  have hm := Nat.mod_lt o (show 0 < 5 by decide)
  generalize o % 5 = m at hm
  match m, hm, la, h with
  | 0, _, 0, _ => rfl
  | 0, _, 1, _ => rfl
  | 0, _, 2, _ => rfl
  | 0, _, 3, _ => rfl
  | 0, _, 4, _ => rfl
  | 1, _, 0, _ => rfl
  | 1, _, 1, _ => rfl
  | 1, _, 2, _ => rfl
  | 1, _, 3, _ => rfl
  | 1, _, 4, _ => rfl
  | 2, _, 0, _ => rfl
  | 2, _, 1, _ => rfl
  | 2, _, 2, _ => rfl
  | 2, _, 3, _ => rfl
  | 2, _, 4, _ => rfl
  | 3, _, 0, _ => rfl
  | 3, _, 1, _ => rfl
  | 3, _, 2, _ => rfl
  | 3, _, 3, _ => rfl
  | 3, _, 4, _ => rfl
  | 4, _, 0, _ => rfl
  | 4, _, 1, _ => rfl
  | 4, _, 2, _ => rfl
  | 4, _, 3, _ => rfl
  | 4, _, 4, _ => rfl
theorem lw_five (o : Nat) : (Pl.lw (o % 5) == Pl.lw 5) = false := by
  have hm := Nat.mod_lt o (show 0 < 5 by decide)
  generalize o % 5 = m at hm
  match m, hm with
  | 0, _ => rfl
  | 1, _ => rfl
  | 2, _ => rfl
  | 3, _ => rfl
  | 4, _ => rfl
theorem first5 (rs : List Pl.Rec) : Pl.first rs 5 = none := by
  unfold Pl.first
  rw [List.find?_eq_none]
  intro r _
  simp only [Pl.hit, lw_five]
  simp
theorem first_hit {rs : List Pl.Rec} {k j : Nat} {r : Pl.Rec} (h0 : Pl.first (rs.take k) j = none) (hr : rs[k]? = some r) (hh : Pl.hit j r = true) : Pl.first rs j = some r := by
  have h1 : Pl.first (rs.take (k + 1)) j = some r := by rw [first_take hr hh, h0]; rfl
  have e : rs = rs.take (k + 1) ++ rs.drop (k + 1) := (List.take_append_drop _ _).symm
  unfold Pl.first at h1 ⊢
  rw [e, List.find?_append, h1]
  rfl

structure ML (B : Nat) (w : World) (rs : List Pl.Rec) (j : Nat) (k : Nat) (p : List Nat) (v : Value) (wr : World) : Prop where
  bel : Below B w wr
  size : B ≤ wr.heap.size
  len : p.length = k + 1
  ids : ∀ x ∈ p, x < 6
  run : Pl.go rs (16 - k) p = Pl.go rs 16 [j]
  own : wr.ownsRow B 3 1 v (k + 1) (p.map mvV)

theorem news_cells3 (w : World) (o : Obj) (v : Value) : ∀ i u, [v][i]? = some u → ((w.alloc o).alloc (.cells #[v] 3)).cell? ((⟨w.heap.size + 1, 0, none⟩ : Addr).add i) = some u := by
  intro i u h
  have := news_cells (w.alloc o) #[v] 3 i u h
  rwa [World.size_alloc] at this

theorem ML.start (w : World) (rs : List Pl.Rec) (j : Nat) (hj : j < 5) : ML w.heap.size w rs j 0 [j] (.slice (some ⟨w.heap.size, 0, none⟩) 1 1) (w.alloc (.cells #[.int .i64 (j : Int)] 3)) := by
  refine ⟨(Below.refl _ _).alloc (Nat.le_refl _) _, by simp, rfl, by simp; omega, rfl, ?_⟩
  have hm : mv j = (j : Int) := by unfold mv; rw [if_neg (by omega)]
  have h := heap_alloc_new w (.cells #[.int .i64 (j : Int)] 3)
  refine ⟨rfl, .inr ⟨_, 1, _, rfl, Nat.le_refl _, h, Nat.le_refl _, by unfold maxLen; omega, rfl, ?_⟩⟩
  simp [hm]

theorem ML.below {B : Nat} {w wr W : World} {rs : List Pl.Rec} {j k : Nat} {p : List Nat} {v : Value} (h : ML B w rs j k p v wr) (hb : Below wr.heap.size wr W) : ML B w rs j k p v W :=
  ⟨h.bel.trans (hb.mono h.size), Nat.le_trans h.size hb.size, h.len, h.ids, h.run, h.own.kept (grown_of_below hb none) (Classical.em _)⟩

theorem ML.more {B : Nat} {w wr w3 : World} {rs : List Pl.Rec} {j k : Nat} {p : List Nat} {v v' : Value} {r : Pl.Rec} {id : Nat} {o : Obj} (hL : ML B w rs j k p v wr) (hk : k < 16) (hf : Pl.first rs (p.getLastD 5) = some r) (hid : idOf (r.g % 5) r.bad = id)
    (h3 : w3.ownsRow B 3 1 v' (k + 1 + 1) (p.map mvV ++ [mvV id])) (h4 : (wr.alloc o).grownBy w3 v.ownBlock) : ML B w rs j (k + 1) (p ++ [id]) v' w3 := by
  have h1 := hL.size
  have h5 := h4.size
  rw [World.size_alloc] at h5
  refine ⟨(hL.bel.alloc h1 _).grown h4 (by rw [World.size_alloc]; omega) (fun k' hk' => (hL.own.lt k' hk').1), by omega, by simp [hL.len], ?_, ?_, by simpa using h3⟩
  · intro x hx
    simp at hx
    rcases hx with hx | rfl
    · exact hL.ids x hx
    · rw [← hid]; unfold idOf; split
      · decide
      · have := Nat.mod_lt r.g (show 0 < 5 by decide); omega
  · rw [← hL.run, show 16 - k = (16 - (k + 1)) + 1 by omega]
    simp only [Pl.go, hf, hid]

end Go.Proofs.YbulkaiaFmt
