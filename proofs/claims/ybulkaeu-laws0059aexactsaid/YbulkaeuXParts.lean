/-
  Seat b0059a, LawS0059AExact: arrays of the call's own as functions; nodes; the relation of build (7).
-/
import Derived.Test.YbulkaeuXPlain
import Derived.Laws.MakeOwn
set_option linter.unusedSimpArgs false
set_option linter.unusedVariables false
namespace Go.Proofs.Ybulkaeu
open Go.RowKit

/-- block b is an array of N cells of type e that holds F -/
def ArrIs (w : World) (b : Nat) (e : TypeId) (N : Nat) (F : Nat → Value) : Prop :=
  ∃ a : Array Value, w.heap[b]? = some (.cells a e (0, 0)) ∧ a.size = N ∧ ∀ m, m < N → a[m]? = some (F m)

theorem ArrIs.cell {w : World} {b : Nat} {e : TypeId} {N : Nat} {F : Nat → Value} (h : ArrIs w b e N F) {m : Nat} (hm : m < N) : w.cell? ⟨b, m, none⟩ = some (F m) := by
  obtain ⟨a, h1, _, h3⟩ := h
  rw [cell_of_row w b m _ _ _ h1]
  exact h3 m hm
theorem ArrIs.free {w : World} {b : Nat} {e : TypeId} {N : Nat} {F : Nat → Value} (h : ArrIs w b e N F) (m : Nat) : w.frozen? ⟨b, m, none⟩ = false := by
  obtain ⟨a, h1, _⟩ := h
  simp [World.frozen?, h1]
theorem ArrIs.lt {w : World} {b : Nat} {e : TypeId} {N : Nat} {F : Nat → Value} (h : ArrIs w b e N F) : b < w.heap.size := by
  obtain ⟨a, h1, _⟩ := h
  exact (Array.getElem?_eq_some_iff.1 h1).1
theorem ArrIs.congr {w : World} {b : Nat} {e : TypeId} {N : Nat} {F G : Nat → Value} (h : ArrIs w b e N F) (hg : ∀ m, m < N → F m = G m) : ArrIs w b e N G := by
  obtain ⟨a, h1, h2, h3⟩ := h
  exact ⟨a, h1, h2, fun m hm => by rw [h3 m hm, hg m hm]⟩
theorem ArrIs.heap {w w' : World} {b : Nat} {e : TypeId} {N : Nat} {F : Nat → Value} (h : ArrIs w b e N F) (hb : w'.heap[b]? = w.heap[b]?) : ArrIs w' b e N F := by
  obtain ⟨a, h1, h2, h3⟩ := h
  exact ⟨a, hb.trans h1, h2, h3⟩
theorem ArrIs.below {w w' : World} {b : Nat} {e : TypeId} {N : Nat} {F : Nat → Value} (h : ArrIs w b e N F) (hb : Below w.heap.size w w') : ArrIs w' b e N F := h.heap (hb.block b h.lt)
theorem ArrIs.other {w : World} {b b' : Nat} {e : TypeId} {N : Nat} {F : Nat → Value} (h : ArrIs w b e N F) (hne : b ≠ b') (m : Nat) (v : Value) : ArrIs (w.setCell ⟨b', m, none⟩ v) b e N F := h.heap (Below.heap_setCell _ _ _ _ hne)
theorem heap_set_same {w : World} {b m : Nat} {a : Array Value} {e : TypeId} {fr : Nat × Nat} (h : w.heap[b]? = some (.cells a e fr)) (v : Value) : (w.setCell ⟨b, m, none⟩ v).heap[b]? = some (.cells (a.setIfInBounds m v) e fr) := by
  obtain ⟨hlt, he⟩ := Array.getElem?_eq_some_iff.1 h
  simp only [World.setCell]
  rw [Array.getElem?_eq_getElem (by simpa using hlt), Array.getElem_modify]
  simp [he]
theorem ArrIs.set {w : World} {b : Nat} {e : TypeId} {N : Nat} {F : Nat → Value} (h : ArrIs w b e N F) (m : Nat) (v : Value) : ArrIs (w.setCell ⟨b, m, none⟩ v) b e N (fun k => if k = m then v else F k) := by
  obtain ⟨a, h1, h2, h3⟩ := h
  refine ⟨_, heap_set_same h1 v, by simpa using h2, fun k hk => ?_⟩
  by_cases e : k = m
  · subst e
    rw [Array.getElem?_setIfInBounds_self]
    simp [h2, hk]
  · rw [Array.getElem?_setIfInBounds_ne (Ne.symm e)]
    simp [e, h3 k hk]
theorem ArrIs.made (w : World) (e : TypeId) (z : Value) (N : Nat) : ArrIs (w.alloc (.cells (madeCells #[z] N) e)) w.heap.size e N (fun _ => z) :=
  ⟨_, heap_alloc_new _ _, size_madeCells _ _, fun m hm => by
    simp only [madeCells, Array.getElem?_map, Array.getElem?_range, hm, if_true, Option.map_some]
    simp [Nat.mod_one]⟩

/-- a node that lies above lo -/
structure NodeIn (w : World) (lo b : Nat) (i : Nat) (L : List Pl.St) : Prop where
  low : lo ≤ b
  id : w.cell? ⟨b, 0, none⟩ = some (.int .i32 (i : Int))
  slice : ∃ G cap, w.cell? ⟨b, 3, none⟩ = some (.slice G L.length cap) ∧ (0 < L.length → ∃ g, lo ≤ g ∧ G = some ⟨g, 0, none⟩ ∧ ∀ (k : Nat) s, L[k]? = some s → ∀ q, q < 6 → w.cell? ⟨g, k * 6 + q, none⟩ = s.cells[q]?)
theorem NodeIn.at {w : World} {lo b i : Nat} {L : List Pl.St} (h : NodeIn w lo b i L) : NodeAt w b i L := by
  obtain ⟨G, cap, h1, h2⟩ := h.slice
  exact ⟨⟨G, cap, h1, fun h0 => by obtain ⟨g, _, e, h3⟩ := h2 h0; exact ⟨g, e, h3⟩⟩, h.id⟩
theorem NodeIn.kept {w w' : World} {lo b i : Nat} {L : List Pl.St} (h : NodeIn w lo b i L) (hk : ∀ k, lo ≤ k → k < w.heap.size → w'.heap[k]? = w.heap[k]?) : NodeIn w' lo b i L := by
  obtain ⟨G, cap, h1, h2⟩ := h.slice
  have hb := World.block_lt_of_cell? w _ h.id
  refine ⟨h.low, (World.cell?_of_block (hk b h.low hb)).trans h.id, G, cap, (World.cell?_of_block (hk b h.low hb)).trans h1, fun h0 => ?_⟩
  obtain ⟨g, hg, e, h3⟩ := h2 h0
  refine ⟨g, hg, e, fun k s hs q hq => ?_⟩
  have h6 := h3 k s hs 0 (by omega)
  have hgl : g < w.heap.size := World.block_lt_of_cell? w ⟨g, k * 6 + 0, none⟩ (by rw [h6]; rfl)
  exact (World.cell?_of_block (hk g hg hgl)).trans (h3 k s hs q hq)

/-- the entry of row i at column j -/
def Pl.e (ns : List Pl.Nd) (n i j : Nat) : Option Pl.Src := (ns[i]?).bind (fun nd => Pl.ent nd.srcs n j)
def Pl.st (j : Nat) (s : Pl.Src) : Pl.St := ⟨j, s.seq % 3, s.act⟩
/-- the states of row i, columns below J -/
def Pl.sts (ns : List Pl.Nd) (n i J : Nat) : List Pl.St := (List.range J).filterMap (fun j => (Pl.e ns n i j).map (Pl.st j))
def Pl.part (ns : List Pl.Nd) (i : Nat) : Nat := match ns[i]? with | some nd => nd.part % 3 | none => 0

/-- the relation of build: i nodes are made, ip parts are laid, the table stands at (i, t) -/
structure BL (w : World) (n : Nat) (ns : List Pl.Nd) (i ip t : Nat) (wr : World) : Prop where
  bel : Below w.heap.size w wr
  size : w.heap.size + 5 ≤ wr.heap.size
  part : ArrIs wr (w.heap.size + 1) 3 n (fun k => .int .i64 ((if k < ip then Pl.part ns k else 0 : Nat) : Int))
  has : ArrIs wr (w.heap.size + 2) 4 (n * n) (fun m => Pl.hasV (Pl.tab ns n i t m))
  seq : ArrIs wr (w.heap.size + 3) 34 (n * n) (fun m => Pl.seqV (Pl.tab ns n i t m))
  act : ArrIs wr (w.heap.size + 4) 4 (n * n) (fun m => Pl.actV (Pl.tab ns n i t m))
  nodes : ∃ nb : Nat → Nat, ArrIs wr w.heap.size 40 n (fun k => .pointer (if k < i then some ⟨nb k, 0, none⟩ else none)) ∧ ∀ k, k < i → NodeIn wr (w.heap.size + 5) (nb k) k (Pl.sts ns n k n)

theorem BL.below {w : World} {n : Nat} {ns : List Pl.Nd} {i ip t : Nat} {wr W : World} (h : BL w n ns i ip t wr) (hb : Below wr.heap.size wr W) : BL w n ns i ip t W := by
  obtain ⟨nb, h1, h2⟩ := h.nodes
  have hs := h.size
  have hs2 := hb.size
  exact ⟨h.bel.trans (hb.mono (by omega)), by omega, h.part.below hb, h.has.below hb, h.seq.below hb, h.act.below hb, nb, h1.below hb, fun k hk => (h2 k hk).kept (fun k _ hl => hb.block k hl)⟩

/-- a store into one of the five arrays -/
theorem keep_set {w : World} {lo b m : Nat} {v : Value} (hb : b < lo) : ∀ k, lo ≤ k → k < w.heap.size → (w.setCell ⟨b, m, none⟩ v).heap[k]? = w.heap[k]? := fun k hk _ => Below.heap_setCell _ _ _ _ (by show k ≠ b; omega)

theorem BL.setPart {w : World} {n : Nat} {ns : List Pl.Nd} {i t : Nat} {wr : World} (h : BL w n ns i i t wr) (hi : i < n) : BL w n ns i (i + 1) t (wr.setCell ⟨w.heap.size + 1, i, none⟩ (.int .i64 (Pl.part ns i : Int))) := by
  obtain ⟨nb, h1, h2⟩ := h.nodes
  refine ⟨h.bel.setCell (by show w.heap.size ≤ w.heap.size + 1; omega) _, by rw [World.size_setCell]; exact h.size, (h.part.set i _).congr (fun k hk => ?_), h.has.other (by omega) _ _, h.seq.other (by omega) _ _, h.act.other (by omega) _ _, nb, h1.other (by omega) _ _, fun k hk => (h2 k hk).kept (keep_set (by omega))⟩
  by_cases e : k = i
  · subst e; simp
  · by_cases hlt : k < i
    · have : k < i + 1 := by omega
      simp [e, hlt, this]
    · have : ¬ (k < i + 1) := by omega
      simp [e, hlt, this]

theorem ent_step {ss : List Pl.Src} {n t j : Nat} {s : Pl.Src} (hs : ss[t]? = some s) : Pl.ent (ss.take (t + 1)) n j = (Pl.ent (ss.take t) n j).or (if s.pick % n = j then some s else none) := by
  unfold Pl.ent
  rw [List.take_add_one, hs]
  simp only [List.find?_append, Option.toList_some]
  congr 1
  by_cases h : s.pick % n = j
  · simp [h]
  · simp [h]

theorem flat_div {n i j : Nat} (hj : j < n) : (i * n + j) / n = i ∧ (i * n + j) % n = j := by
  have hn : 0 < n := by omega
  constructor
  · rw [Nat.mul_comm, Nat.mul_add_div hn, Nat.div_eq_of_lt hj]; omega
  · rw [Nat.mul_comm, Nat.mul_add_mod, Nat.mod_eq_of_lt hj]
theorem flat_eq {n i j m : Nat} (hj : j < n) : (m = i * n + j) ↔ (m / n = i ∧ m % n = j) := by
  constructor
  · rintro rfl; exact flat_div hj
  · rintro ⟨rfl, rfl⟩; rw [Nat.mul_comm]; exact (Nat.div_add_mod m n).symm

theorem tab_step {ns : List Pl.Nd} {n i t m j : Nat} {nd : Pl.Nd} {s : Pl.Src} (hn : 0 < n) (hnd : ns[i]? = some nd) (hs : nd.srcs[t]? = some s) (hj : j = s.pick % n) :
    Pl.tab ns n i (t + 1) m = if m = i * n + j then (Pl.tab ns n i t m).or (some s) else Pl.tab ns n i t m := by
  have hjn : j < n := by rw [hj]; exact Nat.mod_lt _ hn
  unfold Pl.tab
  by_cases h1 : m / n < i
  · have : ¬ (m = i * n + j) := by rw [flat_eq hjn]; omega
    simp [h1, this]
  · by_cases h2 : m / n = i
    · simp only [h2, Nat.lt_irrefl, if_false, if_true, hnd, Option.bind_some]
      rw [ent_step hs]
      by_cases h3 : m % n = j
      · have e : m = i * n + j := (flat_eq hjn).2 ⟨h2, h3⟩
        rw [if_pos e, if_pos (by rw [← hj, h3])]
      · have e : ¬ (m = i * n + j) := by rw [flat_eq hjn]; omega
        rw [if_neg e, if_neg (by rw [← hj]; omega)]
        simp
    · have : ¬ (m = i * n + j) := by rw [flat_eq hjn]; omega
      simp [h1, h2, this]

theorem BL.skip {w : World} {n : Nat} {ns : List Pl.Nd} {i ip t j : Nat} {wr : World} {nd : Pl.Nd} {s s0 : Pl.Src} (h : BL w n ns i ip t wr) (hn : 0 < n) (hnd : ns[i]? = some nd) (hs : nd.srcs[t]? = some s) (hj : j = s.pick % n) (h0 : Pl.tab ns n i t (i * n + j) = some s0) : BL w n ns i ip (t + 1) wr := by
  have e : ∀ m, Pl.tab ns n i (t + 1) m = Pl.tab ns n i t m := fun m => by
    rw [tab_step hn hnd hs hj]
    split
    · rename_i hm; subst hm; rw [h0]; rfl
    · rfl
  exact ⟨h.bel, h.size, h.part, h.has.congr (fun m _ => by rw [e]), h.seq.congr (fun m _ => by rw [e]), h.act.congr (fun m _ => by rw [e]), h.nodes⟩

theorem BL.put {w : World} {n : Nat} {ns : List Pl.Nd} {i ip t j : Nat} {wr : World} {nd : Pl.Nd} {s : Pl.Src} (h : BL w n ns i ip t wr) (hn : 0 < n) (hnd : ns[i]? = some nd) (hs : nd.srcs[t]? = some s) (hj : j = s.pick % n) (h0 : Pl.tab ns n i t (i * n + j) = none) :
    BL w n ns i ip (t + 1) (((wr.setCell ⟨w.heap.size + 2, i * n + j, none⟩ (.bool true)).setCell ⟨w.heap.size + 3, i * n + j, none⟩ (.int .u64 ((s.seq % 3 : Nat) : Int))).setCell ⟨w.heap.size + 4, i * n + j, none⟩ (.bool s.act)) := by
  have e : ∀ m, Pl.tab ns n i (t + 1) m = if m = i * n + j then some s else Pl.tab ns n i t m := fun m => by
    rw [tab_step hn hnd hs hj]
    split
    · rename_i hm; subst hm; rw [h0]; rfl
    · rfl
  obtain ⟨nb, h1, h2⟩ := h.nodes
  refine ⟨((h.bel.setCell (p := ⟨w.heap.size + 2, _, none⟩) (by show w.heap.size ≤ w.heap.size + 2; omega) _).setCell (p := ⟨w.heap.size + 3, _, none⟩) (by show w.heap.size ≤ w.heap.size + 3; omega) _).setCell (p := ⟨w.heap.size + 4, _, none⟩) (by show w.heap.size ≤ w.heap.size + 4; omega) _,
    by rw [World.size_setCell, World.size_setCell, World.size_setCell]; exact h.size, ((h.part.other (by omega) _ _).other (by omega) _ _).other (by omega) _ _,
    (((h.has.set _ _).other (by omega) _ _).other (by omega) _ _).congr (fun m _ => ?_), (((h.seq.other (by omega) _ _).set _ _).other (by omega) _ _).congr (fun m _ => ?_), (((h.act.other (by omega) _ _).other (by omega) _ _).set _ _).congr (fun m _ => ?_),
    nb, ((h1.other (by omega) _ _).other (by omega) _ _).other (by omega) _ _, fun k hk => (((h2 k hk).kept (keep_set (by omega))).kept (keep_set (by omega))).kept (keep_set (by omega))⟩
  · rw [e]; split <;> rfl
  · rw [e]; split <;> rfl
  · rw [e]; split <;> rfl

theorem tab_done {ns : List Pl.Nd} {n i m : Nat} {nd : Pl.Nd} (hnd : ns[i]? = some nd) : Pl.tab ns n i nd.srcs.length m = Pl.tab ns n (i + 1) 0 m := by
  unfold Pl.tab
  by_cases h1 : m / n < i
  · have : m / n < i + 1 := by omega
    simp [h1, this]
  · by_cases h2 : m / n = i
    · simp [h2, hnd]
    · have h3 : ¬ (m / n < i + 1) := by omega
      simp only [h1, h2, h3, if_false]
      split
      · cases ns[i + 1]? <;> simp [Pl.ent]
      · rfl
theorem tab_full {ns : List Pl.Nd} {n i m : Nat} (h : m / n < i) : Pl.tab ns n i 0 m = Pl.e ns n (m / n) (m % n) := by
  simp [Pl.tab, Pl.e, h]
theorem tab_row {ns : List Pl.Nd} {n i j : Nat} {nd : Pl.Nd} (hnd : ns[i]? = some nd) (hj : j < n) : Pl.tab ns n i nd.srcs.length (i * n + j) = Pl.e ns n i j := by
  rw [tab_done hnd, tab_full (by rw [(flat_div hj).1]; omega), (flat_div hj).1, (flat_div hj).2]

theorem BL.node {w : World} {n : Nat} {ns : List Pl.Nd} {i : Nat} {wr : World} {nd : Pl.Nd} {b : Nat} (hnd : ns[i]? = some nd) (h : BL w n ns i (i + 1) nd.srcs.length wr) (hb : NodeIn wr (w.heap.size + 5) b i (Pl.sts ns n i n)) :
    BL w n ns (i + 1) (i + 1) 0 (wr.setCell ⟨w.heap.size, i, none⟩ (.pointer (some ⟨b, 0, none⟩))) := by
  obtain ⟨nb, h1, h2⟩ := h.nodes
  refine ⟨h.bel.setCell (Nat.le_refl _) _, by rw [World.size_setCell]; exact h.size, h.part.other (by omega) _ _, (h.has.other (by omega) _ _).congr (fun m _ => by rw [tab_done hnd]), (h.seq.other (by omega) _ _).congr (fun m _ => by rw [tab_done hnd]), (h.act.other (by omega) _ _).congr (fun m _ => by rw [tab_done hnd]),
    fun k => if k = i then b else nb k, (h1.set i _).congr (fun k hk => ?_), fun k hk => ?_⟩
  · by_cases e : k = i
    · subst e; simp
    · by_cases hlt : k < i
      · have : k < i + 1 := by omega
        simp [e, hlt, this]
      · have : ¬ (k < i + 1) := by omega
        simp [e, hlt, this]
  · by_cases e : k = i
    · subst e
      simp only [if_true]
      exact hb.kept (keep_set (by omega))
    · simp only [if_neg e]
      exact (h2 k (by omega)).kept (keep_set (by omega))

theorem sts_succ (ns : List Pl.Nd) (n i J : Nat) : Pl.sts ns n i (J + 1) = Pl.sts ns n i J ++ ((Pl.e ns n i J).map (Pl.st J)).toList := by
  unfold Pl.sts
  rw [List.range_succ, List.filterMap_append]
  congr 1
theorem sts_ids {ns : List Pl.Nd} {n i J : Nat} : ∀ s ∈ Pl.sts ns n i J, s.id < J := by
  intro s hs
  unfold Pl.sts at hs
  rw [List.mem_filterMap] at hs
  obtain ⟨j, hj, h⟩ := hs
  cases he : Pl.e ns n i j with
  | none => simp [he] at h
  | some x =>
    simp [he] at h
    subst h
    simpa [Pl.st] using hj
theorem sts_len (ns : List Pl.Nd) (n i J : Nat) : (Pl.sts ns n i J).length ≤ J := by
  have := List.length_filterMap_le (fun j => (Pl.e ns n i j).map (Pl.st j)) (List.range J)
  simpa [Pl.sts] using this
theorem sts_asc (ns : List Pl.Nd) (n i : Nat) : ∀ J, Asc (Pl.sts ns n i J)
  | 0 => by intro a b s s' h; simp [Pl.sts] at h
  | J + 1 => by
    intro a b s s' ha hb hab
    rw [sts_succ] at ha hb
    have hl : b < (Pl.sts ns n i J ++ ((Pl.e ns n i J).map (Pl.st J)).toList).length := (List.getElem?_eq_some_iff.1 hb).1
    have hl1 : (((Pl.e ns n i J).map (Pl.st J)).toList).length ≤ 1 := by cases Pl.e ns n i J <;> simp
    rw [List.length_append] at hl
    have haJ : a < (Pl.sts ns n i J).length := by omega
    rw [List.getElem?_append_left haJ] at ha
    by_cases hbJ : b < (Pl.sts ns n i J).length
    · rw [List.getElem?_append_left hbJ] at hb
      exact sts_asc ns n i J a b s s' ha hb hab
    · rw [List.getElem?_append_right (by omega)] at hb
      have h1 := sts_ids s (List.mem_of_getElem? ha)
      have h2 := List.mem_of_getElem? hb
      cases he : Pl.e ns n i J with
      | none => simp [he] at h2
      | some x =>
        simp [he] at h2
        subst h2
        simpa [Pl.st] using h1
theorem flat_cells {L : List Pl.St} {k : Nat} {s : Pl.St} (h : L[k]? = some s) {q : Nat} (hq : q < 6) : (L.flatMap Pl.St.cells)[k * 6 + q]? = s.cells[q]? := by
  induction L generalizing k with
  | nil => simp at h
  | cons a t ih =>
    rw [List.flatMap_cons]
    have hc : a.cells.length = 6 := rfl
    cases k with
    | zero =>
      simp at h
      subst h
      rw [List.getElem?_append_left (by omega)]
      congr 1
      omega
    | succ k =>
      rw [List.getElem?_append_right (by omega), hc, show (k + 1) * 6 + q - 6 = k * 6 + q by omega]
      exact ih (by simpa using h)
theorem flat_len (L : List Pl.St) : (L.flatMap Pl.St.cells).length = L.length * 6 := by
  induction L with
  | nil => rfl
  | cons a t ih => rw [List.flatMap_cons, List.length_append, ih]; simp [Pl.St.cells]; omega

theorem grown_of_below {w w' : World} (h : Below w.heap.size w w') (row : Option Nat) : w.grownBy w' row := ⟨h.os, h.tape, h.output, h.size, fun k hk _ => h.block k hk⟩
theorem own_form {w : World} {base e size n : Nat} {v : Value} {xs : List Value} (h : w.ownsRow base e size v n xs) : ∃ a c, v = .slice a n c := by
  rcases h.2 with ⟨rfl, rfl⟩ | ⟨g, cap, cur, rfl, _⟩
  · exact ⟨_, _, rfl⟩
  · exact ⟨_, _, rfl⟩
theorem news_cells (w : World) (cs : Array Value) (t : TypeId) : ∀ j u, cs.toList[j]? = some u → (w.alloc (.cells cs t)).cell? ((⟨w.heap.size, 0, none⟩ : Addr).add j) = some u := by
  intro j u h
  rw [Addr.add_lit, Nat.zero_add, cell_of_row _ _ j _ _ _ (heap_alloc_new w (.cells cs t))]
  simpa using h

theorem step_appG {P : Program} {ops : Array Oper} {o : Oper} {a : Act} {w : World} {K : Act → World → Prop} {Q : Exit → Act → World → Prop} {E : Prop}
    (hg : o.guard = none) (s x : Operand) (t : TypeId) (hop : o.op = Op.call { callee := Callee.builtin Builtin.append, args := #[s, x], argTypes := #[t, t] })
    (base : Nat) (e : TypeId) (i : TypeInfo) (z : Value) (size bytes : Nat) (ht : P.underlying t = some (.slice e)) (hi : P.info? e = some i) (hz : i.zero = some z)
    (hsize : i.size = size) (hby : i.bytes = bytes) (hzs : z.cells.size = size) (hsz : 0 < size) (v : Value) (n : Nat) (xs : List Value) (hs : a.eval s = v) (hown : w.ownsRow base e size v n xs)
    (ad : Addr) (m cu : Nat) (news : List Value) (hx : a.eval x = .slice (some ad) m cu) (hl : news.length = m * size) (hc : ∀ j u, news[j]? = some u → w.cell? (ad.add j) = some u) (h1 : ∀ u ∈ news, u.oneCell' = true)
    (h63 : n + m ≤ maxLen) (hbytes : (n + m) * bytes ≤ 140737488355328) (hbase : base ≤ w.heap.size)
    (hK : ∀ v' w', w'.ownsRow base e size v' (n + m) (xs ++ news) → w.grownBy w' v.ownBlock → K (a.put o.dst v') w') :
    if Region.wanted o (yielded ops a.tmps) = true then Oper.wp P o a w K Q else E := by
  have hw : Region.wanted o (yielded ops a.tmps) = true := by simp [Region.wanted, hg]
  rw [if_pos hw]
  obtain ⟨v', w', hrun, h2, h3, _, _⟩ := run_append_own_at (P := P) w base t o.type e i z size bytes ht hi hz hsize hby hzs hsz v n xs hown ad m cu news hl hc h1 h63 hbytes hbase
  unfold Oper.wp
  simp [execOp, hop, resolve, invoke, builtin, hs, hx, hrun, Result.andThen]
  exact hK _ _ h2 h3

theorem NodeIn.of_row {w : World} {base lo k : Nat} {L : List Pl.St} {va : Option Addr} {vc : Nat} (hown : w.ownsRow base 95 6 (.slice va L.length vc) L.length (L.flatMap Pl.St.cells)) (hb : lo ≤ base) (hlo : lo ≤ w.heap.size) :
    NodeIn (w.alloc (.cells #[.int .i32 (k : Int), .slice none 0 0, .slice none 0 0, .slice va L.length vc] 44)) lo w.heap.size k L := by
  refine ⟨hlo, by simp, va, vc, by simp, fun h0 => ?_⟩
  rcases hown.2 with ⟨_, h1⟩ | ⟨g, cap, cur, hv, hg, hh, _⟩
  · omega
  · simp at hv
    obtain ⟨rfl, rfl⟩ := hv
    refine ⟨g, by omega, rfl, fun j s hj q hq => ?_⟩
    have hgl : g < w.heap.size := (Array.getElem?_eq_some_iff.1 hh).1
    have hjl := (List.getElem?_eq_some_iff.1 hj).1
    rw [World.cell?_alloc_past _ _ _ hgl, World.ownsRow.cellAt hown (j * 6 + q) (by omega)]
    exact flat_cells hj hq

end Go.Proofs.Ybulkaeu
