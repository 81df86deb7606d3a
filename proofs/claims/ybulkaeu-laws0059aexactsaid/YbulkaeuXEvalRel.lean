/-
  Seat b0059a, LawS0059AExact: the relations of Evaluate's loops.
-/
import Derived.Test.YbulkaeuXEval
import Derived.Test.YbulkaeuXBuild
set_option linter.unusedSimpArgs false
set_option linter.unusedVariables false
namespace Go.Proofs.Ybulkaeu
open Go.RowKit Go.Maps

theorem zero3 (W : World) : (zeroValue 3).run Yba.prog W = .ok (.int .i64 0) W := by kernel_rfl
theorem zero100 (W : World) : (zeroValue 100).run Yba.prog W = .ok (.agg #[.int .i64 0, .int .i64 0]) W := by kernel_rfl
theorem wf64 {x : Int} (h0 : 0 ≤ x) (h1 : x ≤ 65536) : (Lit.int .i64 x).wf = true := by
  simp [Lit.wf, IntKind.min, IntKind.max, IntKind.signed, IntKind.bits]; omega
theorem wf32 {x : Int} (h0 : 0 ≤ x) (h1 : x ≤ 65536) : (Lit.int .i32 x).wf = true := by
  simp [Lit.wf, IntKind.min, IntKind.max, IntKind.signed, IntKind.bits]; omega

/-- the first loop -/
structure E1 (w : World) (n : Nat) (P : Nat → Nat) (i : Nat) (wr : World) : Prop where
  bel : Below w.heap.size w wr
  size : w.heap.size + 3 ≤ wr.heap.size
  out : wr.heap[w.heap.size]? = some (.cells #[.slice none 0 0, .bool false, .bool false] 32 (0, 0)) ∧ wr.heap[w.heap.size + 1]? = some (.cells #[.slice none 0 0, .bool false, .bool false] 32 (0, 0))
  map : MapIs wr 3 .i64 (w.heap.size + 2) i (Pl.sizeF P i)

theorem E1.start (w : World) (n : Nat) (P : Nat → Nat) : E1 w n P 0 (((w.alloc (.cells #[.slice none 0 0, .bool false, .bool false] 32)).alloc (.cells #[.slice none 0 0, .bool false, .bool false] 32)).alloc (.map #[] 0)) := by
  refine ⟨(((Below.refl _ _).alloc (Nat.le_refl _) _).alloc (by simp) _).alloc (by simp; omega) _, by simp, ⟨?_, ?_⟩, ?_⟩
  · rw [Below.heap_alloc _ _ _ (by simp; omega), Below.heap_alloc _ _ _ (by simp)]; exact heap_alloc_new _ _
  · rw [Below.heap_alloc _ _ _ (by simp)]
    have h := heap_alloc_new (w.alloc (.cells #[.slice none 0 0, .bool false, .bool false] 32)) (.cells #[.slice none 0 0, .bool false, .bool false] 32)
    rw [World.size_alloc] at h
    exact h
  · have h := MapIs.made ((w.alloc (.cells #[.slice none 0 0, .bool false, .bool false] 32)).alloc (.cells #[.slice none 0 0, .bool false, .bool false] 32)) 3 .i64
    rw [World.size_alloc, World.size_alloc] at h
    rw [sizeF_zero]
    exact h
theorem E1.next {w : World} {n : Nat} {P : Nat → Nat} {i : Nat} {wr w2 : World} (h : E1 w n P i wr) (hg : wr.grownBy w2 (some (w.heap.size + 2))) (hm : MapIs w2 3 .i64 (w.heap.size + 2) (i + 1) (Pl.sizeF P (i + 1))) : E1 w n P (i + 1) w2 := by
  have hs := h.size
  have hs2 := hg.size
  refine ⟨h.bel.grown hg (by omega) (fun k hk => by have := Option.some.inj hk; omega), by omega, ⟨?_, ?_⟩, hm⟩
  · rw [hg.block _ (by omega) (by simp)]; exact h.out.1
  · rw [hg.block _ (by omega) (by simp)]; exact h.out.2

theorem EV.below' {w w' : World} {n bn bp : Nat} {P : Nat → Nat} {S : Nat → List Pl.St} (h : EV w n bn bp P S) (hb : Below w.heap.size w w') : EV w' n bn bp P S := h.below hb

/-- the second loop -/
structure E2 (w : World) (n : Nat) (P : Nat → Nat) (S : Nat → List Pl.St) (M i : Nat) (wr : World) : Prop where
  bel : Below w.heap.size w wr
  size : M + 1 ≤ wr.heap.size
  res : wr.heap[w.heap.size]? = some (.cells #[.slice none 0 0, .bool false, .bool false] 32 (0, 0))
  map : MapIs wr 3 .i64 (w.heap.size + 2) n (Pl.sizeF P n)
  ats : MapIs wr 35 .i32 M i (Pl.atF P S i)
  row : ∃ v, wr.heap[w.heap.size + 1]? = some (.cells #[v, .bool false, .bool false] 32 (0, 0)) ∧ wr.ownsRow (M + 1) 37 5 v (Pl.own S i).length ((Pl.own S i).flatMap (Pl.stand P S n (fun _ => 0)))
theorem E2.start {w : World} {n : Nat} {P : Nat → Nat} {S : Nat → List Pl.St} {wr : World} (h : E1 w n P n wr) : E2 w n P S wr.heap.size 0 (wr.alloc (.map #[] 0)) := by
  have hb : Below wr.heap.size wr (wr.alloc (.map #[] 0)) := (Below.refl _ _).alloc (Nat.le_refl _) _
  have hs := h.size
  refine ⟨h.bel.trans (hb.mono (by omega)), by rw [World.size_alloc]; omega, ?_, h.map.kept (grown_of_below hb none) (by simp), ?_, .slice none 0 0, ?_, World.ownsRow_nil _ _ _ _⟩
  · rw [hb.block _ (by omega)]; exact h.out.1
  · have e : Pl.atF P S 0 = fun _ => none := by funext x; simp [Pl.atF, Pl.own]
    rw [e]
    exact MapIs.made wr 35 .i32
  · rw [hb.block _ (by omega)]; exact h.out.2

theorem MapIs.mono {w : World} {k : TypeId} {q : IntKind} {b n n' : Nat} {f : Int → Option Value} (h : MapIs w k q b n f) (hn : n ≤ n') : MapIs w k q b n' f := by
  obtain ⟨D, h1, h2, h3⟩ := h
  exact ⟨D, h1.mono hn, h2, h3⟩
theorem E2.below {w : World} {n : Nat} {P : Nat → Nat} {S : Nat → List Pl.St} {M i : Nat} {wr W : World} (h : E2 w n P S M i wr) (hb : Below wr.heap.size wr W) : E2 w n P S M i W := by
  obtain ⟨v, h1, h2⟩ := h.row
  have hs := h.size
  have hs2 := hb.size
  have hl : ∀ {b : Nat} {o : Obj}, wr.heap[b]? = some o → W.heap[b]? = some o := fun hh => (hb.block _ (Array.getElem?_eq_some_iff.1 hh).1).trans hh
  have hm := h.map.lt
  exact ⟨h.bel.trans (hb.mono (by omega)), by omega, hl h.res, h.map.kept (grown_of_below hb none) (by simp), h.ats.kept (grown_of_below hb none) (by simp), v, hl h1, h2.kept (grown_of_below hb none) (Classical.em _)⟩
theorem E2.skip {w : World} {n : Nat} {P : Nat → Nat} {S : Nat → List Pl.St} {M i : Nat} {wr : World} (h : E2 w n P S M i wr) (h0 : Pl.seqOf (S i) i = 0) : E2 w n P S M (i + 1) wr := by
  have e : Pl.own S (i + 1) = Pl.own S i := by rw [own_succ]; simp [h0]
  have ea : Pl.atF P S (i + 1) = Pl.atF P S i := by funext x; simp only [Pl.atF, e]
  exact ⟨h.bel, h.size, h.res, h.map, by rw [ea]; exact h.ats.mono (by omega), by rw [e]; exact h.row⟩

abbrev SY (b bp m T p c : Nat) (w : World) : Prop := w.cell? ⟨b, 0, none⟩ = some (.int .i32 (m : Int)) ∧ w.cell? ⟨bp, m, none⟩ = some (.int .i64 (p : Int)) ∧ (Instr.lookup 96 (.map (some T)) (.int .i64 (p : Int)) false).run Yba.prog w = .ok (.int .i64 (c : Int)) w

theorem grown_set (w : World) (b m : Nat) (v : Value) : w.grownBy (w.setCell ⟨b, m, none⟩ v) (some b) :=
  ⟨rfl, rfl, rfl, by rw [World.size_setCell]; exact Nat.le_refl _, fun k _ hne => Below.heap_setCell _ _ _ _ (by intro e; exact hne (by rw [e]))⟩
theorem own_mem {S : Nat → List Pl.St} {i k : Nat} : k ∈ Pl.own S i ↔ k < i ∧ 0 < Pl.seqOf (S k) k := by
  unfold Pl.own
  rw [List.mem_filter]
  simp
theorem atF_succ {P : Nat → Nat} {S : Nat → List Pl.St} {m : Nat} (h0 : 0 < Pl.seqOf (S m) m) :
    upd (Pl.atF P S m) (m : Int) (.agg #[.int .i64 ((Pl.own S m).length : Int), .int .i64 (P m : Int)]) = Pl.atF P S (m + 1) := by
  funext x
  unfold upd Pl.atF
  rw [own_succ, if_pos h0]
  have ha : ∀ y : Nat, (Pl.own S m ++ [m]).idxOf? y = ((Pl.own S m).idxOf? y).or (if m = y then some (Pl.own S m).length else none) := by
    intro y
    unfold List.idxOf?
    rw [List.findIdx?_append]
    congr 1
    by_cases e : m = y
    · subst e; simp
    · have : (m == y) = false := by simpa using e
      simp [e, this]
  rw [ha]
  by_cases e : x = (m : Int)
  · subst e
    have hn : (Pl.own S m).idxOf? m = none := by
      rw [List.idxOf?_eq_none_iff]
      intro hm
      have := own_lt hm
      omega
    simp [hn]
  · rw [if_neg e]
    cases hi : (Pl.own S m).idxOf? x.toNat with
    | some q => simp
    | none =>
      by_cases e2 : m = x.toNat
      · have : ¬ (0 ≤ x) := by omega
        simp [e2, this]
      · simp [e2]

abbrev NW (P : Nat → Nat) (S : Nat → List Pl.St) (k m : Nat) : Array Value := #[.int .i32 (m : Int), .int .u64 (Pl.seqOf (S m) m : Int), .int .i64 0, .int .i64 (Pl.cnt P k (P m : Int) : Int), .bool (!Pl.actOf (S m) m)]

theorem E2.next {w : World} {n : Nat} {P : Nat → Nat} {S : Nat → List Pl.St} {M m b bp len : Nat} {w1 w2 w3 : World} {va : Option Addr} {vc : Nat} (h : E2 w n P S M m w1) (h0 : 0 < Pl.seqOf (S m) m) (hMs : w.heap.size + 3 ≤ M)
    (hlen : len = (Pl.own S m).length) (hps : P m < 3)
    (hbw : b < w.heap.size) (hbpw : bp < w.heap.size) (hid : w1.cell? ⟨b, 0, none⟩ = some (.int .i32 (m : Int))) (hp1 : w1.cell? ⟨bp, m, none⟩ = some (.int .i64 (P m : Int)))
    (hT5 : w1.heap[w.heap.size + 1]? = some (.cells #[.slice va len vc, .bool false, .bool false] 32 (0, 0))) (hrow : w1.ownsRow (M + 1) 37 5 (.slice va len vc) len ((Pl.own S m).flatMap (Pl.stand P S n (fun _ => 0))))
    (hg2 : w1.drew.grownBy w2 (some M)) (hm2 : MapIs w2 35 .i32 M (m + 1) (upd (Pl.atF P S m) (m : Int) (.agg #[.int .i64 (len : Int), .int .i64 (P m : Int)])))
    (hb3 : Below w2.drew.heap.size w2.drew w3) :
    (w3.alloc (.cells (NW P S n m) 37)).ownsRow (M + 1) 37 5 (.slice va len vc) len ((Pl.own S m).flatMap (Pl.stand P S n (fun _ => 0))) ∧ M + 1 ≤ (w3.alloc (.cells (NW P S n m) 37)).heap.size ∧
    ∀ v' w4, w4.ownsRow (M + 1) 37 5 v' (len + 1) ((Pl.own S m).flatMap (Pl.stand P S n (fun _ => 0)) ++ (NW P S n m).toList) → (w3.alloc (.cells (NW P S n m) 37)).grownBy w4 (Value.slice va len vc).ownBlock →
      (SY b bp m (w.heap.size + 2) (P m) (Pl.cnt P n (P m : Int)) w4 ∧ SY b bp m (w.heap.size + 2) (P m) (Pl.cnt P n (P m : Int)) (w4.setCell ⟨w.heap.size + 1, 0, none⟩ v')) ∧ w4.cell? ⟨w.heap.size + 1, 0, none⟩ = some (.slice va len vc) ∧ w4.frozen? ⟨w.heap.size + 1, 0, none⟩ = false ∧ E2 w n P S M (m + 1) (w4.setCell ⟨w.heap.size + 1, 0, none⟩ v') := by
  have hb3' : Below w2.heap.size w2 w3 := ⟨hb3.os, hb3.tape, hb3.output, hb3.size, hb3.block⟩
  have hs := h.size
  have hs2 : w1.heap.size ≤ w2.heap.size := hg2.size
  have hs3 := hb3'.size
  have hg2' : w1.grownBy w2 (some M) := ⟨hg2.os, hg2.tape, hg2.output, hg2.size, hg2.block⟩
  have hg3 : w2.grownBy w3 none := grown_of_below hb3' none
  have hga : w3.grownBy (w3.alloc (.cells (NW P S n m) 37)) none := grown_of_below ((Below.refl _ _).alloc (Nat.le_refl _) _) none
  have hlo : ∀ k', (Value.slice va len vc).ownBlock = some k' → M + 1 ≤ k' := fun k' hk' => (hrow.lt k' hk').1
  have hneM : some M ≠ (Value.slice va len vc).ownBlock := fun e => by have := hlo _ e.symm; omega
  have hr2 := hrow.kept hg2' (Or.inr (fun e => hneM e.symm))
  have hr3 := hr2.kept hg3 (Classical.em _)
  refine ⟨hr3.alloc _, by rw [World.size_alloc]; omega, fun v' w4 h4 hg4 => ?_⟩
  have hs4 := hg4.size
  rw [World.size_alloc] at hs4
  have kk : ∀ x, x < w1.heap.size → x ≠ M → x < M + 1 → w4.heap[x]? = w1.heap[x]? := fun x hx hne hlt => by
    rw [hg4.block x (by rw [World.size_alloc]; omega) (fun e => by have := hlo _ e.symm; omega), hga.block x (by omega) (by simp), hg3.block x (by omega) (by simp), hg2'.block x hx (by simpa using hne)]
  have hmap1 : MapIs w4 3 .i64 (w.heap.size + 2) n (Pl.sizeF P n) :=
    (((h.map.kept hg2' (by simp; omega)).kept hg3 (by simp)).kept hga (by simp)).kept hg4 (fun e => by have := hlo _ e.symm; omega)
  have hats : MapIs w4 35 .i32 M (m + 1) (Pl.atF P S (m + 1)) := by
    rw [hlen, atF_succ h0] at hm2
    exact ((hm2.kept hg3 (by simp)).kept hga (by simp)).kept hg4 hneM
  have hgs := grown_set w4 (w.heap.size + 1) 0 v'
  have hlk : ∀ W, MapIs W 3 .i64 (w.heap.size + 2) n (Pl.sizeF P n) → (Instr.lookup 96 (.map (some (w.heap.size + 2))) (.int .i64 (P m : Int)) false).run Yba.prog W = .ok (.int .i64 (Pl.cnt P n (P m : Int) : Int)) W := fun W hW => by
    rw [MapIs.look hW false Yba.underlying3 Yba.underlying96 (zero3 W) (wf64 (by omega) (by omega)), ← sizeF_look]
    cases Pl.sizeF P n (P m : Int) <;> rfl
  have e1 : w4.cell? ⟨b, 0, none⟩ = some (.int .i32 (m : Int)) := (World.cell?_of_block (kk b (by omega) (by omega) (by omega))).trans hid
  have e2 : w4.cell? ⟨bp, m, none⟩ = some (.int .i64 (P m : Int)) := (World.cell?_of_block (kk bp (by omega) (by omega) (by omega))).trans hp1
  have hT := (kk (w.heap.size + 1) (by omega) (by omega) (by omega)).trans hT5
  have hmap2 := hmap1.kept hgs (by simp)
  refine ⟨⟨⟨e1, e2, hlk _ hmap1⟩, (World.cell?_of_block (Below.heap_setCell _ _ _ b (by show b ≠ w.heap.size + 1; omega))).trans e1, (World.cell?_of_block (Below.heap_setCell _ _ _ bp (by show bp ≠ w.heap.size + 1; omega))).trans e2, hlk _ hmap2⟩, (cell_of_row _ _ _ _ _ _ hT), by simp [World.frozen?, hT], ?_⟩
  have hbel4 : Below w.heap.size w w4 := by
    have b2 : Below w.heap.size w w2 := h.bel.grown hg2' (by omega) (fun k hk => by have := Option.some.inj hk; omega)
    have b3 := b2.grown hg3 (by omega) (by simp)
    have b4 := b3.grown hga (by omega) (by simp)
    exact b4.grown hg4 (by rw [World.size_alloc]; omega) (fun k hk => by have := hlo _ hk; omega)
  refine ⟨hbel4.setCell (by show w.heap.size ≤ w.heap.size + 1; omega) _, by rw [World.size_setCell]; omega, ?_, hmap2, hats.kept hgs (by simp; omega), v', ?_, ?_⟩
  · rw [Below.heap_setCell _ _ _ _ (by show w.heap.size ≠ w.heap.size + 1; omega), kk _ (by omega) (by omega) (by omega)]
    exact h.res
  · rw [heap_set_same hT]
    rfl
  · have hv : v'.ownBlock ≠ some (w.heap.size + 1) := fun e => by have := (h4.lt _ e).1; omega
    have hl : (Pl.own S (m + 1)) = Pl.own S m ++ [m] := by rw [own_succ, if_pos h0]
    have e : (NW P S n m).toList = [m].flatMap (Pl.stand P S n (fun _ => 0)) := by simp [Pl.stand]
    rw [hl, List.flatMap_append, List.length_append, ← e, ← hlen]
    exact h4.kept hgs (Or.inr hv)

/-- a source's hit -/
def Pl.hit (P : Nat → Nat) (S : Nat → List Pl.St) (i k : Nat) (s : Pl.St) : Bool := decide (s.id = i) && decide (s.seq = Pl.seqOf (S i) i) && decide (P k = P i)
def Pl.held (P : Nat → Nat) (S : Nat → List Pl.St) (k t i : Nat) : Nat := ((List.range k).map (fun q => (S q).countP (Pl.hit P S i q))).sum + ((S k).take t).countP (Pl.hit P S i k)
def Pl.stall (S : Nat → List Pl.St) (k t : Nat) : Bool := (List.range k).any (fun q => (S q).any (fun s => s.act)) || ((S k).take t).any (fun s => s.act)
theorem held_succ {P : Nat → Nat} {S : Nat → List Pl.St} {k t : Nat} {s : Pl.St} (hs : (S k)[t]? = some s) (i : Nat) : Pl.held P S k (t + 1) i = Pl.held P S k t i + if Pl.hit P S i k s = true then 1 else 0 := by
  unfold Pl.held
  rw [List.take_add_one, hs, List.countP_append, ← Nat.add_assoc]
  congr 1
  simp [List.countP_cons]
theorem held_done {P : Nat → Nat} {S : Nat → List Pl.St} {k : Nat} (i : Nat) : Pl.held P S k (S k).length i = Pl.held P S (k + 1) 0 i := by
  unfold Pl.held
  rw [List.range_succ, List.take_length, List.map_append, List.sum_append]
  simp
theorem stall_succ {S : Nat → List Pl.St} {k t : Nat} {s : Pl.St} (hs : (S k)[t]? = some s) : Pl.stall S k (t + 1) = (Pl.stall S k t || s.act) := by
  unfold Pl.stall
  rw [List.take_add_one, hs, List.any_append, ← Bool.or_assoc]
  congr 1
  simp
theorem stall_done {S : Nat → List Pl.St} {k : Nat} : Pl.stall S k (S k).length = Pl.stall S (k + 1) 0 := by
  unfold Pl.stall
  rw [List.range_succ, List.take_length, List.any_append]
  simp
theorem held_zero {P : Nat → Nat} {S : Nat → List Pl.St} (i : Nat) : Pl.held P S 0 0 i = 0 := by simp [Pl.held]
theorem stall_zero {S : Nat → List Pl.St} : Pl.stall S 0 0 = false := by simp [Pl.stall]
theorem held_le {P : Nat → Nat} {S : Nat → List Pl.St} {n : Nat} (hl : ∀ k, k < n → (S k).length ≤ n) {k t i : Nat} (hk : k < n) : Pl.held P S k t i ≤ (k + 1) * n := by
  have h1 : ∀ K, K ≤ n → ((List.range K).map (fun q => (S q).countP (Pl.hit P S i q))).sum ≤ K * n := by
    intro K
    induction K with
    | zero => simp
    | succ K ih =>
      intro hK
      rw [List.range_succ, List.map_append, List.sum_append]
      have a := ih (by omega)
      have b := List.countP_le_length (p := Pl.hit P S i K) (l := S K)
      have c := hl K (by omega)
      have d : (K + 1) * n = K * n + n := by rw [Nat.add_mul]; omega
      simp at a ⊢
      omega
  have h2 := h1 k (by omega)
  have h3 := List.countP_le_length (p := Pl.hit P S i k) (l := (S k).take t)
  have h4 : ((S k).take t).length ≤ n := by rw [List.length_take]; have := hl k hk; omega
  have d : (k + 1) * n = k * n + n := by rw [Nat.add_mul]; omega
  unfold Pl.held
  omega

/-- the third and fourth loop -/
structure E3 (w : World) (n : Nat) (P : Nat → Nat) (S : Nat → List Pl.St) (M k t : Nat) (wr : World) : Prop where
  bel : Below w.heap.size w wr
  size : M + 1 ≤ wr.heap.size
  res : wr.heap[w.heap.size]? = some (.cells #[.slice none 0 0, .bool false, .bool false] 32 (0, 0))
  ats : MapIs wr 35 .i32 M n (Pl.atF P S n)
  row : ∃ va vc, wr.heap[w.heap.size + 1]? = some (.cells #[.slice va (Pl.own S n).length vc, .bool (Pl.stall S k t), .bool false] 32 (0, 0)) ∧ wr.ownsRow (M + 1) 37 5 (.slice va (Pl.own S n).length vc) (Pl.own S n).length ((Pl.own S n).flatMap (Pl.stand P S n (Pl.held P S k t)))
theorem E3.start {w : World} {n : Nat} {P : Nat → Nat} {S : Nat → List Pl.St} {M : Nat} {wr : World} (h : E2 w n P S M n wr) : E3 w n P S M 0 0 wr := by
  obtain ⟨v, h1, h2⟩ := h.row
  obtain ⟨va, vc, rfl⟩ := own_form h2
  refine ⟨h.bel, h.size, h.res, h.ats, va, vc, by rw [stall_zero]; exact h1, ?_⟩
  have e : Pl.held P S 0 0 = fun _ => 0 := by funext i; exact held_zero i
  rw [e]
  exact h2
theorem E3.below {w : World} {n : Nat} {P : Nat → Nat} {S : Nat → List Pl.St} {M k t : Nat} {wr W : World} (h : E3 w n P S M k t wr) (hb : Below wr.heap.size wr W) : E3 w n P S M k t W := by
  obtain ⟨va, vc, h1, h2⟩ := h.row
  have hs := h.size
  have hs2 := hb.size
  have hsw := h.bel.size
  have hl : ∀ {b : Nat} {o : Obj}, wr.heap[b]? = some o → W.heap[b]? = some o := fun hh => (hb.block _ (Array.getElem?_eq_some_iff.1 hh).1).trans hh
  exact ⟨h.bel.trans (hb.mono hsw), by omega, hl h.res, h.ats.kept (grown_of_below hb none) (by simp), va, vc, hl h1, h2.kept (grown_of_below hb none) (Classical.em _)⟩
theorem E3.done {w : World} {n : Nat} {P : Nat → Nat} {S : Nat → List Pl.St} {M k : Nat} {wr : World} (h : E3 w n P S M k (S k).length wr) : E3 w n P S M (k + 1) 0 wr := by
  obtain ⟨va, vc, h1, h2⟩ := h.row
  refine ⟨h.bel, h.size, h.res, h.ats, va, vc, by rw [← stall_done]; exact h1, ?_⟩
  have e : Pl.held P S (k + 1) 0 = Pl.held P S k (S k).length := by funext i; exact (held_done i).symm
  rw [e]
  exact h2
theorem flatMap_congr' {L : List Nat} {f g : Nat → List Value} (h : ∀ i ∈ L, f i = g i) : L.flatMap f = L.flatMap g := by
  induction L with
  | nil => rfl
  | cons a t ih => rw [List.flatMap_cons, List.flatMap_cons, h a (by simp), ih (fun i hi => h i (by simp [hi]))]
/-- a round that counts no holder -/
theorem E3.miss {w : World} {n : Nat} {P : Nat → Nat} {S : Nat → List Pl.St} {M k t : Nat} {wr : World} {s : Pl.St} (h : E3 w n P S M k t wr) (hMs : w.heap.size + 3 ≤ M) (hs : (S k)[t]? = some s) (hmiss : ∀ i ∈ Pl.own S n, Pl.hit P S i k s = false) : E3 w n P S M k (t + 1) (wr.setCell ⟨w.heap.size + 1, 1, none⟩ (.bool (Pl.stall S k t || s.act))) := by
  obtain ⟨va, vc, h1, h2⟩ := h.row
  have hgs := grown_set wr (w.heap.size + 1) 1 (.bool (Pl.stall S k t || s.act))
  refine ⟨h.bel.setCell (by show w.heap.size ≤ w.heap.size + 1; omega) _, by rw [World.size_setCell]; exact h.size, ?_, h.ats.kept hgs (by simp; omega), va, vc, ?_, ?_⟩
  · rw [Below.heap_setCell _ _ _ _ (by show w.heap.size ≠ w.heap.size + 1; omega)]; exact h.res
  · rw [heap_set_same h1, stall_succ hs]; rfl
  · have e : (Pl.own S n).flatMap (Pl.stand P S n (Pl.held P S k (t + 1))) = (Pl.own S n).flatMap (Pl.stand P S n (Pl.held P S k t)) := by
      apply flatMap_congr'
      intro i hi
      unfold Pl.stand
      rw [held_succ hs, hmiss i hi]
      simp
    rw [e]
    exact h2.kept hgs (Or.inr (fun e => by have := (h2.lt _ e).1; omega))
theorem own_nodup (S : Nat → List Pl.St) (n : Nat) : (Pl.own S n).Nodup := List.Pairwise.filter _ List.nodup_range
theorem flat_set {f g : Nat → List Value} {v : Value} {i : Nat} : ∀ {L : List Nat} {q : Nat}, L.Nodup → L[q]? = some i → (∀ j, (f j).length = 5) → (∀ j, j ≠ i → g j = f j) → (f i).set 2 v = g i → (L.flatMap f).set (q * 5 + 2) v = L.flatMap g
  | [], q, _, h, _, _, _ => by simp at h
  | a :: L, 0, hn, h, hl, hne, hg => by
    simp at h
    subst h
    rw [List.flatMap_cons, List.flatMap_cons, Nat.zero_mul, Nat.zero_add, List.set_append_left _ _ (by rw [hl]; omega), hg]
    congr 1
    apply flatMap_congr'
    intro j hj
    rw [hne]
    rintro rfl
    exact (List.nodup_cons.1 hn).1 hj
  | a :: L, q + 1, hn, h, hl, hne, hg => by
    have hn' := List.nodup_cons.1 hn
    have h' : L[q]? = some i := by simpa using h
    rw [List.flatMap_cons, List.flatMap_cons, List.set_append_right _ _ (by rw [hl]; omega), hl, show (q + 1) * 5 + 2 - 5 = q * 5 + 2 by omega, flat_set hn'.2 h' hl hne hg]
    congr 1
    rw [hne]
    rintro rfl
    exact hn'.1 (List.mem_of_getElem? h')
/-- a round that counts a holder -/
theorem E3.hit {w : World} {n : Nat} {P : Nat → Nat} {S : Nat → List Pl.St} {M k t g q i vc : Nat} {wr : World} {s : Pl.St} (h : E3 w n P S M k t wr) (hMs : w.heap.size + 3 ≤ M) (hs : (S k)[t]? = some s) (hq : (Pl.own S n)[q]? = some i) (hhit : Pl.hit P S i k s = true)
    (h1 : wr.heap[w.heap.size + 1]? = some (.cells #[.slice (some ⟨g, 0, none⟩) (Pl.own S n).length vc, .bool (Pl.stall S k t), .bool false] 32 (0, 0))) (h2 : wr.ownsRow (M + 1) 37 5 (.slice (some ⟨g, 0, none⟩) (Pl.own S n).length vc) (Pl.own S n).length ((Pl.own S n).flatMap (Pl.stand P S n (Pl.held P S k t)))) :
    E3 w n P S M k (t + 1) ((wr.setCell ⟨w.heap.size + 1, 1, none⟩ (.bool (Pl.stall S k t || s.act))).setCell ⟨g, q * 5 + 2, none⟩ (.int .i64 ((Pl.held P S k t i : Int) + 1))) := by
  have hgM : M + 1 ≤ g := (h2.lt g rfl).1
  have hgs := grown_set wr (w.heap.size + 1) 1 (.bool (Pl.stall S k t || s.act))
  have h2' := h2.kept hgs (Or.inr (fun e => by have : g = w.heap.size + 1 := Option.some.inj e; omega))
  obtain ⟨h3, hg3⟩ := h2'.stored (q * 5 + 2) (.int .i64 ((Pl.held P S k t i : Int) + 1))
  refine ⟨(h.bel.setCell (by show w.heap.size ≤ w.heap.size + 1; omega) _).setCell (by show w.heap.size ≤ g; omega) _, by rw [World.size_setCell, World.size_setCell]; exact h.size, ?_, (h.ats.kept hgs (by simp; omega)).kept hg3 (by simp; omega), some ⟨g, 0, none⟩, vc, ?_, ?_⟩
  · rw [Below.heap_setCell _ _ _ _ (by show w.heap.size ≠ g; omega), Below.heap_setCell _ _ _ _ (by show w.heap.size ≠ w.heap.size + 1; omega)]; exact h.res
  · rw [Below.heap_setCell _ _ _ _ (by show w.heap.size + 1 ≠ g; omega), heap_set_same h1, stall_succ hs]; rfl
  · have e : ((Pl.own S n).flatMap (Pl.stand P S n (Pl.held P S k t))).set (q * 5 + 2) (.int .i64 ((Pl.held P S k t i : Int) + 1)) = (Pl.own S n).flatMap (Pl.stand P S n (Pl.held P S k (t + 1))) := by
      apply flat_set (own_nodup S n) hq (fun j => rfl)
      · intro j hj
        have hm : Pl.hit P S j k s = false := by
          cases hh : Pl.hit P S j k s with
          | false => rfl
          | true =>
            simp [Pl.hit] at hh hhit
            omega
        unfold Pl.stand
        rw [held_succ hs, hm]
        simp
      · unfold Pl.stand
        rw [held_succ hs, hhit]
        simp
    rw [← e]
    exact h3

/-- the fifth loop -/
def Pl.starve (P : Nat → Nat) (S : Nat → List Pl.St) (n x : Nat) : Bool := ((Pl.own S n).take x).any (fun i => decide (Pl.held P S n 0 i < Pl.cnt P n (P i : Int)))
theorem starve_succ {P : Nat → Nat} {S : Nat → List Pl.St} {n x i : Nat} (hi : (Pl.own S n)[x]? = some i) : Pl.starve P S n (x + 1) = (Pl.starve P S n x || decide (Pl.held P S n 0 i < Pl.cnt P n (P i : Int))) := by
  unfold Pl.starve
  rw [List.take_add_one, hi, List.any_append]
  simp
structure E5 (w : World) (n : Nat) (P : Nat → Nat) (S : Nat → List Pl.St) (M x : Nat) (va : Option Addr) (vc : Nat) (wr : World) : Prop where
  bel : Below w.heap.size w wr
  size : M + 1 ≤ wr.heap.size
  res : wr.heap[w.heap.size]? = some (.cells #[.slice none 0 0, .bool false, .bool false] 32 (0, 0))
  out : wr.heap[w.heap.size + 1]? = some (.cells #[.slice va (Pl.own S n).length vc, .bool (Pl.stall S n 0), .bool (Pl.starve P S n x)] 32 (0, 0))
  row : wr.ownsRow (M + 1) 37 5 (.slice va (Pl.own S n).length vc) (Pl.own S n).length ((Pl.own S n).flatMap (Pl.stand P S n (Pl.held P S n 0)))
theorem E5.below {w : World} {n : Nat} {P : Nat → Nat} {S : Nat → List Pl.St} {M x : Nat} {va : Option Addr} {vc : Nat} {wr W : World} (h : E5 w n P S M x va vc wr) (hb : Below wr.heap.size wr W) : E5 w n P S M x va vc W := by
  have hs := h.size
  have hs2 := hb.size
  have hsw := h.bel.size
  have hl : ∀ {b : Nat} {o : Obj}, wr.heap[b]? = some o → W.heap[b]? = some o := fun hh => (hb.block _ (Array.getElem?_eq_some_iff.1 hh).1).trans hh
  exact ⟨h.bel.trans (hb.mono hsw), by omega, hl h.res, hl h.out, h.row.kept (grown_of_below hb none) (Classical.em _)⟩
theorem E5.next {w : World} {n : Nat} {P : Nat → Nat} {S : Nat → List Pl.St} {M x i : Nat} {va : Option Addr} {vc : Nat} {wr : World} (h : E5 w n P S M x va vc wr) (hMs : w.heap.size + 3 ≤ M) (hi : (Pl.own S n)[x]? = some i) : E5 w n P S M (x + 1) va vc (wr.setCell ⟨w.heap.size + 1, 2, none⟩ (.bool (Pl.starve P S n x || decide (Pl.held P S n 0 i < Pl.cnt P n (P i : Int))))) := by
  have hgs := grown_set wr (w.heap.size + 1) 2 (.bool (Pl.starve P S n x || decide (Pl.held P S n 0 i < Pl.cnt P n (P i : Int))))
  refine ⟨h.bel.setCell (by show w.heap.size ≤ w.heap.size + 1; omega) _, by rw [World.size_setCell]; exact h.size, ?_, ?_, h.row.kept hgs (Or.inr (fun e => by have := (h.row.lt _ e).1; omega))⟩
  · rw [Below.heap_setCell _ _ _ _ (by show w.heap.size ≠ w.heap.size + 1; omega)]; exact h.res
  · rw [heap_set_same h.out, starve_succ hi]; rfl

end Go.Proofs.Ybulkaeu
