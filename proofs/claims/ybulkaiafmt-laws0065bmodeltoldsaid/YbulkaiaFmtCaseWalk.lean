/-
  Seat b0065aF: LawS0065BCase (7): the plain law and the walk.
-/
import Derived.Test.YbulkaiaFmtChase
set_option linter.unusedSimpArgs false
set_option linter.unusedVariables false
namespace Go.Proofs.YbulkaiaFmt
open Go.RowKit

theorem go_cons (rs : List Pl.Rec) (a : Nat) : ∀ (n : Nat) (s : List Nat), s ≠ [] → Pl.go rs n (a :: s) = a :: Pl.go rs n s
  | 0, s, _ => rfl
  | n + 1, s, h => by
    have hl : (a :: s).getLastD 5 = s.getLastD 5 := by
      cases s with
      | nil => exact absurd rfl h
      | cons b t => rfl
    simp only [Pl.go, hl]
    cases Pl.first rs (s.getLastD 5) with
    | none => rfl
    | some r => exact go_cons rs a n (s ++ [idOf (r.g % 5) r.bad]) (by simp)
theorem go_len (rs : List Pl.Rec) : ∀ (n : Nat) (s : List Nat), (Pl.go rs n s).length ≤ s.length + n
  | 0, s => by simp [Pl.go]
  | n + 1, s => by
    simp only [Pl.go]
    cases Pl.first rs (s.getLastD 5) with
    | none => simp
    | some r => have := go_len rs n (s ++ [idOf (r.g % 5) r.bad]); simp at this ⊢; omega
theorem first01 (rs : List Pl.Rec) : Pl.first rs 0 = Pl.first rs 1 := rfl
theorem go01 (rs : List Pl.Rec) (n : Nat) : ∃ t, Pl.go rs n [0] = 0 :: t ∧ Pl.go rs n [1] = 1 :: t ∧ t.length ≤ n := by
  cases n with
  | zero => exact ⟨[], rfl, rfl, Nat.le_refl _⟩
  | succ n =>
    have h0 : Pl.go rs (n + 1) [0] = match Pl.first rs 1 with | none => [0] | some r => Pl.go rs n (0 :: [idOf (r.g % 5) r.bad]) := rfl
    have h1 : Pl.go rs (n + 1) [1] = match Pl.first rs 1 with | none => [1] | some r => Pl.go rs n (1 :: [idOf (r.g % 5) r.bad]) := rfl
    rw [h0, h1]
    cases Pl.first rs 1 with
    | none => exact ⟨[], rfl, rfl, by simp⟩
    | some r =>
      refine ⟨Pl.go rs n [idOf (r.g % 5) r.bad], go_cons rs 0 n _ (by simp), go_cons rs 1 n _ (by simp), ?_⟩
      have := go_len rs n [idOf (r.g % 5) r.bad]
      simp at this
      omega
theorem chase01 (rs : List Pl.Rec) (q : Int) : ∃ t, Pl.chase rs 0 q = 0 :: t ∧ Pl.chase rs 1 q = 1 :: t ∧ t.length ≤ 16 := by
  unfold Pl.chase
  split
  · exact ⟨[], rfl, rfl, by simp⟩
  · exact go01 rs 16

theorem neq31 (a : Nat) (W : World) : (binOp .neq 31 (.agg #[nmS a]) (.agg #[nmS a])).run Ybaf.prog W = .ok (.bool false) W := by
  rw [run_neq_struct]
  simp [go_sem]

theorem own_at {w : World} {base e n : Nat} {a : Option Addr} {c : Nat} {xs : List Value} (h : w.ownsRow base e 1 (.slice a n c) n xs) (hn : 0 < n) : ∃ G, a = some ⟨G, 0, none⟩ ∧ base ≤ G ∧ ∀ i, i < n → w.cell? ⟨G, i, none⟩ = xs[i]? := by
  rcases h.2 with ⟨_, h0⟩ | ⟨G, cap, cur, h1, h2, _⟩
  · omega
  · simp at h1
    obtain ⟨rfl, rfl⟩ := h1
    exact ⟨G, rfl, h2, fun i hi => World.ownsRow.cellAt h i (by omega)⟩

theorem bel_drewN {B : Nat} {a w : World} (h : Below B a w) (n : Nat) : Below B a (w.drewN n) := ⟨h.os, h.tape, h.output, h.size, h.block⟩
theorem key_below {w w' : World} (h : Below w.heap.size w w') {b : Nat} {o : Obj} (hb : w.heap[b]? = some o) : w'.heap[b]? = some o := (h.block b (Array.getElem?_eq_some_iff.1 hb).1).trans hb

/-- what is kept along the law's calls -/
structure CA (w : World) (rs : List Pl.Rec) (xs : List Value) (v : Value) (n T : Nat) (W : World) : Prop where
  bel : Below w.heap.size w W
  size : w.heap.size ≤ W.heap.size
  box : W.heap[T]? = some (.cells #[.int .i64 0, v, .slice none 0 0] 50 (0, 0))
  own : W.ownsRow w.heap.size 33 5 v n xs
  rrs : RRs W rs xs
theorem CA.below {w : World} {rs : List Pl.Rec} {xs : List Value} {v : Value} {n T : Nat} {W W' : World} (h : CA w rs xs v n T W) (hb : Below W.heap.size W W') : CA w rs xs v n T W' :=
  ⟨h.bel.trans (hb.mono h.size), Nat.le_trans h.size hb.size, key_below hb h.box, h.own.kept (grown_of_below hb none) (Classical.em _), h.rrs.far (fun g r k => WireAt.below hb k)⟩
theorem CA.start {w w1 : World} {rs : List Pl.Rec} {xs : List Value} {v : Value} {n : Nat} (hb : Below w.heap.size w w1) (ho : w1.ownsRow w.heap.size 33 5 v n xs) (hr : RRs w1 rs xs) : CA w rs xs v n w1.heap.size (w1.alloc (.cells #[.int .i64 0, v, .slice none 0 0] 50)) :=
  have h2 : Below w1.heap.size w1 (w1.alloc (.cells #[.int .i64 0, v, .slice none 0 0] 50)) := (Below.refl _ _).alloc (Nat.le_refl _) _
  ⟨hb.trans (h2.mono hb.size), Nat.le_trans hb.size h2.size, heap_alloc_new _ _, ho.kept (grown_of_below h2 none) (Classical.em _), hr.far (fun g r k => WireAt.below h2 k)⟩
theorem CA.one {w : World} {rs : List Pl.Rec} {xs : List Value} {v : Value} {n T : Nat} {W : World} (h : CA w rs xs v n T W) (h1 : 1 < w.heap.size) {v1 : Value} (hv : w.cell? ⟨1, 0, none⟩ = some v1) : W.cell? ⟨1, 0, none⟩ = some v1 := (h.bel.cell (p := ⟨1, 0, none⟩) h1).trans hv

set_option maxRecDepth 100000 in
set_option maxHeartbeats 3200000 in
theorem case_walk (a : Option Addr) (bb oo cap : Nat) (rs : List Pl.Rec) (q : Nat) (hq : q < 256) (w : World) (v1 : Value) (ha : 0 < rs.length → a = some ⟨bb, oo, none⟩) (hrs : rs.length ≤ 1024 → RecsAt w bb oo rs) (hv : w.cell? ⟨1, 0, none⟩ = some v1) (hnm : rs.length < 9223372036854775808) :
    Calls Ybaf.prog 7 #[.slice a rs.length cap, .int .u8 q] w fun e w' => e = .returned (.bool true) ∧ Below w.heap.size w w' := by
  by_cases hn : rs.length ≤ 1024
  · have HRE := hidI (resp_any a bb oo cap rs w v1 ha (hrs hn) hn hv)
    have HQT := hidI (qtype_any q hq)
    obtain ⟨t, ht0, ht1, htl⟩ := chase01 rs (Pl.qt q)
    have HV := hidI hv
    have HN := hidI hn
    have h1w : 1 < w.heap.size := World.block_lt_of_cell? w _ hv
    obtain ⟨n, hnn⟩ : ∃ n, n = rs.length := ⟨_, rfl⟩
    rw [← hnn] at HRE hn ⊢
    have HNN := hidI hnn
    clear ha hrs hv hnn hnm
    go_enter Ybaf.func7, Ybaf.ntmps7
    go_wp2_with fail
    refine (HRE.out).mono ?_
    rintro e w1 ⟨v, rfl, hb1, xs, ho1, hr1⟩
    obtain ⟨va, vc, rfl⟩ := own_form ho1
    have hs1 := hb1.size
    have HB1 := hidI hb1
    have HO1 := hidI ho1
    have HR1 := hidI hr1
    clear hb1 ho1 hr1 HRE
    go_wp2_with (go_at_call 15; refine (HQT.out _).mono ?_; rintro e w' ⟨rfl, rfl⟩)
    have HA1 : Hid (CA w rs xs (.slice va n vc) n w1.heap.size (w1.alloc (.cells #[.int .i64 0, .slice va n vc, .slice none 0 0] 50))) := hidI (CA.start HB1.out HO1.out HR1.out)
    generalize (w1.alloc (.cells #[.int .i64 0, .slice va n vc, .slice none 0 0] 50)) = W1 at HA1 ⊢
    have hA1 := HA1.out.size
    refine (name_any 0 0 (by omega) (by omega) (by rfl) W1 v1 (HA1.out.one h1w HV.out)).mono ?_
    rintro e w2 ⟨rfl, hb2⟩
    have HB2 := hidI hb2
    have HA2 := hidI (HA1.out.below hb2)
    clear hb2
    go_wp2_with fail
    have HA3 := hidI (HA2.out.below ((Below.refl _ _).alloc (Nat.le_refl _) (.cells #[nmS 0] 31)))
    have HK7 : Hid ((w2.alloc (.cells #[nmS 0] 31)).heap[w2.heap.size]? = some (.cells #[nmS 0] 31 (0, 0))) := hidI (heap_alloc_new _ _)
    generalize (w2.alloc (.cells #[nmS 0] 31)) = W2 at HA3 HK7 ⊢
    refine (name_any 1 1 (by omega) (by omega) (by rfl) W2 v1 (HA3.out.one h1w HV.out)).mono ?_
    rintro e w3 ⟨rfl, hb3⟩
    have HA4 := hidI (HA3.out.below hb3)
    have HK7b := hidI (key_below hb3 HK7.out)
    clear hb3
    go_upto_region 7 with fail
    have HA5 := hidI (HA4.out.below ((Below.refl _ _).alloc (Nat.le_refl _) (.cells #[nmS 1] 31)))
    have HK8 : Hid ((w3.alloc (.cells #[nmS 1] 31)).heap[w3.heap.size]? = some (.cells #[nmS 1] 31 (0, 0))) := hidI (heap_alloc_new _ _)
    have HK7c := hidI (key_below ((Below.refl _ _).alloc (Nat.le_refl _) (.cells #[nmS 1] 31)) HK7b.out)
    generalize (w3.alloc (.cells #[nmS 1] 31)) = W3 at HA5 HK8 HK7c ⊢
    have b0 := cell_of_row W3 _ 0 _ _ _ HA5.out.box
    have b1 := cell_of_row W3 _ 1 _ _ _ HA5.out.box
    have b2 := cell_of_row W3 _ 2 _ _ _ HA5.out.box
    have k7 := cell_of_row W3 _ 0 _ _ _ HK7c.out
    have k8 := cell_of_row W3 _ 0 _ _ _ HK8.out
    simp at b0 b1 b2 k7 k8
    have HC0 := hidI (chase_any 0 (by decide) (Pl.qt q) rs w.heap.size (.slice va n vc) xs W3 v1 (HA5.out.one h1w HV.out) HN.out (HNN.out ▸ HA5.out.own) HA5.out.rrs)
    rw [ht0] at HC0
    clear HA1 HA2 HA3 HA4 HK7 HK7b HB2
    generalize w1.heap.size = T5 at *
    generalize w2.heap.size = T7 at *
    generalize w3.heap.size = T8 at *
    go_wp2_with fail
    refine (HC0.out).mono ?_
    rintro e w4 ⟨v9, rfl, hb4, ho9⟩
    obtain ⟨a9, c9, rfl⟩ := own_form ho9
    obtain ⟨G9, rfl, hG9, hcc9⟩ := own_at ho9 (by simp)
    have HA6 := hidI (HA5.out.below hb4)
    have HK7d := hidI (key_below hb4 HK7c.out)
    have HK8d := hidI (key_below hb4 HK8.out)
    clear b0 b1 b2 k7 k8 hcc9
    have b0 := cell_of_row w4 _ 0 _ _ _ HA6.out.box
    have b1 := cell_of_row w4 _ 1 _ _ _ HA6.out.box
    have b2 := cell_of_row w4 _ 2 _ _ _ HA6.out.box
    have k7 := cell_of_row w4 _ 0 _ _ _ HK7d.out
    have k8 := cell_of_row w4 _ 0 _ _ _ HK8d.out
    simp at b0 b1 b2 k7 k8
    have HO9 := hidI ho9
    have HC1 := hidI (chase_any 1 (by decide) (Pl.qt q) rs w.heap.size (.slice va n vc) xs w4 v1 (HA6.out.one h1w HV.out) HN.out (HNN.out ▸ HA6.out.own) HA6.out.rrs)
    rw [ht1] at HC1
    clear hb4 ho9 HC0
    go_wp2_with fail
    refine (HC1.out).mono ?_
    rintro e w5 ⟨v10, rfl, hb5, ho10⟩
    obtain ⟨a10, c10, rfl⟩ := own_form ho10
    have ho9 := HO9.out.kept (grown_of_below hb5 none) (Classical.em _)
    obtain ⟨G10, rfl, hG10, hcc10⟩ := own_at ho10 (by simp)
    obtain ⟨G9', hge, hG9', hcc9⟩ := own_at ho9 (by simp)
    simp at hge
    subst hge
    have HA7 := hidI (HA6.out.below hb5)
    have k7 := cell_of_row w5 _ 0 _ _ _ (key_below hb5 HK7d.out)
    have k8 := cell_of_row w5 _ 0 _ _ _ (key_below hb5 HK8d.out)
    simp at k7 k8
    clear ho9 ho10 hb5 HC1 b0 b1 b2
    obtain ⟨L, hLL⟩ : ∃ L, L = t.length := ⟨_, rfl⟩
    have f9 : w5.cell? ⟨G9, 0, none⟩ = some (nmS 0) := hcc9 0 (by simp)
    have f10 : w5.cell? ⟨G10, 0, none⟩ = some (nmS 1) := hcc10 0 (by simp)
    have HT9 : Hid (∀ i, i < L → w5.cell? ⟨G9, i + 1, none⟩ = some (nmS (t.getD i 0))) := hidI (fun i hi => by
      rw [hcc9 (i + 1) (by simp; omega)]; simp; rw [List.getElem?_eq_getElem (by omega)]; simp)
    have HT10 : Hid (∀ i, i < L → w5.cell? ⟨G10, i + 1, none⟩ = some (nmS (t.getD i 0))) := hidI (fun i hi => by
      rw [hcc10 (i + 1) (by simp; omega)]; simp; rw [List.getElem?_eq_getElem (by omega)]; simp)
    simp only [List.length_cons, ← hLL]
    rw [← hLL] at htl
    have hne0 := neq31 0
    have hne1 := neq31 1
    clear hcc9 hcc10 hLL ht0 ht1
    have hl1 : ¬ ((L : Int) + 1 = 0) := by omega
    have hl2 : ¬ ((17 : Int) < (L : Int) + 1) := by omega
    go_wp2_with fail
    go_quiet (fail)
    go_wp2_with fail
    have HBF := hidI HA7.out.bel
    have hs5 := HA7.out.size
    go_loopw [11] (fun i wr => ∃ k : Nat, 1 ≤ k ∧ k ≤ L + 1 ∧ i = .int .i64 k ∧ Below w5.heap.size w5 wr) (fun i _ => L + 1 - (intOf i).toNat)
    case atStart => exact ⟨1, by omega, by omega, rfl, bel_drewN (Below.refl _ _) _⟩
    case round =>
      obtain ⟨k, hk1, hk, rfl, hb⟩ := hrel
      by_cases hlt : k < L + 1
      · obtain ⟨i, rfl⟩ : ∃ i, k = i + 1 := ⟨k - 1, by omega⟩
        have g9 := HT9.out i (by omega)
        have g10 := HT10.out i (by omega)
        rw [← hb.cell (p := ⟨G9, i + 1, none⟩) (World.block_lt_of_cell? w5 ⟨G9, 0, none⟩ f9)] at g9
        rw [← hb.cell (p := ⟨G10, i + 1, none⟩) (World.block_lt_of_cell? w5 ⟨G10, 0, none⟩ f10)] at g10
        have HB := hidI hb
        have hne := neq31 (t.getD i 0)
        generalize t.getD i 0 = y at g9 g10 hne
        clear hb f9 f10 k7 k8 hne0 hne1
        go_wp2_with fail
        go_quiet (fail)
        go_wp2_with fail
        go_roundw
        case rel => exact ⟨i + 1 + 1, by omega, by omega, by go_num, bel_drewN HB.out _⟩
        case measure => simp [intOf]; omega
      · obtain rfl : k = L + 1 := by omega
        have HB := hidI hb
        clear hb f9 f10 k7 k8 hne0 hne1
        go_wp2_with fail
        go_ret
        exact ⟨rfl, HBF.out.trans (HB.out.mono hs5)⟩
  · have hn' : (1024 : Int) < (rs.length : Int) := by omega
    generalize rs.length = n at hn' hn ⊢
    go_enter Ybaf.func7, Ybaf.ntmps7
    go_wp2_with fail
    go_ret
    exact ⟨rfl, Below.refl _ _⟩

end Go.Proofs.YbulkaiaFmt
