/-
  Seat b0065aF: the contract of rrset (30).
-/
import Derived.Test.YbulkaiaFmtResp
import Derived.OwnWalk
set_option linter.unusedSimpArgs false
set_option linter.unusedVariables false
namespace Go.Proofs.YbulkaiaFmt
open Go.RowKit

def Pl.hit (j : Nat) (r : Pl.Rec) : Bool := Pl.typ r.t == 5 && Pl.cls r.c == 1 && Pl.lw (r.o % 5) == Pl.lw j
def Pl.first (rs : List Pl.Rec) (j : Nat) : Option Pl.Rec := rs.find? (Pl.hit j)

/-- what was picked: nothing, or first of all the record's row -/
def Sel (w : World) (f : Option Pl.Rec) (m : Nat) (ys : List Value) : Prop :=
  match f with
  | none => m = 0
  | some r => 0 < m ∧ ∃ g, WireAt w g (r.g % 5) ∧ ys[4]? = some (.slice (some ⟨g, 0, none⟩) (lenOf (r.g % 5) r.bad) (Pl.nm (r.g % 5)).length)

theorem heap_grown {w w' : World} {base e size n : Nat} {v : Value} {xs : List Value} (ho : w.ownsRow base e size v n xs) (h : w.grownBy w' v.ownBlock) {b : Nat} {cs : Array Value} {t : TypeId} {fr : Nat × Nat}
    (hb : w.heap[b]? = some (.cells cs t fr)) (ht : t ≠ e) : w'.heap[b]? = some (.cells cs t fr) := by
  refine (h.block b (Array.getElem?_eq_some_iff.1 hb).1 ?_).trans hb
  intro e1
  rcases ho.2 with ⟨rfl, _⟩ | ⟨g', cap, cur, rfl, _, hh, _⟩
  · simp [Value.ownBlock] at e1
  · simp [Value.ownBlock] at e1
    subst e1
    rw [hb] at hh
    simp at hh
    exact ht hh.2.1

/-- after k rows -/
structure SL (B T : Nat) (w : World) (j : Nat) (rs : List Pl.Rec) (k : Nat) (u : Value) (wr : World) : Prop where
  bel : Below B w wr
  size : B ≤ wr.heap.size
  key : wr.heap[T]? = some (.cells #[lwS j] 31 (0, 0))
  row : ∃ m ys, m ≤ k ∧ wr.ownsRow B 33 5 u m ys ∧ Sel wr (Pl.first (rs.take k) j) m ys

theorem Sel.far {w w' : World} {f : Option Pl.Rec} {m : Nat} {ys : List Value} (h : Sel w f m ys) (hk : ∀ g r, WireAt w g r → WireAt w' g r) : Sel w' f m ys := by
  cases f with
  | none => exact h
  | some r => obtain ⟨h1, g, h2, h3⟩ := h; exact ⟨h1, g, hk _ _ h2, h3⟩

theorem first_skip {rs : List Pl.Rec} {k j : Nat} {r : Pl.Rec} (hr : rs[k]? = some r) (hh : Pl.hit j r = false) : Pl.first (rs.take (k + 1)) j = Pl.first (rs.take k) j := by
  unfold Pl.first
  rw [List.take_add_one, hr]
  simp [hh]
theorem first_take {rs : List Pl.Rec} {k j : Nat} {r : Pl.Rec} (hr : rs[k]? = some r) (hh : Pl.hit j r = true) : Pl.first (rs.take (k + 1)) j = (Pl.first (rs.take k) j).or (some r) := by
  unfold Pl.first
  rw [List.take_add_one, hr]
  simp [hh]

theorem SL.skip {B T : Nat} {w wr W : World} {j : Nat} {rs : List Pl.Rec} {k : Nat} {u : Value} {r : Pl.Rec} (h : SL B T w j rs k u wr) (hb : Below wr.heap.size wr W) (hr : rs[k]? = some r) (hh : Pl.hit j r = false) : SL B T w j rs (k + 1) u W := by
  have h1 := h.size
  have h2 := hb.size
  obtain ⟨m, ys, hm, ho, hs⟩ := h.row
  refine ⟨h.bel.trans (hb.mono (by omega)), by omega, (hb.block T (Array.getElem?_eq_some_iff.1 h.key).1).trans h.key, m, ys, by omega, ho.kept (grown_of_below hb none) (Classical.em _), ?_⟩
  rw [first_skip hr hh]
  exact hs.far (fun g r h => WireAt.below hb h)

theorem SL.take {B T : Nat} {w wr W w3 : World} {j : Nat} {rs : List Pl.Rec} {k : Nat} {u u' : Value} {r : Pl.Rec} {m g : Nat} {ys : List Value} {o : Obj} (h : SL B T w j rs k u wr) (hb : Below wr.heap.size wr W) (hr : rs[k]? = some r) (hh : Pl.hit j r = true)
    (hm : m ≤ k) (ho : wr.ownsRow B 33 5 u m ys) (hs : Sel wr (Pl.first (rs.take k) j) m ys) (hg : WireAt wr g (r.g % 5)) (ho3 : w3.ownsRow B 33 5 u' (m + 1) (ys ++ rrCells r g)) (hgr : (W.alloc o).grownBy w3 u.ownBlock) : SL B T w j rs (k + 1) u' w3 := by
  have h1 := h.size
  have h2 := hb.size
  have hb2 : Below wr.heap.size wr (W.alloc o) := hb.alloc h2 _
  have h3 := hgr.size
  have h4 := hb2.size
  have ho2 : (W.alloc o).ownsRow B 33 5 u m ys := ho.kept (grown_of_below hb2 none) (Classical.em _)
  have hk2 : (W.alloc o).heap[T]? = some (.cells #[lwS j] 31 (0, 0)) := (hb2.block T (Array.getElem?_eq_some_iff.1 h.key).1).trans h.key
  have hw : ∀ g r, WireAt wr g r → WireAt w3 g r := fun g r hw => WireAt.grown ho2 (by decide) hgr (WireAt.below hb2 hw)
  refine ⟨(h.bel.trans (hb2.mono h1)).grown hgr (by omega) (fun k' hk' => (ho.lt k' hk').1), by omega, heap_grown ho2 hgr hk2 (by decide), m + 1, _, by omega, ho3, ?_⟩
  rw [first_take hr hh]
  have hl := ho.1
  cases hf : Pl.first (rs.take k) j with
  | none =>
    rw [hf] at hs
    have hm0 : m = 0 := hs
    subst hm0
    have hy : ys = [] := List.length_eq_zero_iff.1 (by omega)
    subst hy
    exact ⟨by omega, g, hw _ _ hg, rfl⟩
  | some r0 =>
    rw [hf] at hs
    obtain ⟨s1, g0, s2, s3⟩ := hs
    refine ⟨by omega, g0, hw _ _ s2, ?_⟩
    rw [List.getElem?_append_left (by omega)]
    exact s3

theorem SL.start {w w1 : World} {o1 o2 : Obj} {j : Nat} {rs : List Pl.Rec} (hb : Below ((w.alloc o1).alloc o2).heap.size ((w.alloc o1).alloc o2) w1) : SL w.heap.size w1.heap.size w j rs 0 (.slice none 0 0) (w1.alloc (.cells #[lwS j] 31)) := by
  have h1 := hb.size
  simp at h1
  refine ⟨((((Below.refl _ _).alloc (Nat.le_refl _) _).alloc (by simp) _).trans (hb.mono (by simp; omega))).alloc (by omega) _, by simp; omega, heap_alloc_new _ _, 0, [], Nat.le_refl _, World.ownsRow_nil _ _ _ _, ?_⟩
  simp [Pl.first, Sel]

theorem typ_two (t : Nat) : Pl.typ t = 1 ∨ Pl.typ t = 5 := by unfold Pl.typ; split <;> simp
theorem cls_two (t : Nat) : Pl.cls t = 3 ∨ Pl.cls t = 1 := by unfold Pl.cls; split <;> simp
theorem hit_typ {j : Nat} {r : Pl.Rec} (h : Pl.typ r.t = 1) : Pl.hit j r = false := by simp [Pl.hit, h]
theorem hit_cls {j : Nat} {r : Pl.Rec} (h : Pl.cls r.c = 3) : Pl.hit j r = false := by simp [Pl.hit, h]

abbrev SQ (T10 T j ro g LN CP : Nat) (w : World) : Prop := w.heap[T10]? = some (.cells #[nmS (ro % 5), Value.int IntKind.u16 5, Value.int IntKind.u16 1, Value.int IntKind.u32 60, Value.slice (some { block := g, off := 0 }) LN CP] 33 (0, 0)) ∧ w.heap[T]? = some (.cells #[lwS j] 31 (0, 0))

abbrev SC (T10 T j ro g LN CP : Nat) (w : World) : Prop := w.cell? ⟨T10, 0, none⟩ = some (nmS (ro % 5)) ∧ w.cell? ⟨T10, 1, none⟩ = some (.int .u16 5) ∧ w.cell? ⟨T10, 2, none⟩ = some (.int .u16 1) ∧ w.cell? ⟨T10, 3, none⟩ = some (.int .u32 60) ∧ w.cell? ⟨T10, 4, none⟩ = some (Value.slice (some { block := g, off := 0 }) LN CP) ∧ w.cell? ⟨T, 0, none⟩ = some (lwS j)
theorem SQ.sc {T10 T j ro g LN CP : Nat} {w : World} (h : SQ T10 T j ro g LN CP w) : SC T10 T j ro g LN CP w :=
  ⟨cell_of_row w _ 0 _ _ _ h.1, cell_of_row w _ 1 _ _ _ h.1, cell_of_row w _ 2 _ _ _ h.1, cell_of_row w _ 3 _ _ _ h.1, cell_of_row w _ 4 _ _ _ h.1, cell_of_row w _ 0 _ _ _ h.2⟩

theorem eq31 (a j : Nat) (W : World) : (binOp .eql 31 (.agg #[lwS a]) (.agg #[lwS j])).run Ybaf.prog W = .ok (.bool (Pl.lw a == Pl.lw j)) W := by
  rw [run_eql_struct]
  simp [go_sem]
  by_cases h : Pl.lw a = Pl.lw j <;> simp [h]

set_option maxRecDepth 100000 in
set_option maxHeartbeats 3200000 in
theorem rrset_any (j : Nat) (hj : j < 6) (rs : List Pl.Rec) (B : Nat) (v : Value) (xs : List Value) (w : World) (hn : rs.length ≤ 1024) (hown : w.ownsRow B 33 5 v rs.length xs) (hrr : RRs w rs xs) :
    Calls Ybaf.prog 30 #[.agg #[.int .i64 0, v, .slice none 0 0], .agg #[nmS j], .int .u16 5] w fun e w' => ∃ u m ys, e = .returned u ∧ Below w.heap.size w w' ∧ m ≤ 1024 ∧ w'.ownsRow w.heap.size 33 5 u m ys ∧ Sel w' (Pl.first rs j) m ys := by
  obtain ⟨i33, hi33, hz33, hs33, hb33⟩ := info_parts Ybaf.info33
  obtain ⟨va, vc, rfl⟩ := own_form hown
  have HLO := hidI (lower_any j hj)
  have HRR := hidI hrr
  obtain ⟨n, hnn⟩ : ∃ n, n = rs.length := ⟨_, rfl⟩
  rw [← hnn] at hn hown ⊢
  have HOWN := hidI hown
  have HN := hidI hnn
  clear hown hrr hnn
  go_enter Ybaf.func30, Ybaf.ntmps30
  go_wp2_with fail
  refine (HLO.out _).mono ?_
  rintro e w1 ⟨rfl, hb⟩
  have hlt : ∀ o o2, w.heap.size < ((w.alloc o).alloc o2).heap.size := fun o o2 => by rw [World.size_alloc, World.size_alloc]; omega
  have hc1 : w1.cell? ⟨w.heap.size, 1, none⟩ = some (.slice va n vc) := by rw [hb.cell (p := ⟨w.heap.size, 1, none⟩) (hlt _ _)]; simp
  have hz : w.heap.size < w1.heap.size := Nat.lt_of_lt_of_le (hlt _ _) hb.size
  have HL := hidI (SL.start (j := j) (rs := rs) hb)
  clear hb hlt
  go_wp2_with fail
  generalize w1.alloc (.cells #[lwS j] 31) = W0 at HL ⊢
  clear hc1
  go_loopw [8, 16] (fun u i wr => ∃ k : Nat, k ≤ n ∧ i = .int .i64 k ∧ SL w.heap.size w1.heap.size w j rs k u wr) (fun _ i _ => n - (intOf i).toNat)
  case atStart => exact ⟨0, by omega, rfl, HL.out⟩
  case round =>
    clear HL
    obtain ⟨k, hk, rfl, hL⟩ := hrel
    have HL := hidI hL
    by_cases hlt : k < n
    · obtain ⟨G, vc', cur, hv, hG, hh⟩ : ∃ G cap cur, Value.slice va n vc = .slice (some ⟨G, 0, none⟩) n cap ∧ B ≤ G ∧ w.heap[G]? = some (.cells cur 33 (0, 0)) := by
        rcases HOWN.out.2 with ⟨_, h0⟩ | ⟨G, cap, cur, h1, h2, h3, _⟩
        · omega
        · exact ⟨G, cap, cur, h1, h2, h3⟩
      simp at hv
      obtain ⟨rfl, rfl⟩ := hv
      have hGs : G < w.heap.size := (Array.getElem?_eq_some_iff.1 hh).1
      clear hh
      obtain ⟨r, hr⟩ : ∃ r, rs[k]? = some r := ⟨rs[k]'(by rw [← HN.out]; exact hlt), by simp⟩
      obtain ⟨g, hg, hrc⟩ := HRR.out.2 k r hr
      have hck : ∀ q, q < 5 → wr.cell? ⟨G, k * 5 + q, none⟩ = (rrCells r g)[q]? := fun q hq => by
        rw [hL.bel.cell (p := ⟨G, k * 5 + q, none⟩) hGs, World.ownsRow.cellAt HOWN.out (k * 5 + q) (by omega)]
        exact hrc q hq
      have HG := hidI ((hL.bel.block g (Array.getElem?_eq_some_iff.1 hg).1).trans hg : WireAt wr g (r.g % 5))
      have c0 := hck 0 (by omega)
      have c1 := hck 1 (by omega)
      have c2 := hck 2 (by omega)
      have c3 := hck 3 (by omega)
      have c4 := hck 4 (by omega)
      simp [rrCells] at c0 c1 c2 c3 c4
      have hkey := cell_of_row wr _ 0 _ _ _ hL.key
      simp at hkey
      have HR := hidI hr
      clear hck hrc hg hr hL
      have hT : w1.heap.size < wr.heap.size := (Array.getElem?_eq_some_iff.1 HL.out.key).1
      obtain ⟨ro, rt, rc, rg, rb⟩ := r
      dsimp only at c0 c1 c2 c3 c4 HG
      have HLR := hidI (lower_any (ro % 5) (Nat.lt_of_lt_of_le (Nat.mod_lt _ (by decide)) (by decide)))
      have HEQ := eq31 (ro % 5) j
      generalize hln : lenOf (rg % 5) rb = LN at c4
      generalize hcp : (Pl.nm (rg % 5)).length = CP at c4
      have HLN := hidI hln
      have HCP := hidI hcp
      clear hln hcp
      rcases typ_two rt with hty | hty
      · rw [hty] at c1
        have HH := hidI (hit_typ (j := j) (r := ⟨ro, rt, rc, rg, rb⟩) hty)
        go_wp2_with fail
        go_region
        all_goals
          go_wp2_with fail
          go_roundw
          case rel => exact ⟨k + 1, by omega, by go_num, HL.out.skip (((Below.refl _ _).alloc (Nat.le_refl _) _).drew) HR.out HH.out⟩
          case measure => simp [intOf]; omega
      · rw [hty] at c1
        rcases cls_two rc with hcl | hcl
        · rw [hcl] at c2
          have HH := hidI (hit_cls (j := j) (r := ⟨ro, rt, rc, rg, rb⟩) hcl)
          go_wp2_with fail
          go_region
          all_goals
            go_wp2_with fail
            go_roundw
            case rel => exact ⟨k + 1, by omega, by go_num, HL.out.skip (((Below.refl _ _).alloc (Nat.le_refl _) _).drew) HR.out HH.out⟩
            case measure => simp [intOf]; omega
        · rw [hcl] at c2
          have hns : #[nmS (ro % 5), Value.int IntKind.u16 5, Value.int IntKind.u16 1, Value.int IntKind.u32 60, Value.slice (some { block := g, off := 0 }) LN CP].toList = rrCells ⟨ro, rt, rc, rg, rb⟩ g := by
            simp [rrCells, hty, hcl, HLN.out, HCP.out]
          have HNS := hidI hns
          clear hns
          obtain ⟨m, ys, hm, ho, hse⟩ := HL.out.row
          obtain ⟨ua, uc, rfl⟩ := own_form ho
          have HO := hidI ho
          have HSE := hidI hse
          clear ho hse
          go_wp2_with fail
          generalize hW : (wr.alloc (Obj.cells #[Value.string { data := (Pl.nm (ro % 5)).toArray }, Value.int IntKind.u16 5, Value.int IntKind.u16 1, Value.int IntKind.u32 60, Value.slice (some { block := g, off := 0 }) LN CP] 33)) = W
          have hWs : W.heap.size = wr.heap.size + 1 := by rw [← hW]; simp
          have hWb : Below wr.heap.size wr W := by rw [← hW]; exact (Below.refl _ _).alloc (Nat.le_refl _) _
          have hWh : W.heap[wr.heap.size]? = some (.cells #[nmS (ro % 5), Value.int IntKind.u16 5, Value.int IntKind.u16 1, Value.int IntKind.u32 60, Value.slice (some { block := g, off := 0 }) LN CP] 33 (0, 0)) := by rw [← hW]; exact heap_alloc_new _ _
          have hWk : W.heap[w1.heap.size]? = some (.cells #[lwS j] 31 (0, 0)) := (hWb.block _ hT).trans HL.out.key
          have HS : Hid (SC wr.heap.size w1.heap.size j ro g LN CP W) := hidI (SQ.sc ⟨hWh, hWk⟩)
          have HSd : Hid (SC wr.heap.size w1.heap.size j ro g LN CP W.drew) := HS
          have HF : Hid (∀ w2, Below W.drew.heap.size W.drew w2 → SC wr.heap.size w1.heap.size j ro g LN CP w2 ∧ Below wr.heap.size wr w2) := hidI (fun w2 hb => by
            have hb1 : Below W.heap.size W w2 := ⟨hb.os, hb.tape, hb.output, hb.size, hb.block⟩
            exact ⟨SQ.sc ⟨(hb1.block _ (by omega)).trans hWh, (hb1.block _ (by omega)).trans hWk⟩, hWb.trans (hb1.mono (by omega))⟩)
          clear hW hWb hWh hWk c0 c1 c2 c3 c4 hkey
          cases hq : (Pl.lw (ro % 5) == Pl.lw j)
          · have HH : Hid (Pl.hit j ⟨ro, rt, rc, rg, rb⟩ = false) := hidI (by simp only [Pl.hit, hq]; simp)
            rw [hq] at HEQ
            clear hq
            go_region_held3 (fun w' => SC wr.heap.size w1.heap.size j ro g LN CP w')
              (first | with_reducible exact HS1.out | with_reducible exact HSd.out | with_reducible exact HS.out)
              (first
                | (go_at_call 37; refine (HLR.out _).mono ?_; rintro e w2 ⟨rfl, hb⟩; obtain ⟨hs1, hb1⟩ := HF.out w2 hb; have HS1 := hidI hs1; have HB1 := hidI hb1; clear hb hs1 hb1)
                | fail)
            all_goals
              go_wp2_with fail
              go_roundw
              case rel => exact ⟨k + 1, by omega, by go_num, HL.out.skip HB1.out HR.out HH.out⟩
              case measure => simp [intOf]; omega
          · have HH : Hid (Pl.hit j ⟨ro, rt, rc, rg, rb⟩ = true) := hidI (by simp only [Pl.hit, hty, hcl, hq]; rfl)
            rw [hq] at HEQ
            clear hq
            have hsz := HL.out.size
            go_region_held3 (fun w' => SC wr.heap.size w1.heap.size j ro g LN CP w')
              (first | with_reducible exact HS1.out | with_reducible exact HSd.out | with_reducible exact HS.out)
              (first
                | (go_at_call 37; refine (HLR.out _).mono ?_; rintro e w2 ⟨rfl, hb⟩; obtain ⟨hs1, hb1⟩ := HF.out w2 hb; have HS1 := hidI hs1; have HB1 := hidI hb1; clear hb hs1 hb1)
                | fail)
            all_goals
              obtain ⟨d0, d1, d2, d3, d4, _⟩ := HS1.out
              have ho2 := (HO.out.kept (grown_of_below HB1.out none) (Classical.em _)).alloc (.cells #[nmS (ro % 5), Value.int IntKind.u16 5, Value.int IntKind.u16 1, Value.int IntKind.u32 60, Value.slice (some { block := g, off := 0 }) LN CP] 33)
              have HO2 := hidI ho2
              clear ho2
              have hz2 : w.heap.size ≤ (w2.alloc (.cells #[nmS (ro % 5), Value.int IntKind.u16 5, Value.int IntKind.u16 1, Value.int IntKind.u32 60, Value.slice (some { block := g, off := 0 }) LN CP] 33)).heap.size := by
                rw [World.size_alloc]; have := HB1.out.size; omega
              have h1c : ∀ u ∈ #[nmS (ro % 5), Value.int IntKind.u16 5, Value.int IntKind.u16 1, Value.int IntKind.u32 60, Value.slice (some { block := g, off := 0 }) LN CP].toList, u.oneCell' = true := by
                intro u hu
                simp at hu
                rcases hu with rfl | rfl | rfl | rfl | rfl <;> rfl
              have hml : m + 1 ≤ maxLen := by unfold maxLen; omega
              have hby : (m + 1) * 48 ≤ 140737488355328 := by omega
              go_wp2_with (at_builtin; refine wpList_append_own_at _ rfl (.tmp 36) (.tmp 38) 48 rfl w.heap.size 33 i33 _ 5 48 Ybaf.underlying48 hi33 hz33 hs33 hb33 rfl (by decide) (.slice ua m uc) m ys rfl HO2.out ⟨w2.heap.size, 0, none⟩ 1 1 #[nmS (ro % 5), Value.int IntKind.u16 5, Value.int IntKind.u16 1, Value.int IntKind.u32 60, Value.slice (some { block := g, off := 0 }) LN CP].toList rfl rfl (news_cells _ _ _) h1c hml hby hz2 ?_; intro u' w3 hown3 hgrow3 _ _)
              have HO3 := hidI hown3
              have HG3 := hidI hgrow3
              clear hown3 hgrow3
              go_roundw
              case rel =>
                have h3 := HO3.out
                rw [HNS.out] at h3
                exact ⟨k + 1, by omega, by go_num, HL.out.take HB1.out HR.out HH.out hm HO.out HSE.out HG.out h3 HG3.out⟩
              case measure => simp [intOf]; omega
    · obtain rfl : k = n := by omega
      clear hL
      have HRK : Hid (rs.take k = rs) := hidI (by rw [HN.out]; exact List.take_length)
      go_wp2_with fail
      go_ret
      obtain ⟨m, ys, hm, ho, hse⟩ := HL.out.row
      rw [HRK.out] at hse
      exact ⟨_, m, ys, rfl, HL.out.bel, by omega, ho, hse⟩

end Go.Proofs.YbulkaiaFmt
