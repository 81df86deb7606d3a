/-
  Seat b0065aF: the contract of Chase (17).
-/
import Derived.Test.YbulkaiaFmtRrset
set_option linter.unusedSimpArgs false
set_option linter.unusedVariables false
namespace Go.Proofs.YbulkaiaFmt
open Go.RowKit

/-- the walk along the chain: n more steps from a path -/
def Pl.go (rs : List Pl.Rec) : Nat → List Nat → List Nat
  | 0, p => p
  | n + 1, p => match Pl.first rs (p.getLastD 5) with
    | none => p
    | some r => Pl.go rs n (p ++ [idOf (r.g % 5) r.bad])
def Pl.chase (rs : List Pl.Rec) (j : Nat) (q : Int) : List Nat := if q = 5 then [j] else Pl.go rs 16 [j]

structure CL (B : Nat) (w : World) (rs : List Pl.Rec) (j : Nat) (rv : Value) (k : Nat) (p : List Nat) (v : Value) (wr : World) : Prop where
  bel : Below B w wr
  size : B + 3 ≤ wr.heap.size
  box : wr.heap[B]? = some (.cells #[.int .i64 0, rv, .slice none 0 0] 50 (0, 0))
  len : p.length = k + 1
  ids : ∀ x ∈ p, x < 6
  run : Pl.go rs (16 - k) p = Pl.go rs 16 [j]
  own : wr.ownsRow (B + 2) 31 1 v (k + 1) (p.map nmS)

theorem row_start (w : World) (o1 o2 : Obj) (j : Nat) : (((w.alloc o1).alloc o2).alloc (.cells #[nmS j] 31)).ownsRow (w.heap.size + 2) 31 1 (.slice (some ⟨w.heap.size + 1 + 1, 0, none⟩) 1 1) 1 [nmS j] := by
  have h := heap_alloc_new ((w.alloc o1).alloc o2) (.cells #[nmS j] 31)
  rw [World.size_alloc, World.size_alloc] at h
  exact ⟨rfl, .inr ⟨_, 1, _, rfl, Nat.le_refl _, h, Nat.le_refl _, by unfold maxLen; omega, rfl, rfl⟩⟩

theorem CL.start (w : World) (rs : List Pl.Rec) (j : Nat) (hj : j < 6) (rv : Value) (o2 : Obj) : CL w.heap.size w rs j rv 0 [j] (.slice (some ⟨w.heap.size + 1 + 1, 0, none⟩) 1 1) (((w.alloc (.cells #[.int .i64 0, rv, .slice none 0 0] 50)).alloc o2).alloc (.cells #[nmS j] 31)) := by
  refine ⟨(((Below.refl _ _).alloc (Nat.le_refl _) _).alloc (by simp) _).alloc (by simp; omega) _, by simp, ?_, rfl, by simp; exact hj, rfl, row_start _ _ _ _⟩
  rw [Below.heap_alloc _ _ _ (by simp; omega), Below.heap_alloc _ _ _ (by simp)]
  exact heap_alloc_new _ _

theorem own_base {w : World} {b b' e size n : Nat} {v : Value} {xs : List Value} (hb : b ≤ b') (h : w.ownsRow b' e size v n xs) : w.ownsRow b e size v n xs := by
  refine ⟨h.1, ?_⟩
  rcases h.2 with h0 | ⟨g, cap, cur, hv, hg, r⟩
  · exact .inl h0
  · exact .inr ⟨g, cap, cur, hv, by omega, r⟩

theorem last_cell {p : List Nat} {k : Nat} (hl : p.length = k + 1) : (p.map nmS)[k]? = some (nmS (p.getLastD 5)) := by
  rw [List.getElem?_map, List.getLastD_eq_getLast?, List.getLast?_eq_getElem?, hl, Nat.add_sub_cancel]
  have : k < p.length := by omega
  simp [this]
theorem last_lt {p : List Nat} (h : ∀ x ∈ p, x < 6) : p.getLastD 5 < 6 := by
  rw [List.getLastD_eq_getLast?]
  cases hl : p.getLast? with
  | none => decide
  | some a => exact h a (List.mem_of_getLast? hl)

theorem news_cells2 (w : World) (o : Obj) (v : Value) : ∀ i u, [v][i]? = some u → ((w.alloc o).alloc (.cells #[v] 31)).cell? ((⟨w.heap.size + 1, 0, none⟩ : Addr).add i) = some u := by
  intro i u h
  have := news_cells (w.alloc o) #[v] 31 i u h
  rwa [World.size_alloc] at this

theorem CL.more {B : Nat} {w wr W w3 : World} {rs : List Pl.Rec} {j : Nat} {rv : Value} {k : Nat} {p : List Nat} {v v' : Value} {r : Pl.Rec} {id : Nat} (hL : CL B w rs j rv k p v wr) (hk : k < 16) (hf : Pl.first rs (p.getLastD 5) = some r) (hid : idOf (r.g % 5) r.bad = id)
    (hb : Below wr.heap.size wr W) (h3 : w3.ownsRow (B + 2) 31 1 v' (k + 1 + 1) (p.map nmS ++ [nmS id])) (h4 : W.grownBy w3 v.ownBlock) : CL B w rs j rv (k + 1) (p ++ [id]) v' w3 := by
  have h1 := hL.size
  have h2 := hb.size
  have h5 := h4.size
  refine ⟨(hL.bel.trans (hb.mono (by omega))).grown h4 (by omega) (fun k' hk' => by have := (hL.own.lt k' hk').1; omega), by omega, ?_, by simp [hL.len], ?_, ?_, by simpa using h3⟩
  · rw [h4.block B (by omega) (by intro e; have := (hL.own.lt B e.symm).1; omega), hb.block B (by omega)]
    exact hL.box
  · intro x hx
    simp at hx
    rcases hx with hx | rfl
    · exact hL.ids x hx
    · rw [← hid]; unfold idOf; split
      · decide
      · have := Nat.mod_lt r.g (show 0 < 5 by decide); omega
  · rw [← hL.run, show 16 - k = (16 - (k + 1)) + 1 by omega]
    simp only [Pl.go, hf, hid]

abbrev SP (B G k : Nat) (rv : Value) (last : Nat) (w : World) : Prop :=
  w.cell? ⟨B, 0, none⟩ = some (.int .i64 0) ∧ w.cell? ⟨B, 1, none⟩ = some rv ∧ w.cell? ⟨B, 2, none⟩ = some (.slice none 0 0) ∧ w.cell? ⟨G, k, none⟩ = some (nmS last)

set_option maxRecDepth 100000 in
set_option maxHeartbeats 3200000 in
theorem chase_any (j : Nat) (hj : j < 6) (q : Int) (rs : List Pl.Rec) (B : Nat) (rv : Value) (xs : List Value) (w : World) (v1 : Value) (hv : w.cell? ⟨1, 0, none⟩ = some v1) (hn : rs.length ≤ 1024) (hown : w.ownsRow B 33 5 rv rs.length xs) (hrr : RRs w rs xs) :
    Calls Ybaf.prog 17 #[.agg #[.int .i64 0, rv, .slice none 0 0], .agg #[nmS j], .int .u16 q] w fun e w' => ∃ v, e = .returned v ∧ Below w.heap.size w w' ∧ w'.ownsRow w.heap.size 31 1 v (Pl.chase rs j q).length ((Pl.chase rs j q).map nmS) := by
  obtain ⟨i31, hi31, hz31, hs31, hb31⟩ := info_parts Ybaf.info31
  obtain ⟨va, vc, rfl⟩ := own_form hown
  have HRR := hidI hrr
  have HV := hidI hv
  have HNL := hidI hn
  obtain ⟨n, hnn⟩ : ∃ n, n = rs.length := ⟨_, rfl⟩
  have HOWN := hidI hown
  rw [← hnn] at HOWN ⊢
  have HN := hidI hnn
  clear hown hrr hv hn hnn
  by_cases h5 : q = 5
  · subst h5
    go_enter Ybaf.func17, Ybaf.ntmps17
    go_wp2_with fail
    go_ret
    refine ⟨_, rfl, (((Below.refl _ _).alloc (Nat.le_refl _) _).alloc (by simp) _).alloc (by simp; omega) _, ?_⟩
    exact own_base (by omega) (row_start w _ _ j)
  · have hq5 : (q == 5) = false := by simpa using h5
    have hqd : decide (q = 5) = false := by simpa using h5
    have hch : Pl.chase rs j q = Pl.go rs 16 [j] := by simp [Pl.chase, h5]
    rw [hch]
    clear hch
    go_enter Ybaf.func17, Ybaf.ntmps17
    go_wp2_with fail
    have HL := hidI (CL.start w rs j hj (.slice va n vc) (Obj.cells #[nmS j] 31))
    generalize (((w.alloc (Obj.cells #[Value.int IntKind.i64 0, Value.slice va n vc, Value.slice none 0 0] 50)).alloc (Obj.cells #[nmS j] 31)).alloc (Obj.cells #[nmS j] 31)) = W0 at HL ⊢
    go_loopw [7, 17] (fun v i wr => ∃ (k : Nat) (p : List Nat), k ≤ 16 ∧ i = .int .i64 k ∧ CL w.heap.size w rs j (.slice va n vc) k p v wr) (fun _ i _ => 16 - (intOf i).toNat)
    case atStart => exact ⟨0, [j], by omega, rfl, HL.out⟩
    case round =>
      clear HL
      obtain ⟨k, p, hk, rfl, hL⟩ := hrel
      have HL := hidI hL
      by_cases hlt : k < 16
      · obtain ⟨G, cap, hv7, hGb, hGs⟩ : ∃ G cap, u7 = .slice (some ⟨G, 0, none⟩) (k + 1) cap ∧ w.heap.size + 2 ≤ G ∧ G < wr.heap.size := by
          rcases hL.own.2 with ⟨_, h0⟩ | ⟨G, cap, cur, h1, h2, h3, _⟩
          · omega
          · exact ⟨G, cap, h1, h2, (Array.getElem?_eq_some_iff.1 h3).1⟩
        subst hv7
        obtain ⟨la, hla⟩ : ∃ la, la = p.getLastD 5 := ⟨_, rfl⟩
        have hlast : wr.cell? ⟨G, k, none⟩ = some (nmS la) := by
          rw [World.ownsRow.cellAt hL.own k (by omega), hla]
          exact last_cell hL.len
        have hl6 : la < 6 := by rw [hla]; exact last_lt hL.ids
        have HLA := hidI hla
        clear hla
        have b0 := cell_of_row wr _ 0 _ _ _ hL.box
        have b1 := cell_of_row wr _ 1 _ _ _ hL.box
        have b2 := cell_of_row wr _ 2 _ _ _ hL.box
        have HS : Hid (SP w.heap.size G k (.slice va n vc) la wr) := hidI ⟨b0, b1, b2, hlast⟩
        have HSd : Hid (SP w.heap.size G k (.slice va n vc) la wr.drew) := HS
        have hwb := hL.bel
        have hsz := hL.size
        have hrs := rrset_any la hl6 rs B (.slice va n vc) xs wr.drew HNL.out (HN.out ▸ (World.ownsRow.kept (w' := wr.drew) HOWN.out ⟨hwb.os, hwb.tape, hwb.output, hwb.size, fun k hk _ => hwb.block k hk⟩ (Classical.em _))) (HRR.out.far (fun g r h => (hwb.block g (Array.getElem?_eq_some_iff.1 h).1).trans h))
        have HRS := hidI hrs
        have HFS : Hid (∀ w1, Below wr.drew.heap.size wr.drew w1 → SP w.heap.size G k (.slice va n vc) la w1 ∧ Below wr.heap.size wr w1) := hidI (fun w1 hb => by
          have hb1 : Below wr.heap.size wr w1 := ⟨hb.os, hb.tape, hb.output, hb.size, hb.block⟩
          exact ⟨⟨(hb1.cell (by show w.heap.size < _; omega)).trans b0, (hb1.cell (by show w.heap.size < _; omega)).trans b1, (hb1.cell (by show w.heap.size < _; omega)).trans b2, (hb1.cell (by show G < _; omega)).trans hlast⟩, hb1⟩)
        clear hrs hwb b0 b1 b2 hlast hL
        have hwr1 : IntKind.i64.wrap (((k : Int) + 1) - 1) = (k : Int) := by rw [IntKind.wrap_i64]; omega
        have hwr2 : IntKind.i64.wrap (((k + 1 : Nat) : Int) - 1) = (k : Int) := by rw [IntKind.wrap_i64]; omega
        have hwr3 : IntKind.i64.wrap (k : Int) = (k : Int) := by rw [IntKind.wrap_i64]; omega
        have hk0 : (0 : Int) ≤ (k : Int) := by omega
        have hk1 : (k : Int) < (k : Int) + 1 := by omega
        have hk2 : ¬ ((k : Int) < 0) := by omega
        go_wp2_with fail
        go_region_held3 (fun w' => SP w.heap.size G k (.slice va n vc) la w')
          (first | with_reducible exact HS1.out | with_reducible exact HSd.out | with_reducible exact HS.out)
          (first
            | (go_at_call 30; refine (HRS.out).mono ?_; rintro e w1 ⟨u, m, ys, rfl, hb, hm, ho, hs⟩; obtain ⟨hs1, hb1⟩ := HFS.out w1 hb; have HB1 := hidI hb1; have HO1 := hidI ho; have HSE := hidI hs; have HS1 := hidI hs1; clear hb ho hs hb1 hs1)
            | fail)
        clear hwr1 hwr2 hwr3 hk0 hk1 hk2
        cases hf : Pl.first rs la with
        | none =>
          have hm0 : m = 0 := by have := HSE.out; rw [hf] at this; exact this
          subst hm0
          obtain ⟨ua, uc, rfl⟩ := own_form HO1.out
          go_wp2_with fail
          go_ret
          refine ⟨_, rfl, HL.out.bel.trans (HB1.out.mono (by omega)), ?_⟩
          have hfin : Pl.go rs 16 [j] = p := by
            rw [← HL.out.run, show 16 - k = (15 - k) + 1 by omega]
            simp only [Pl.go, ← HLA.out, hf]
          rw [hfin, HL.out.len]
          exact own_base (by omega) (HL.out.own.kept (grown_of_below HB1.out none) (Classical.em _))
        | some r =>
          obtain ⟨hm1, g, hwi, hy4⟩ : 0 < m ∧ ∃ g, WireAt w1 g (r.g % 5) ∧ ys[4]? = some (.slice (some ⟨g, 0, none⟩) (lenOf (r.g % 5) r.bad) (Pl.nm (r.g % 5)).length) := by have := HSE.out; rw [hf] at this; exact this
          obtain ⟨Gu, uc, rfl⟩ : ∃ Gu uc, u = .slice (some ⟨Gu, 0, none⟩) m uc := by
            rcases HO1.out.2 with ⟨_, h0⟩ | ⟨G, cap, cur, h1, _⟩
            · omega
            · exact ⟨G, cap, h1⟩
          have h4 : w1.cell? ⟨Gu, 4, none⟩ = some (.slice (some ⟨g, 0, none⟩) (lenOf (r.g % 5) r.bad) (Pl.nm (r.g % 5)).length) := by
            rw [World.ownsRow.cellAt HO1.out 4 (by omega)]; exact hy4
          have h1w : 1 < w.heap.size := World.block_lt_of_cell? w _ HV.out
          have HUN := hidI (Unpack_any (r.g % 5) (Nat.mod_lt _ (by decide)) r.bad g w1 v1 hwi (by
            rw [HB1.out.cell (p := ⟨1, 0, none⟩) (by show 1 < _; omega), HL.out.bel.cell (p := ⟨1, 0, none⟩) h1w]; exact HV.out))
          generalize hid : idOf (r.g % 5) r.bad = id at HUN
          have HID := hidI hid
          generalize lenOf (r.g % 5) r.bad = LN at h4 HUN
          generalize (Pl.nm (r.g % 5)).length = CP at h4 HUN
          have HFI := hidI hf
          clear hf hy4 hwi hid HSE
          have HFW : Hid (∀ w2, Below w1.heap.size w1 w2 → w.heap.size + 2 ≤ ((w2.alloc (.cells #[nmS id] 31)).alloc (.cells #[nmS id] 31)).heap.size ∧ ((w2.alloc (.cells #[nmS id] 31)).alloc (.cells #[nmS id] 31)).ownsRow (w.heap.size + 2) 31 1 (.slice (some ⟨G, 0, none⟩) (k + 1) cap) (k + 1) (p.map nmS) ∧
              (∀ v' w3, w3.ownsRow (w.heap.size + 2) 31 1 v' (k + 1 + 1) (p.map nmS ++ [nmS id]) → ((w2.alloc (.cells #[nmS id] 31)).alloc (.cells #[nmS id] 31)).grownBy w3 (Value.slice (some ⟨G, 0, none⟩) (k + 1) cap).ownBlock → CL w.heap.size w rs j (.slice va n vc) (k + 1) (p ++ [id]) v' w3)) := hidI (fun w2 hb2 => by
            have hs1 := HB1.out.size
            have hs2 := hb2.size
            have hb3 : Below wr.heap.size wr ((w2.alloc (.cells #[nmS id] 31)).alloc (.cells #[nmS id] 31)) := ((HB1.out.trans (hb2.mono hs1)).alloc (by omega) _).alloc (by rw [World.size_alloc]; omega) _
            refine ⟨by rw [World.size_alloc, World.size_alloc]; omega, HL.out.own.kept (grown_of_below hb3 none) (Classical.em _), fun v' w3 h3 h4 => ?_⟩
            exact CL.more HL.out hlt (HLA.out ▸ HFI.out) HID.out hb3 h3 h4)
          have h1c : ∀ u ∈ [nmS id], u.oneCell' = true := by intro u hu; simp at hu; subst hu; rfl
          have hml : k + 1 + 1 ≤ maxLen := by unfold maxLen; omega
          have hby : (k + 1 + 1) * 16 ≤ 140737488355328 := by omega
          go_wp2_with (first
            | (go_at_call 31; refine (HUN.out).mono ?_; rintro e w2 ⟨i2, v2, rfl, hb2⟩; obtain ⟨hz2, ho2, hcl⟩ := HFW.out w2 hb2; have HO2 := hidI ho2; have HCL := hidI hcl; clear hb2 ho2 hcl)
            | (at_builtin; refine wpList_append_own_at _ rfl (.tmp 39) (.tmp 41) 47 rfl (w.heap.size + 2) 31 i31 _ 1 16 Ybaf.underlying47 hi31 hz31 hs31 hb31 rfl (by decide) (.slice (some ⟨G, 0, none⟩) (k + 1) cap) (k + 1) (p.map nmS) rfl HO2.out ⟨w2.heap.size + 1, 0, none⟩ 1 1 [nmS id] rfl rfl (news_cells2 _ _ _) h1c hml hby hz2 ?_; intro v' w3 hown3 hgrow3 _ _; have HC3 := hidI (HCL.out v' w3 hown3 hgrow3); clear hown3 hgrow3))
          go_roundw
          case rel => exact ⟨k + 1, p ++ [id], by omega, by go_num, HC3.out⟩
          case measure => simp [intOf]; omega
      · obtain rfl : k = 16 := by omega
        clear hL
        go_wp2_with fail
        go_ret
        refine ⟨_, rfl, HL.out.bel, ?_⟩
        have hfin : Pl.go rs 16 [j] = p := by rw [← HL.out.run]; rfl
        rw [hfin, HL.out.len]
        exact own_base (by omega) HL.out.own

end Go.Proofs.YbulkaiaFmt
