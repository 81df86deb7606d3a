/-
  Seat b0058aD: LawS0058CBuilt: the row (its frame after the guide's MapyProofs and the slices' shell), then the tied card.
-/
import Derived.Test.YbulkaegDoorRows
import Derived.Test.YbulkaegDoorTie
import Derived.Test.YbulkaegDoorCards
import Derived.Test.YbulkaegDoorWalk
import Derived.ProofKit
import Derived.LaidMore
import Derived.OpenShut
import Derived.Stop.Joined
import Derived.ChangeOld
import Derived.SevenTiedAt
namespace Go.Proofs.YbulkaegDoor.lawS0058CBuilt
open Go.ChangeShapes Go.WideShapes Go.ChangeAt Go.WideMaps Go.WideElems Go.RowKit

abbrev vname : String := Rows.lawS0058CBuiltSpec.vars.headD ""
theorem own : ownKnob Ybad.prog.godebug = none := by kernel_rfl
theorem laidOut : laidOutB Ybad.prog = true := by kernel_rfl
theorem gN : Ybad.prog.globalNamed vname = some 0 := by kernel_rfl
theorem tN : (Ybad.prog.globals[0]?).map (·.type) = some 26 := by kernel_rfl

/-- The door's own heap meets the condition. -/
theorem door_met (os : Os) (args : Array Value) : laidMetH Ybad.prog Rows.lawS0058CBuiltRow.laid ((World.doorLaid Ybad.prog 400 os).forCall (fun _ _ => 0) ⟨#[], args, []⟩).memory :=
  laidMetH_of_parts3 (fuel := 8) (laidMet_of_run' 8 (by kernel_rfl) (by kernel_rfl)) (by kernel_rfl) (by kernel_rfl)

theorem str_of {s : ByteArray} {l : List UInt8} (h : s.data.toList = l) : s = ⟨l.toArray⟩ := by
  subst h; rfl

/-- WHAT THE CONDITION GIVES THE WALK: the variable's cell and its five strings. -/
theorem of_laid {W : World} (h : laidMetH Ybad.prog Rows.lawS0058CBuiltRow.laid W) : ∃ b off cap cs, W.var? Ybad.prog vname = some cs ∧ cs.toList = [.slice (some ⟨b, off, none⟩) 5 cap] ∧
    W.cell? ⟨0, 0, none⟩ = some (.slice (some ⟨b, off, none⟩) 5 cap) ∧ ∀ k, k < 5 → W.cell? ⟨b, off + k, none⟩ = some (.string ⟨(Pl.mk k).toArray⟩) := by
  rw [MakeChecks.laidMetH_plain _ _ _ (by kernel_rfl)] at h
  obtain ⟨ps, ⟨g0, t0, cs0, f0, p0, q0, hg0, ht0, hv0, hd0, _, _⟩, _, _⟩ := h
  obtain rfl := Option.some.inj (gN.symm.trans hg0)
  obtain rfl := Option.some.inj (tN.symm.trans ht0)
  obtain ⟨a, cap, hcs, _, hel⟩ := open_row Ybad.underlying26 (by kernel_rfl) hd0
  obtain ⟨v0, n0, r0, hc0, hr0⟩ := hel 0 _ rfl
  obtain ⟨b, off, spot⟩ := a
  have hspot : spot = none := by simpa [Addr.add] using World.cell?_spot hc0
  subst hspot
  have hcs' : cs0.toList = [.slice (some ⟨b, off, none⟩) 5 cap] := hcs
  refine ⟨b, off, cap, cs0, hv0, hcs', ?_, ?_⟩
  · have := World.var?_cell hg0 hv0 0
    rw [Array.eq_one_of_toList hcs'] at this
    simpa using this
  · have key : ∀ i (l : List UInt8), (∃ v n q, W.cell? ((⟨b, off, none⟩ : Addr).add i) = some v ∧ DataW.trod (fun _ => ()) Ybad.prog W 0 (fun _ => true) false n 9 [v] = some (.lit (.string l), q)) → W.cell? ⟨b, off + i, none⟩ = some (.string ⟨l.toArray⟩) := by
      rintro i l ⟨v, n, q, hc, hr⟩
      obtain ⟨s, e1, e2, _⟩ := DataW.trod_string Ybad.underlying9 hr
      simp only [List.cons.injEq, and_true] at e1
      simp only [Prod.mk.injEq, DataW.lit.injEq, Lit.string.injEq] at e2
      subst e1
      rw [str_of e2.1.symm, Addr.add_lit] at hc
      exact hc
    intro k hk
    match k, hk with
    | 0, _ => exact key 0 _ (hel 0 _ rfl)
    | 1, _ => exact key 1 _ (hel 1 _ rfl)
    | 2, _ => exact key 2 _ (hel 2 _ rfl)
    | 3, _ => exact key 3 _ (hel 3 _ rfl)
    | 4, _ => exact key 4 _ (hel 4 _ rfl)

theorem u8_bounds {z : Int} (h : (Lit.int .u8 z).wf = true) : 0 ≤ z ∧ z ≤ 255 := by
  exact bounds_u8 h

/-- THE WALK, at any slice that came in. -/
theorem walk (m : Int) (a1 : Option Addr) (len cap : Nat) (q : Bool) (b off capg : Nat) (w : World) (hm : (Lit.int .u8 m).wf = true)
    (hrow : (a1 = none ∧ len = 0) ∨ ∃ (x : Addr) (zs : List Int), a1 = some x ∧ len ≤ cap ∧ zs.length = cap ∧ (∀ i, i < zs.length → w.cell? (x.add i) = some (.int .u8 (zs.getD i 0))) ∧ ∀ n ∈ zs, (Lit.int .u8 n).wf = true)
    (hg : w.cell? ⟨0, 0, none⟩ = some (.slice (some ⟨b, off, none⟩) 5 capg))
    (hmk : ∀ k, k < 5 → w.cell? ⟨b, off + k, none⟩ = some (.string ⟨(Pl.mk k).toArray⟩)) :
    Calls Ybad.prog 4 #[.int .u8 m, .slice a1 len cap, .bool q] w fun e w' => e = .returned (.bool true) ∧ Below w.heap.size w w' := by
  obtain ⟨hm0, hm1⟩ := u8_bounds hm
  by_cases hbig : 1024 < len
  · clear hrow hg hmk
    go_enter Ybad.func4, Ybad.ntmps4
    go_wp2
    go_ret
    exact ⟨rfl, Below.refl _ _⟩
  · rcases hrow with ⟨rfl, rfl⟩ | ⟨x, zs, rfl, hl, hz, hc, hwz⟩
    · exact core m none 0 cap [] q b off capg 0 0 w hm0 hm1 (by omega) (by simp) (fun k => by simp) (fun h => by omega) (fun k h => by omega) hg hmk
    · obtain ⟨bb, oo, spot⟩ := x
      have hzb : ∀ k, 0 ≤ zs.getD k 0 ∧ zs.getD k 0 ≤ 255 := by
        intro k
        by_cases hk : k < zs.length
        · have e : zs.getD k 0 = zs[k] := by simp [hk]
          rw [e]
          exact u8_bounds (hwz _ (List.getElem_mem hk))
        · have e : zs.getD k 0 = 0 := by simp [Nat.le_of_not_lt hk]
          rw [e]; omega
      refine core m _ len cap zs q b off capg bb oo w hm0 hm1 (by omega) (by omega) hzb (fun h => ?_) (fun k h => ?_) hg hmk
      · have hspot : spot = none := by simpa [Addr.add] using World.cell?_spot (hc 0 (by omega))
        rw [hspot]
      · have hspot : spot = none := by simpa [Addr.add] using World.cell?_spot (hc 0 (by omega))
        subst hspot
        have := hc k (by omega)
        rwa [Addr.add_lit] at this

set_option maxRecDepth 100000 in
theorem lifted (os : Os) (started : os.Started) (H : Type) (enc : TypeId × Value → H) :
    ReturnsInHanded {} Ybad.checked os 4 .any (fun w args => (Rows.lawS0058CBuiltSpec.pre enc Ybad.prog Ybad.f4 [] false w args ∧ laidMetH Ybad.prog Rows.lawS0058CBuiltRow.laid w) ∧ sizedMet enc Ybad.prog Ybad.f4 (OpenSpec.ofChange Rows.lawS0058CBuiltSpec) false w args)
      (Rows.lawS0058CBuiltSpec.post enc Ybad.prog Ybad.f4 false true false false) := by
  refine returnsInHanded_of_change_and (C := Ybad.checked) (X := fun w _ => laidMetH Ybad.prog Rows.lawS0058CBuiltRow.laid w) (fun _ _ _ hh h => h.of_heap hh) own started (by kernel_rfl) Ybad.func4
    (ChangeSpec.witness_shaped (enc := enc) (C := Ybad.checked) (os := os) (X := fun w _ => laidMetH Ybad.prog Rows.lawS0058CBuiltRow.laid w) false (World.doorLaid Ybad.prog 400 os) #[.int .u8 0, .slice none 0 0, .bool false] 8 rfl (World.shaped_of_RefB (by kernel_rfl) (by kernel_rfl)) (by kernel_rfl) (by kernel_rfl) (by kernel_rfl) (door_met os _)) ?_
  intro W base args ds gs before hval0 hW _ _ hL _
  have hval : ∀ (j : Nat) t v, Ybad.f4.params[j]? = some t → args[j]? = some v → Value.okWide Ybad.prog W .any base t v := hval0
  have hW' := hW
  obtain ⟨p, q, hA0, hV0, rfl, hfz, hnd⟩ := hW
  have hA : DataW.TrodAll enc Ybad.prog W 0 (fun _ => true) true Ybad.f4.params.toList args.toList ds p := hA0
  have hV : DataW.TrodVars enc Ybad.prog W (fun _ => true) [vname] gs q := hV0
  rw [Ybad.params4] at hA hval
  obtain ⟨v0, v1, v2, d0, d1, d2, p0, p1, p2, rfl, rfl, rfl, h0, h1, h2⟩ := trodAll_three hA
  obtain ⟨m, rfl, rfl, rfl, wm⟩ := open_int Ybad.underlying5 (hval 0 5 v0 rfl rfl) h0
  obtain ⟨qt, rfl, rfl, rfl⟩ := open_bool Ybad.underlying4 (hval 2 4 v2 rfl rfl) h2
  obtain ⟨a1, len1, cap1, rfl⟩ := okWide_slice Ybad.underlying23 (hval 1 23 v1 rfl rfl)
  have k1 := h1
  have lt1 : ∀ x ∈ p1, x.block < W.heap.size := by obtain ⟨n, hn⟩ := k1; exact DataW.trod_lt n _ _ _ hn
  have hrow : (a1 = none ∧ len1 = 0) ∨ ∃ (x : Addr) (zs : List Int), a1 = some x ∧ len1 ≤ cap1 ∧ zs.length = cap1 ∧ (∀ i, i < zs.length → W.cell? (x.add i) = some (.int .u8 (zs.getD i 0))) ∧ ∀ n ∈ zs, (Lit.int .u8 n).wf = true := by
    obtain ⟨fuel, hf⟩ := h1
    rcases open_ints Ybad.underlying23 Ybad.underlying5 (by kernel_rfl) hf with ⟨hcs, _⟩ | ⟨x, l, c, zs, hcs, _, hl, hm, hz, _, hcell, hwz⟩
    · simp [Value.cells] at hcs
      obtain ⟨rfl, rfl, rfl⟩ := hcs
      exact .inl ⟨rfl, rfl⟩
    · simp [Value.cells] at hcs
      obtain ⟨rfl, rfl, rfl⟩ := hcs
      exact .inr ⟨_, zs, rfl, hl, by simpa using hz, hcell, hwz⟩
  obtain ⟨b, off, capg, cs0, hv0, hcs0, hg, hmk⟩ := of_laid hL
  obtain ⟨g, t, cs, fuel, d, p', rfl, hgn, htn, hvar, hd, rfl⟩ := trodVars_one hV
  obtain rfl := Option.some.inj (gN.symm.trans hgn)
  obtain rfl := Option.some.inj (tN.symm.trans htn)
  obtain rfl := Option.some.inj (hv0.symm.trans hvar)
  rw [hcs0] at hd
  have kV : DataW.Trod enc Ybad.prog W 0 (fun _ => true) true 26 (.slice (some ⟨b, off, none⟩) 5 capg) d p' := ⟨fuel, by simpa [Value.cells] using hd⟩
  have ltV : ∀ x ∈ p', x.block < W.heap.size := DataW.trod_lt fuel _ _ _ hd
  clear hA0 hV0 hval0
  refine (walk m a1 len1 cap1 qt b off capg W wm hrow hg hmk).mono fun e W' ⟨he, bel⟩ => ?_
  subst he
  have h0lt : 0 < W.heap.size := World.block_lt_of_cell? W _ hg
  have hvars : DataW.TrodVars enc Ybad.prog W' (fun b => decide (b < W.heap.size)) [vname] [d] (MemPlace.row ⟨0, 0, none⟩ cs0.size ++ p') := by
    obtain ⟨f', hd'⟩ := Below.trod laidOut (by kernel_rfl) (of_decide_eq_true (by kernel_rfl)) kV bel ltV
    exact trodVars_mk1 gN tN (var?_below bel gN h0lt hv0) (by rw [hcs0]; simpa [Value.cells] using hd')
  exact ⟨_, rfl, _, _, _, [], _, _, hW', trodAll_mk1 (shut_bool Ybad.underlying4 _), (trodAll_cons_mk (shut_int Ybad.underlying5 wm) (trodAll_cons_mk (Below.trod laidOut (by kernel_rfl) (of_decide_eq_true (by kernel_rfl)) k1 bel lt1) (trodAll_cons_mk (shut_bool Ybad.underlying4 _) trodAll_mk0))), hvars, bel.frame _, fun h => by cases h⟩

theorem row_holds : Rows.LawS0058CBuiltSaid :=
  OpenClaim.holds_of_wide 4 Ybad.f4 rfl rfl rfl rfl rfl rfl rfl ⟨rfl, rfl, rfl, rfl, rfl⟩ rfl rfl rfl rfl rfl (by kernel_rfl) Ybad.func4 (by kernel_rfl)
    (of_decide_eq_true (by kernel_rfl)) (by unfold Func.isWrapper; first | (rw [if_pos (by decide +kernel)]; kernel_rfl) | (rw [if_neg (by decide +kernel)]; exact ⟨rfl, rfl⟩))
    (fun os started H enc _ => lifted os started H enc)

/-- THE STATEMENT: the tied card. -/
theorem proved : Rows.LawS0058CBuiltCardSaid :=
  Claim7.holds_tied_plain_at .later [] [.data] true (true, "8face8582df4479b39e06ac120e7ebf6708f2f8ae42d084c365beb34ca5b08f9") false
    row_holds (fun _ h => by cases h) (by kernel_rfl) (fun _ h => by cases h) lawS0058CBuilt_row_tie rfl ⟨rfl, rfl⟩ (by kernel_rfl) rfl
    (fun f fn hf hfn => by
      obtain rfl : f = 4 := Option.some.inj ((show Ybad.prog.funcNamed Rows.lawS0058CBuiltRow.func = some 4 by kernel_rfl).symm.trans hf) |>.symm
      obtain rfl : fn = Ybad.f4 := (Option.some.inj (Ybad.func4.symm.trans hfn)).symm
      exact ⟨by kernel_rfl, fun j t ht => by
        rw [Ybad.params4] at ht
        have h3 : t = 5 ∨ t = 23 ∨ t = 4 := by
          match j, ht with
          | 0, ht => left; simpa using ht.symm
          | 1, ht => right; left; simpa using ht.symm
          | 2, ht => right; right; simpa using ht.symm
          | n + 3, ht => simp at ht
        rcases h3 with rfl | rfl | rfl
        · exact (show Ybad.prog.wantsStandIn 5 = false by kernel_rfl)
        · exact (show Ybad.prog.wantsStandIn 23 = false by kernel_rfl)
        · exact (show Ybad.prog.wantsStandIn 4 = false by kernel_rfl)⟩)
    (by kernel_rfl)

end Go.Proofs.YbulkaegDoor.lawS0058CBuilt
