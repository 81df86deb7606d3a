/-
  THE SHELL OF A PROOF OF 'Rows.LawS0068BMarkSaid' ('example.com/handoff/handoff.LawS0068BMark'), WRITTEN BY PROGRAM (proof-skeleton.mjs) off the guide's own print for that function. Not trusted: Lean checks it.
  The walk is filled; all else is the guide's template at this function's number and types.
-/
import Derived.Test.YbulkajqRows
import Derived.Test.YbulkajqMark
import Derived.WalkKit
import Derived.ProofKit
import Derived.OpenShut
import Derived.ShutString
namespace Go.Proofs.Ybulkajq.lawS0068BMark
open Go.ChangeShapes Go.WideShapes Go.ChangeAt Go.RowKit
open Go.ChangeMaps (open_string shut_string)
set_option linter.unusedVariables false      -- a walk need not use every 'w<i>' (that an integer argument fits its kind)

theorem own : ownKnob Yba.prog.godebug = none := by kernel_rfl

theorem ret_b {a : Bool} (h : a = true) : Ending.returned (.bool a) = .returned (.bool true) := by rw [h]

/-- a bit that is there is there -/
theorem or_same (s : Int) (ws : (Lit.int .i64 s).wf = true) (h : (bits .and .i64 s 8 != 0) = true) : bits .or .i64 s 8 = s := by
  have hb := bounds_i64 ws
  have e8 : BitVec.ofInt 64 8 = BitVec.twoPow 64 3 := by decide
  have hv : (BitVec.ofInt 64 s).getLsbD 3 = true := by
    rcases hc : (BitVec.ofInt 64 s).getLsbD 3 with _ | _
    · exfalso
      have hz : (BitVec.ofInt 64 s &&& BitVec.ofInt 64 8) = 0#64 := by
        apply BitVec.eq_of_getLsbD_eq
        intro i hi
        rw [BitVec.getLsbD_and, e8, BitVec.getLsbD_twoPow]
        by_cases h3 : 3 = i
        · subst h3; rw [hc]; rfl
        · simp [h3]
      have : bits .and .i64 s 8 = 0 := by
        show IntKind.i64.wrap ((BitVec.ofInt 64 s &&& BitVec.ofInt 64 8).toNat : Int) = 0
        rw [hz]; rfl
      rw [this] at h
      simp at h
    · rfl
  have ho : (BitVec.ofInt 64 s ||| BitVec.ofInt 64 8) = BitVec.ofInt 64 s := by
    apply BitVec.eq_of_getLsbD_eq
    intro i hi
    rw [BitVec.getLsbD_or, e8, BitVec.getLsbD_twoPow]
    by_cases h3 : 3 = i
    · subst h3; rw [hv]; rfl
    · simp [h3]
  show IntKind.i64.wrap ((BitVec.ofInt 64 s ||| BitVec.ofInt 64 8).toNat : Int) = s
  rw [ho, IntKind.wrap_i64, BitVec.toNat_ofInt]
  omega

/-! ### STEP 1: THE WALK: the Go text returns true. 'Grown w w'': the world has at most new blocks (Derived/RowKit3.lean). Part the cases AHEAD of 'go_enter' where a test parts the walk; take each callee by a contract of your own. -/
set_option maxRecDepth 100000 in
theorem walk (a0 : Int) (a1 : Bool) (a2 : Bool) (a3 : Bool) (w0 : (Lit.int .i64 a0).wf = true) (w : World) :
    Calls Yba.prog 3 #[.int .i64 a0, .bool a1, .bool a2, .bool a3] w fun e w' => e = .returned (.bool true) ∧ Grown w w' := by
  obtain ⟨zc, hz69, hz0⟩ := zero69
  go_enter Yba.func3, Yba.ntmps3
  go_wp2_with fail
  refine (shape_any _ _ _ _ _).mono ?_
  rintro e w1 ⟨⟨s, rfl, ws⟩, rfl⟩
  go_wp2_with fail
  have c0 : (w.alloc (.cells zc 69)).cell? ⟨w.heap.size, 0, none⟩ = some (.int .i64 0) := by rw [World.cell?_alloc_at _ _ _ _ rfl]; exact hz0
  have f0 : (w.alloc (.cells zc 69)).frozen? ⟨w.heap.size, 0, none⟩ = false := frozen_of_row _ _ _ _ _ (heap_alloc_new w _)
  refine (store_any w.heap.size s _ _ c0 f0).mono ?_
  rintro e W2 ⟨rfl, hW2⟩
  have c2 : W2.cell? ⟨w.heap.size, 0, none⟩ = some (.int .i64 s) := by rw [hW2]; exact World.cell?_setCell_same _ _ _ c0
  have f2 : W2.frozen? ⟨w.heap.size, 0, none⟩ = false := by rw [hW2, World.frozen?_setCell]; exact f0
  have g2 : Grown w W2 := by rw [hW2]; exact ((Grown.refl w).alloc zc 69).setCell (Nat.le_refl _) _
  have G2 := hidI g2
  clear hW2 c0 f0 g2 hz69 hz0
  rcases h6 : (bits .and .i64 s 6 == 2) with _ | _
  · go_wp2_with (first | (go_at_call 7; refine (mark_no w.heap.size s _ c2 h6).mono ?_; rintro e w3 ⟨rfl, rfl⟩) | (go_at_call 8; refine (load_any w.heap.size s _ c2).mono ?_; rintro e w4 ⟨rfl, rfl⟩))
    go_ret
    exact ⟨rfl, G2.out⟩
  · rcases h8 : (bits .and .i64 s 8 != 0) with _ | _
    · go_wp2_with fail
      refine (mark_cas w.heap.size s _ c2 f2 h6 h8).mono ?_
      rintro e W3 ⟨rfl, hW3⟩
      have c3 : W3.cell? ⟨w.heap.size, 0, none⟩ = some (.int .i64 (bits .or .i64 s 8)) := by rw [hW3]; exact World.cell?_setCell_same _ _ _ c2
      have G3 : Hid (Grown w W3) := hidI (by rw [hW3]; exact G2.out.setCell (Nat.le_refl _) _)
      clear hW3 c2 f2
      go_wp2_with (go_at_call 8; refine (load_any w.heap.size _ _ c3).mono ?_; rintro e w4 ⟨rfl, rfl⟩)
      go_ret
      exact ⟨rfl, G3.out⟩
    · have hor : Hid (bits .or .i64 s 8 = s) := hidI (or_same s ws h8)
      go_wp2_with (first | (go_at_call 7; refine (mark_set w.heap.size s _ c2 h6 h8).mono ?_; rintro e w3 ⟨rfl, rfl⟩) | (go_at_call 8; refine (load_any w.heap.size s _ c2).mono ?_; rintro e w4 ⟨rfl, rfl⟩))
      go_ret
      exact ⟨ret_b (by rw [hor.out]; simp), G2.out⟩

/-! ### THE ROW's STEP: WRITTEN OUT: LEAVE IT -/
set_option maxRecDepth 100000 in
theorem lifted (os : Os) (started : os.Started) (H : Type) (enc : TypeId × Value → H) :
    ReturnsInHanded {} Yba.checked os 3 .any (Rows.lawS0068BMarkSpec.pre6 enc Yba.prog Yba.f3 Rows.lawS0068BMarkRow.domain false) (Rows.lawS0068BMarkSpec.post enc Yba.prog Yba.f3 false true false false) := by
  refine returnsInHanded_of_change (C := Yba.checked) own started (by kernel_rfl) Yba.func3
    (ChangeSpec.witness6 (enc := enc) (C := Yba.checked) false ⟨#[], #[.int .i64 0, .bool false, .bool false, .bool false], []⟩ 8 (by kernel_rfl) (by kernel_rfl) (by kernel_rfl) (by kernel_rfl)) ?_
  intro W base args ds gs before hval0 hW hcnd _
  have hval : ∀ (j : Nat) t v, Yba.f3.params[j]? = some t → args[j]? = some v → Value.okWide Yba.prog W .any base t v := hval0
  have hW' := hW
  obtain ⟨p, q, hA0, hV, rfl, hfz, hnd⟩ := hW
  have hA : DataW.TrodAll enc Yba.prog W 0 (fun _ => true) true Yba.f3.params.toList args.toList ds p := hA0
  rw [Yba.params3] at hA hval
  obtain ⟨v0, vs0, d0, ds0, p0, q0, hargs, rfl, rfl, h0, r0⟩ := trodAll_cons hA
  obtain ⟨v1, vs1, d1, ds1, p1, q1, rfl, rfl, rfl, h1, r1⟩ := trodAll_cons r0
  obtain ⟨v2, vs2, d2, ds2, p2, q2, rfl, rfl, rfl, h2, r2⟩ := trodAll_cons r1
  obtain ⟨v3, vs3, d3, ds3, p3, q3, rfl, rfl, rfl, h3, r3⟩ := trodAll_cons r2
  obtain ⟨rfl, rfl, rfl⟩ := trodAll_nil r3
  obtain rfl : args = #[v0, v1, v2, v3] := by cases args; simp_all
  obtain ⟨rfl, rfl⟩ := trodVars_none hV
  obtain ⟨a0, rfl, rfl, rfl, w0⟩ := open_int Yba.underlying2 (hval 0 2 v0 rfl rfl) h0
  obtain ⟨a1, rfl, rfl, rfl⟩ := open_bool Yba.underlying4 (hval 1 4 v1 rfl rfl) h1
  obtain ⟨a2, rfl, rfl, rfl⟩ := open_bool Yba.underlying4 (hval 2 4 v2 rfl rfl) h2
  obtain ⟨a3, rfl, rfl, rfl⟩ := open_bool Yba.underlying4 (hval 3 4 v3 rfl rfl) h3
  clear hA0 hval0
  simp only [List.append_nil] at hW'
  refine (walk a0 a1 a2 a3 w0 W).mono fun e W' ⟨he, hg⟩ => ?_
  subst he
  exact ⟨_, rfl, post_of_same (pa := []) (pv := []) hW' (fun _ _ _ => (trodAll_cons_mk (shut_bool Yba.underlying4 _) trodAll_mk0)) (fun sp _ => (trodAll_cons_mk (shut_int Yba.underlying2 w0) (trodAll_cons_mk (shut_bool Yba.underlying4 _) (trodAll_cons_mk (shut_bool Yba.underlying4 _) (trodAll_cons_mk (shut_bool Yba.underlying4 _) trodAll_mk0))))) (fun _ _ => rfl) rfl
    (hg.frame _) hg.2.1 (ok_one (by kernel_rfl) rfl (okWide_bool_mk Yba.underlying4 _))⟩

theorem over : Rows.lawS0068BMarkRow.holds Yba.pinned (OpenSpec.ofChange Rows.lawS0068BMarkSpec) :=
  OpenClaim.holds_of_wide 3 Yba.f3 rfl rfl rfl rfl rfl rfl rfl ⟨rfl, rfl, rfl, rfl, rfl⟩ rfl rfl rfl rfl rfl (by kernel_rfl) Yba.func3 (by kernel_rfl)
    (of_decide_eq_true (by kernel_rfl)) (by unfold Func.isWrapper; first | (rw [if_pos (by decide +kernel)]; kernel_rfl) | (rw [if_neg (by decide +kernel)]; exact ⟨rfl, rfl⟩))
    (fun os started H enc _ => lifted os started H enc)

/-- ████ THE STATEMENT ████ -/
theorem proved : Rows.LawS0068BMarkSaid :=
  over
end Go.Proofs.Ybulkajq.lawS0068BMark
