/-
  THE SHELL OF A PROOF OF 'Rows.LawS0058BRoundTripSaid' ('example.com/pointwire/pointwire/internal/influx.LawS0058BRoundTrip'), WRITTEN BY PROGRAM (proof-skeleton.mjs) off the guide's own print for that function. Not trusted: Lean checks it.
  The walk is filled; all else is the guide's template at this function's number and types (the close by 'Below').
-/
import Derived.Test.YbulkaegRows
import Derived.Test.YbulkaegSkip
import Derived.Test.YbulkaegEscape
import Derived.WalkKit
import Derived.ProofKit
import Derived.OpenShut
import Derived.ShutString
namespace Go.Proofs.Ybulkaeg.lawS0058BRoundTrip
open Go.ChangeShapes Go.WideShapes Go.ChangeAt Go.RowKit
open Go.ChangeMaps (open_string shut_string)
set_option linter.unusedVariables false      -- a walk need not use every 'w<i>' (that an integer argument fits its kind)

theorem own : ownKnob Yba.prog.godebug = none := by kernel_rfl

theorem rest_built (E : List UInt8) (a : ByteArray) (h : Pl.scan false (E ++ 34 :: a.data.toList) = some a.data.toList) :
    Pl.rest (({ data := #[34] } : ByteArray) ++ { data := E.toArray } ++ { data := #[34] } ++ a) = some a.data.toList := by
  unfold Pl.rest
  rw [← h]
  simp [ByteArray.data_append]

/-! ### STEP 1: THE WALK: the Go text returns true. 'Grown w w'': the world has at most new blocks (Derived/RowKit3.lean). Part the cases AHEAD of 'go_enter' where a test parts the walk; take each callee by a contract of your own. -/
theorem walk (a0 : ByteArray) (a1 : ByteArray) (w0 : a0.size ≤ maxLen) (w1 : a1.size ≤ maxLen) (w : World) :
    Calls Yba.prog 4 #[.string a0, .string a1] w fun e w' => e = .returned (.bool true) ∧ Below w.heap.size w w' := by
  by_cases hb : 2048 < a0.size
  · go_enter Yba.func4, Yba.ntmps4
    go_wp2
    go_ret
    exact ⟨rfl, Below.refl _ _⟩
  · by_cases hb1 : 2048 < a1.size
    · go_enter Yba.func4, Yba.ntmps4
      go_wp2
      go_ret
      exact ⟨rfl, Below.refl _ _⟩
    · have hs : a0.size ≤ 100000 := by omega
      have hl := Pl.esc_len a0.data.toList
      have hl0 : a0.data.toList.length = a0.size := by simp
      rw [hl0] at hl
      generalize hE : Pl.esc a0.data.toList = E at hl
      have HE := hidI hE
      clear hE hl0
      go_enter Yba.func4, Yba.ntmps4
      go_wp2_with fail
      refine (escape_any _ _ hs).mono ?_
      rintro e w1 ⟨rfl, hb1⟩
      rw [HE.out]
      go_wp2_with fail
      have hx := rest_built E a1 (by rw [← HE.out]; exact Pl.scan_esc _ _)
      have hz : (({ data := #[34] } : ByteArray) ++ { data := E.toArray } ++ { data := #[34] } ++ a1).size ≤ 1000000 := by
        simp only [ByteArray.size_append]
        have e1 : ({ data := #[34] } : ByteArray).size = 1 := rfl
        have e2 : ({ data := E.toArray } : ByteArray).size = E.length := by simp [ByteArray.size]
        rw [e1, e2]; omega
      generalize (({ data := #[34] } : ByteArray) ++ { data := E.toArray } ++ { data := #[34] } ++ a1) = X at hx hz ⊢
      refine (skip_any _ _ hz).mono ?_
      rintro e w2 ⟨rfl, rfl⟩
      rw [hx]
      have hs2 : Pl.str (some a1.data.toList) = a1 := by simp [Pl.str]
      rw [hs2]
      clear hx hz hs2
      go_wp2
      go_ret
      exact ⟨rfl, hb1⟩

/-! ### THE ROW's STEP: WRITTEN OUT: LEAVE IT -/
set_option maxRecDepth 100000 in
theorem lifted (os : Os) (started : os.Started) (H : Type) (enc : TypeId × Value → H) :
    ReturnsInHanded {} Yba.checked os 4 .any (Rows.lawS0058BRoundTripSpec.pre6 enc Yba.prog Yba.f4 Rows.lawS0058BRoundTripRow.domain false) (Rows.lawS0058BRoundTripSpec.post enc Yba.prog Yba.f4 false true false false) := by
  refine returnsInHanded_of_change (C := Yba.checked) own started (by kernel_rfl) Yba.func4
    (ChangeSpec.witness6 (enc := enc) (C := Yba.checked) false ⟨#[], #[.string ByteArray.empty, .string ByteArray.empty], []⟩ 8 (by kernel_rfl) (by kernel_rfl) (by kernel_rfl) (by kernel_rfl)) ?_
  intro W base args ds gs before hval0 hW hcnd _
  have hval : ∀ (j : Nat) t v, Yba.f4.params[j]? = some t → args[j]? = some v → Value.okWide Yba.prog W .any base t v := hval0
  have hW' := hW
  obtain ⟨p, q, hA0, hV, rfl, hfz, hnd⟩ := hW
  have hA : DataW.TrodAll enc Yba.prog W 0 (fun _ => true) true Yba.f4.params.toList args.toList ds p := hA0
  rw [Yba.params4] at hA hval
  obtain ⟨v0, vs0, d0, ds0, p0, q0, hargs, rfl, rfl, h0, r0⟩ := trodAll_cons hA
  obtain ⟨v1, vs1, d1, ds1, p1, q1, rfl, rfl, rfl, h1, r1⟩ := trodAll_cons r0
  obtain ⟨rfl, rfl, rfl⟩ := trodAll_nil r1
  obtain rfl : args = #[v0, v1] := by cases args; simp_all
  obtain ⟨rfl, rfl⟩ := trodVars_none hV
  obtain ⟨a0, rfl, rfl, rfl, w0⟩ := open_string Yba.underlying9 (hval 0 9 v0 rfl rfl) h0
  obtain ⟨a1, rfl, rfl, rfl, w1⟩ := open_string Yba.underlying9 (hval 1 9 v1 rfl rfl) h1
  clear hA0 hval0
  simp only [List.append_nil] at hW'
  refine (walk a0 a1 w0 w1 W).mono fun e W' ⟨he, bel⟩ => ?_
  subst he
  exact ⟨_, rfl, _, _, _, [], _, [], hW', trodAll_mk1 (shut_bool Yba.underlying4 _), (trodAll_cons_mk (shut_string Yba.underlying9 w0) (trodAll_cons_mk (shut_string Yba.underlying9 w1) trodAll_mk0)), rfl, bel.frame _, fun h => by cases h⟩

theorem over : Rows.lawS0058BRoundTripRow.holds Yba.pinned (OpenSpec.ofChange Rows.lawS0058BRoundTripSpec) :=
  OpenClaim.holds_of_wide 4 Yba.f4 rfl rfl rfl rfl rfl rfl rfl ⟨rfl, rfl, rfl, rfl, rfl⟩ rfl rfl rfl rfl rfl (by kernel_rfl) Yba.func4 (by kernel_rfl)
    (of_decide_eq_true (by kernel_rfl)) (by unfold Func.isWrapper; first | (rw [if_pos (by decide +kernel)]; kernel_rfl) | (rw [if_neg (by decide +kernel)]; exact ⟨rfl, rfl⟩))
    (fun os started H enc _ => lifted os started H enc)

/-- ████ THE STATEMENT ████ -/
theorem proved : Rows.LawS0058BRoundTripSaid :=
  over
end Go.Proofs.Ybulkaeg.lawS0058BRoundTrip
