/-
  THE SHELL OF A PROOF OF 'Rows.LawS0059CCopySaid' ('example.com/spanwright/spanwright/internal/network.LawS0059CCopy'), WRITTEN BY PROGRAM (proof-skeleton.mjs, third state) off the guide's own print for that function. Not trusted: Lean checks it.
  The walk is filled (YbulkaeuCopyWalk); all else is the guide's template at this function's number and types.
-/
import Derived.Test.YbulkaeuRows
import Derived.Test.YbulkaeuCopyWalk
import Derived.WalkKit
import Derived.ProofKit
import Derived.OpenShut
import Derived.ShutString
import Derived.ChangeOld
import Derived.Below
namespace Go.Proofs.Ybulkaeu.lawS0059CCopy
open Go.ChangeShapes Go.WideShapes Go.ChangeAt Go.RowKit
open Go.ChangeMaps (open_string shut_string)
set_option linter.unusedVariables false

theorem own : ownKnob Yba.prog.godebug = none := by kernel_rfl
theorem laidOut : laidOutB Yba.prog = true := by kernel_rfl

/-- WHAT THE WALK IS TOLD OF A SLICE OF INTEGERS THAT CAME IN: it is nil; or it leads to a row of 'cap' cells, the numbers 'zs' (the first 'len' are its elements, the rest its spare room), each fitting its kind. -/
def IsRow (k : IntKind) (w : World) (a : Option Addr) (len cap : Nat) (zs : List Int) : Prop :=
  (a = none ∧ len = 0 ∧ cap = 0 ∧ zs = []) ∨
  ∃ x, a = some x ∧ len ≤ cap ∧ cap ≤ maxLen ∧ zs.length = cap ∧ (∀ i, i < zs.length → w.cell? (x.add i) = some (.int k (zs.getD i 0))) ∧ ∀ n ∈ zs, (Lit.int k n).wf = true

theorem inp_of {a0 : Option Addr} {len0 cap0 : Nat} {z0 : List Int} {a1 : Option Addr} {len1 cap1 : Nat} {z1 : List Int} {w : World} (w0 : IsRow .u8 w a0 len0 cap0 z0) (w1 : IsRow .i32 w a1 len1 cap1 z1) (h0 : len0 ≤ 1024) (h1 : len1 ≤ 1024) :
    ∃ bb oo, Inp bb oo a0 len0 z0 a1 len1 cap1 ((z1.take len1).map (Value.int .i32)) w := by
  have hz : ∀ k, 0 ≤ z0.getD k 0 ∧ z0.getD k 0 ≤ 255 := by
    intro k
    have hwf : ∀ x ∈ z0, (Lit.int .u8 x).wf = true := by
      rcases w0 with ⟨_, _, _, rfl⟩ | ⟨_, _, _, _, _, _, h⟩
      · simp
      · exact h
    by_cases hk : k < z0.length
    · have e : z0.getD k 0 = z0[k] := by simp [hk]
      rw [e]; exact bounds_u8 (hwf _ (List.getElem_mem hk))
    · have e : z0.getD k 0 = 0 := by simp [Nat.le_of_not_lt hk]
      rw [e]; omega
  have hb : ∃ bb oo, (0 < len0 → a0 = some ⟨bb, oo, none⟩) ∧ ∀ k, k < len0 → w.cell? ⟨bb, oo + k, none⟩ = some (.int .u8 (z0.getD k 0)) := by
    rcases w0 with ⟨_, rfl, _, _⟩ | ⟨x, rfl, hl, _, hlen, hc, _⟩
    · exact ⟨0, 0, fun h => by omega, fun k h => by omega⟩
    · obtain ⟨bb, oo, spot⟩ := x
      by_cases hp : 0 < len0
      · have hspot : spot = none := by simpa [Addr.add] using World.cell?_spot (hc 0 (by omega))
        subst hspot
        refine ⟨bb, oo, fun _ => rfl, fun k hk => ?_⟩
        have := hc k (by omega)
        rwa [Addr.add_lit] at this
      · exact ⟨0, 0, fun h => by omega, fun k h => by omega⟩
  obtain ⟨bb, oo, ha, hc0⟩ := hb
  refine ⟨bb, oo, h0, h1, ha, hc0, hz, ?_, ?_, ?_⟩
  · rcases w1 with ⟨rfl, rfl, rfl, rfl⟩ | ⟨x, rfl, hl, _, hlen, hc, _⟩
    · exact ⟨by simp, by simp, .inl ⟨rfl, rfl, rfl⟩⟩
    · refine ⟨by simp; omega, ?_, .inr ⟨x, rfl, fun j u hj => ?_⟩⟩
      · intro u hu
        obtain ⟨y, _, rfl⟩ := List.mem_map.1 hu
        rfl
      · have hj' : j < len1 := by have := (List.getElem?_eq_some_iff.1 hj).1; simp at this; omega
        rw [hc j (by omega)]
        rw [List.getElem?_map, List.getElem?_take_of_lt hj', List.getElem?_eq_getElem (by omega)] at hj
        simp only [Option.map_some, Option.some.injEq] at hj
        rw [← hj]
        simp [show j < z1.length by omega]
  · intro ad had hm
    rcases w1 with ⟨rfl, _⟩ | ⟨x, rfl, hl, _, hlen, hc, _⟩
    · cases had
    · cases had
      have h := World.block_lt_of_cell? w _ (hc 0 (by omega))
      have e : (ad.add 0).block = ad.block := by simp [Addr.add]
      rw [e] at h; exact h
  · intro v hv
    obtain ⟨y, _, rfl⟩ := List.mem_map.1 hv
    exact ⟨y, rfl⟩

/-! ### STEP 1: THE WALK: the Go text returns true, AND WRITES NOTHING THAT WAS THERE: 'Below w.heap.size w w'' (Derived/Below.lean: '.refl', '.alloc', '.drew', '.setCell' at a new block, '.trans'). Open each 'IsRow' by 'rcases' AHEAD of 'go_enter'; part every test ahead of the walk. -/
set_option maxRecDepth 100000 in
theorem walk (a0 : Option Addr) (len0 cap0 : Nat) (z0 : List Int) (a1 : Option Addr) (len1 cap1 : Nat) (z1 : List Int) (a2 : Int) (a3 : Int) (w : World) (w0 : IsRow .u8 w a0 len0 cap0 z0) (w1 : IsRow .i32 w a1 len1 cap1 z1) (w2 : (Lit.int .u8 a2).wf = true) (w3 : (Lit.int .u8 a3).wf = true) :
    Calls Yba.prog 5 #[.slice a0 len0 cap0, .slice a1 len1 cap1, .int .u8 a2, .int .u8 a3] w fun e w' => e = .returned (.bool true) ∧ Below w.heap.size w w' := by
  obtain ⟨ht0, ht1⟩ := bounds_u8 w2
  obtain ⟨ho0, ho1⟩ := bounds_u8 w3
  by_cases h0 : 1024 < len0
  · clear w0 w1
    go_enter Yba.func5, Yba.ntmps5
    go_wp2
    go_ret
    exact ⟨rfl, Below.refl _ _⟩
  · by_cases h1 : 1024 < len1
    · clear w0 w1
      go_enter Yba.func5, Yba.ntmps5
      go_wp2
      go_ret
      exact ⟨rfl, Below.refl _ _⟩
    · obtain ⟨bb, oo, hi⟩ := inp_of w0 w1 (by omega) (by omega)
      exact core bb oo a0 len0 cap0 z0 a1 len1 cap1 _ a2 a3 w hi ht0 ht1 ho0 ho1

/-! ### THE ROW's STEP: WRITTEN OUT: LEAVE IT -/
set_option maxRecDepth 100000 in
theorem lifted (os : Os) (started : os.Started) (H : Type) (enc : TypeId × Value → H) :
    ReturnsInHanded {} Yba.checked os 5 .any (Rows.lawS0059CCopySpec.pre6 enc Yba.prog Yba.f5 Rows.lawS0059CCopyRow.domain false) (Rows.lawS0059CCopySpec.post enc Yba.prog Yba.f5 false true false false) := by
  refine returnsInHanded_of_change (C := Yba.checked) own started (by kernel_rfl) Yba.func5
    (ChangeSpec.witness6 (enc := enc) (C := Yba.checked) false ⟨#[], #[.slice none 0 0, .slice none 0 0, .int .u8 0, .int .u8 0], []⟩ 8 (by kernel_rfl) (by kernel_rfl) (by kernel_rfl) (by kernel_rfl)) ?_
  intro W base args ds gs before hval0 hW hcnd _
  have hval : ∀ (j : Nat) t v, Yba.f5.params[j]? = some t → args[j]? = some v → Value.okWide Yba.prog W .any base t v := hval0
  have hW' := hW
  obtain ⟨p, q, hA0, hV, rfl, hfz, hnd⟩ := hW
  have hA : DataW.TrodAll enc Yba.prog W 0 (fun _ => true) true Yba.f5.params.toList args.toList ds p := hA0
  rw [Yba.params5] at hA hval
  obtain ⟨v0, vs0, d0, ds0, p0, q0, hargs, rfl, rfl, h0, r0⟩ := trodAll_cons hA
  obtain ⟨v1, vs1, d1, ds1, p1, q1, rfl, rfl, rfl, h1, r1⟩ := trodAll_cons r0
  obtain ⟨v2, vs2, d2, ds2, p2, q2, rfl, rfl, rfl, h2, r2⟩ := trodAll_cons r1
  obtain ⟨v3, vs3, d3, ds3, p3, q3, rfl, rfl, rfl, h3, r3⟩ := trodAll_cons r2
  obtain ⟨rfl, rfl, rfl⟩ := trodAll_nil r3
  obtain rfl : args = #[v0, v1, v2, v3] := by cases args; simp_all
  obtain ⟨rfl, rfl⟩ := trodVars_none hV
  obtain ⟨a0, len0, cap0, rfl⟩ := okWide_slice Yba.underlying38 (hval 0 38 v0 rfl rfl)
  have k0 := h0
  have lt0 : ∀ x ∈ p0, x.block < W.heap.size := by obtain ⟨m, hm⟩ := k0; exact DataW.trod_lt m _ _ _ hm
  obtain ⟨z0, w0⟩ : ∃ zs, IsRow .u8 W a0 len0 cap0 zs := by
    obtain ⟨fuel, hf⟩ := h0
    rcases open_ints Yba.underlying38 Yba.underlying5 (by kernel_rfl) hf with ⟨hcs, _⟩ | ⟨x, l, c, zs, hcs, _, hl, hm, hz, _, hcell, hwz⟩
    · simp [Value.cells] at hcs
      obtain ⟨rfl, rfl, rfl⟩ := hcs
      exact ⟨[], .inl ⟨rfl, rfl, rfl, rfl⟩⟩
    · simp [Value.cells] at hcs
      obtain ⟨rfl, rfl, rfl⟩ := hcs
      exact ⟨zs, .inr ⟨_, rfl, hl, hm, by simpa using hz, hcell, hwz⟩⟩
  obtain ⟨a1, len1, cap1, rfl⟩ := okWide_slice Yba.underlying39 (hval 1 39 v1 rfl rfl)
  have k1 := h1
  have lt1 : ∀ x ∈ p1, x.block < W.heap.size := by obtain ⟨m, hm⟩ := k1; exact DataW.trod_lt m _ _ _ hm
  obtain ⟨z1, w1⟩ : ∃ zs, IsRow .i32 W a1 len1 cap1 zs := by
    obtain ⟨fuel, hf⟩ := h1
    rcases open_ints Yba.underlying39 Yba.underlying21 (by kernel_rfl) hf with ⟨hcs, _⟩ | ⟨x, l, c, zs, hcs, _, hl, hm, hz, _, hcell, hwz⟩
    · simp [Value.cells] at hcs
      obtain ⟨rfl, rfl, rfl⟩ := hcs
      exact ⟨[], .inl ⟨rfl, rfl, rfl, rfl⟩⟩
    · simp [Value.cells] at hcs
      obtain ⟨rfl, rfl, rfl⟩ := hcs
      exact ⟨zs, .inr ⟨_, rfl, hl, hm, by simpa using hz, hcell, hwz⟩⟩
  obtain ⟨a2, rfl, rfl, rfl, w2⟩ := open_int Yba.underlying5 (hval 2 5 v2 rfl rfl) h2
  obtain ⟨a3, rfl, rfl, rfl, w3⟩ := open_int Yba.underlying5 (hval 3 5 v3 rfl rfl) h3
  clear hA0 hval0
  refine (walk a0 len0 cap0 z0 a1 len1 cap1 z1 a2 a3 W w0 w1 w2 w3).mono fun e W' ⟨he, bel⟩ => ?_
  subst he
  exact ⟨_, rfl, _, _, _, [], _, [], hW', trodAll_mk1 (shut_bool Yba.underlying4 _), (trodAll_cons_mk (Below.trod laidOut (by kernel_rfl) (of_decide_eq_true (by kernel_rfl)) k0 bel lt0) (trodAll_cons_mk (Below.trod laidOut (by kernel_rfl) (of_decide_eq_true (by kernel_rfl)) k1 bel lt1) (trodAll_cons_mk (shut_int Yba.underlying5 w2) (trodAll_cons_mk (shut_int Yba.underlying5 w3) trodAll_mk0)))), rfl, bel.frame _, fun h => by cases h⟩

theorem over : Rows.lawS0059CCopyRow.holds Yba.pinned (OpenSpec.ofChange Rows.lawS0059CCopySpec) :=
  OpenClaim.holds_of_wide 5 Yba.f5 rfl rfl rfl rfl rfl rfl rfl ⟨rfl, rfl, rfl, rfl, rfl⟩ rfl rfl rfl rfl rfl (by kernel_rfl) Yba.func5 (by kernel_rfl)
    (of_decide_eq_true (by kernel_rfl)) (by unfold Func.isWrapper; first | (rw [if_pos (by decide +kernel)]; kernel_rfl) | (rw [if_neg (by decide +kernel)]; exact ⟨rfl, rfl⟩))
    (fun os started H enc _ => lifted os started H enc)

/-- ████ THE STATEMENT ████ -/
theorem proved : Rows.LawS0059CCopySaid := over
end Go.Proofs.Ybulkaeu.lawS0059CCopy
