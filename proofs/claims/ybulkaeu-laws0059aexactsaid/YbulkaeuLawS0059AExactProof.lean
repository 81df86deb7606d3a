/-
  THE PROOF OF 'Rows.LawS0059AExactSaid' ('example.com/spanwright/spanwright/broadcast.LawS0059AExact'): the argument opened, the walk (YbulkaeuXExact), the row's step: the guide's template at this function's number and types.
-/
import Derived.Test.YbulkaeuRows
import Derived.Test.YbulkaeuXExact
import Derived.WalkKit
import Derived.ProofKit
import Derived.OpenShut
import Derived.ShutString
import Derived.ChangeOld
import Derived.Below
import Derived.Deep.Slices
namespace Go.Proofs.Ybulkaeu.lawS0059AExact
open Go.ChangeShapes Go.WideShapes Go.ChangeAt Go.RowKit
set_option linter.unusedVariables false

theorem own : ownKnob Yba.prog.godebug = none := by kernel_rfl
theorem laidOut : laidOutB Yba.prog = true := by kernel_rfl

theorem ok_u8 {z : Int} (h : (Lit.int .u8 z).wf = true) : ∃ n : Nat, z = (n : Int) ∧ n < 256 := by
  simp [Lit.wf, IntKind.min, IntKind.max, IntKind.signed, IntKind.bits] at h
  exact ⟨z.toNat, by omega, by omega⟩
theorem ok_u16 {z : Int} (h : (Lit.int .u16 z).wf = true) : ∃ n : Nat, z = (n : Int) ∧ n < 65536 := by
  simp [Lit.wf, IntKind.min, IntKind.max, IntKind.signed, IntKind.bits] at h
  exact ⟨z.toNat, by omega, by omega⟩

theorem bool_cell {H : Type} {enc : TypeId × Value → H} {W : World} {base : Nat} {spare : Nat → Bool} {held : Bool} {n : Nat} {c : Value} {x : DataW H × List MemPlace}
    (h : DataW.trod enc Yba.prog W base spare held n 4 [c] = some x) : ∃ b, c = .bool b := by
  cases n with
  | zero => simp [DataW.trod] at h
  | succ n =>
    cases c <;> simp [DataW.trod, Yba.underlying4] at h
    exact ⟨_, rfl⟩

set_option maxRecDepth 100000 in
/-- the three cells of one source -/
theorem open_src {H : Type} {enc : TypeId × Value → H} {W : World} {base : Nat} {spare : Nat → Bool} {held : Bool} {n : Nat} {cs : List Value} {x : DataW H × List MemPlace}
    (h : DataW.trod enc Yba.prog W base spare held n 93 cs = some x) : ∃ s : Pl.Src, s.pick < 65536 ∧ s.seq < 256 ∧ cs = [.int .u16 (s.pick : Int), .int .u8 (s.seq : Int), .bool s.act] := by
  obtain ⟨xs, k, rfl, _, hl, hxl, hf⟩ := DataW.trod_struct Yba.underlying93 h
  have c91 : Yba.prog.cellsOf 91 = 1 := by kernel_rfl
  have c5 : Yba.prog.cellsOf 5 = 1 := by kernel_rfl
  have c4 : Yba.prog.cellsOf 4 = 1 := by kernel_rfl
  rw [show Yba.prog.cellsOf 93 = 3 by kernel_rfl] at hl
  match xs, hxl, cs, hl with
  | [y0, y1, y2], _, [w0, w1, w2], _ =>
    have g0 := hf 0 _ rfl
    have g1 := hf 1 _ rfl
    have g2 := hf 2 _ rfl
    simp [c91, c5, c4] at g0 g1 g2
    obtain ⟨n0, e0, _, f0⟩ := DataW.trod_int Yba.underlying91 g0
    obtain ⟨n1, e1, _, f1⟩ := DataW.trod_int Yba.underlying5 g1
    obtain ⟨b, e2⟩ := bool_cell g2
    obtain ⟨m0, rfl, l0⟩ := ok_u16 f0
    obtain ⟨m1, rfl, l1⟩ := ok_u8 f1
    simp at e0 e1
    subst e0 e1 e2
    exact ⟨⟨m0, m1, b⟩, l0, l1, rfl⟩

/-- a row of values, chosen at each index -/
theorem choose_list {α : Type} {q : Nat → α → Prop} : ∀ n : Nat, (∀ i, i < n → ∃ a, q i a) → ∃ l : List α, l.length = n ∧ ∀ (i : Nat) a, l[i]? = some a → q i a
  | 0, _ => ⟨[], rfl, by simp⟩
  | n + 1, h => by
    obtain ⟨l, hl, hq⟩ := choose_list n (fun i hi => h i (by omega))
    obtain ⟨a, ha⟩ := h n (by omega)
    refine ⟨l ++ [a], by simp [hl], fun i b hb => ?_⟩
    by_cases hi : i < l.length
    · rw [List.getElem?_append_left hi] at hb
      exact hq i b hb
    · have hie : i = n := by
        have := (List.getElem?_eq_some_iff.1 hb).1
        simp at this; omega
      subst hie
      rw [← hl] at hb
      simp at hb
      subst hb
      exact ha

/-- a node's sources, opened -/
theorem open_srcs {H : Type} {enc : TypeId × Value → H} {W : World} {base : Nat} {spare : Nat → Bool} {held : Bool} {n : Nat} {cs : List Value} {x : DataW H × List MemPlace}
    (h : DataW.trod enc Yba.prog W base spare held n 88 cs = some x) : ∃ (ss : List Pl.Src) (a : Option Addr) (c : Nat), cs = [.slice a ss.length c] ∧ SrcsAt W a ss := by
  rcases Deep.open_slice Yba.underlying88 h with ⟨hcs, _⟩ | ⟨ad, len, cap, m, k, D, Pl', hcs, _, hlc, hmx, hm, _, hel⟩
  · exact ⟨[], none, 0, hcs, by intro h0; simp at h0⟩
  · have ce : Yba.prog.cellsOf 93 = 3 := by kernel_rfl
    have hlm : len ≤ m := by rw [hm]; split <;> omega
    rw [ce] at hel
    obtain ⟨ss, hsl, hq⟩ := choose_list (α := Pl.Src) (q := fun i s => s.pick < 65536 ∧ s.seq < 256 ∧ ∀ j, j < 3 → W.cell? (ad.add (i * 3 + j)) = ([.int .u16 (s.pick : Int), .int .u8 (s.seq : Int), .bool s.act] : List Value)[j]?) len (fun i hi => by
      obtain ⟨cs', h1, h2⟩ := hel i (by omega)
      obtain ⟨_, hlen, hcell⟩ := World.cells?_some h1
      obtain ⟨s, hp, hs, rfl⟩ := open_src h2
      refine ⟨s, hp, hs, fun j hj => ?_⟩
      have := hcell j (by omega)
      rwa [Deep.add_add] at this)
    obtain ⟨bb, oo, spot⟩ := ad
    refine ⟨ss, some ⟨bb, oo, spot⟩, cap, by rw [hsl]; exact hcs, fun h0 => ?_⟩
    have hspot : spot = none := by
      obtain ⟨s, hs⟩ : ∃ s, ss[0]? = some s := ⟨ss[0], by simp⟩
      have := (hq 0 s hs).2.2 0 (by omega)
      have hc : W.cell? ((⟨bb, oo, spot⟩ : Addr).add (0 * 3 + 0)) = some (.int .u16 (s.pick : Int)) := this
      simpa [Addr.add] using World.cell?_spot hc
    subst hspot
    refine ⟨bb, oo, rfl, fun i s hi => ?_⟩
    obtain ⟨hp, hs, hc⟩ := hq i s hi
    have e0 := hc 0 (by omega)
    have e1 := hc 1 (by omega)
    have e2 := hc 2 (by omega)
    simp only [Addr.add_lit] at e0 e1 e2
    exact ⟨hp, hs, e0, e1, e2⟩

set_option maxRecDepth 100000 in
/-- the two cells of one node -/
theorem open_nd {H : Type} {enc : TypeId × Value → H} {W : World} {base : Nat} {spare : Nat → Bool} {held : Bool} {n : Nat} {cs : List Value} {x : DataW H × List MemPlace}
    (h : DataW.trod enc Yba.prog W base spare held n 90 cs = some x) : ∃ (nd : Pl.Nd) (a : Option Addr) (c : Nat), nd.part < 256 ∧ SrcsAt W a nd.srcs ∧ cs = [.int .u8 (nd.part : Int), .slice a nd.srcs.length c] := by
  obtain ⟨xs, k, rfl, _, hl, hxl, hf⟩ := DataW.trod_struct Yba.underlying90 h
  have c5 : Yba.prog.cellsOf 5 = 1 := by kernel_rfl
  have c88 : Yba.prog.cellsOf 88 = 1 := by kernel_rfl
  rw [show Yba.prog.cellsOf 90 = 2 by kernel_rfl] at hl
  match xs, hxl, cs, hl with
  | [y0, y1], _, [w0, w1], _ =>
    have g0 := hf 0 _ rfl
    have g1 := hf 1 _ rfl
    simp [c5, c88] at g0 g1
    obtain ⟨n0, e0, _, f0⟩ := DataW.trod_int Yba.underlying5 g0
    obtain ⟨ss, a, c, e1, hs⟩ := open_srcs g1
    obtain ⟨m0, rfl, l0⟩ := ok_u8 f0
    simp at e0 e1
    subst e0 e1
    exact ⟨⟨m0, ss⟩, a, c, l0, hs, rfl⟩

/-- the argument's nodes, opened -/
theorem open_nds {H : Type} {enc : TypeId × Value → H} {W : World} {base : Nat} {spare : Nat → Bool} {held : Bool} {n : Nat} {a : Option Addr} {len cap : Nat} {x : DataW H × List MemPlace}
    (h : DataW.trod enc Yba.prog W base spare held n 22 [.slice a len cap] = some x) : ∃ (ns : List Pl.Nd) (bb oo : Nat), ns.length = len ∧ len < 9223372036854775808 ∧ (0 < ns.length → a = some ⟨bb, oo, none⟩) ∧ InAt W bb oo ns := by
  rcases Deep.open_slice Yba.underlying22 h with ⟨hcs, _⟩ | ⟨ad, len', cap', m, k, D, Pl', hcs, _, hlc, hmx, hm, _, hel⟩
  · simp at hcs
    obtain ⟨rfl, rfl, rfl⟩ := hcs
    exact ⟨[], 0, 0, rfl, by omega, by simp, by intro i r hi; simp at hi⟩
  · simp at hcs
    obtain ⟨rfl, rfl, rfl⟩ := hcs
    have ce : Yba.prog.cellsOf 90 = 2 := by kernel_rfl
    have hlm : len ≤ m := by rw [hm]; split <;> omega
    rw [ce] at hel
    obtain ⟨ns, hrl, hq⟩ := choose_list (α := Pl.Nd) (q := fun i nd => nd.part < 256 ∧ ∃ a c, SrcsAt W a nd.srcs ∧ ∀ j, j < 2 → W.cell? (ad.add (i * 2 + j)) = ([.int .u8 (nd.part : Int), .slice a nd.srcs.length c] : List Value)[j]?) len (fun i hi => by
      obtain ⟨cs', h1, h2⟩ := hel i (by omega)
      obtain ⟨_, hlen, hcell⟩ := World.cells?_some h1
      obtain ⟨nd, a, c, hp, hs, rfl⟩ := open_nd h2
      refine ⟨nd, hp, a, c, hs, fun j hj => ?_⟩
      have := hcell j (by omega)
      rwa [Deep.add_add] at this)
    obtain ⟨bb, oo, spot⟩ := ad
    have hmx' : len < 9223372036854775808 := by unfold maxLen at hmx; omega
    by_cases h0 : 0 < len
    · have hspot : spot = none := by
        obtain ⟨nd, hr⟩ : ∃ nd, ns[0]? = some nd := ⟨ns[0], by simp⟩
        obtain ⟨_, a, c, _, hc0⟩ := hq 0 nd hr
        have := hc0 0 (by omega)
        have hc : W.cell? ((⟨bb, oo, spot⟩ : Addr).add (0 * 2 + 0)) = some (.int .u8 (nd.part : Int)) := this
        simpa [Addr.add] using World.cell?_spot hc
      subst hspot
      refine ⟨ns, bb, oo, hrl, hmx', fun _ => rfl, fun i nd hi => ?_⟩
      obtain ⟨hp, a, c, hs, hc⟩ := hq i nd hi
      have e0 := hc 0 (by omega)
      have e1 := hc 1 (by omega)
      simp only [Addr.add_lit] at e0 e1
      exact ⟨hp, e0, a, c, e1, hs⟩
    · refine ⟨ns, bb, oo, hrl, hmx', fun h => by omega, fun i nd hi => ?_⟩
      have := (List.getElem?_eq_some_iff.1 hi).1
      omega

/-! ### THE ROW's STEP -/
set_option maxRecDepth 100000 in
theorem lifted (os : Os) (started : os.Started) (H : Type) (enc : TypeId × Value → H) :
    ReturnsInHanded {} Yba.checked os 3 .any (Rows.lawS0059AExactSpec.pre6 enc Yba.prog Yba.f3 Rows.lawS0059AExactRow.domain false) (Rows.lawS0059AExactSpec.post enc Yba.prog Yba.f3 false true false false) := by
  refine returnsInHanded_of_change (C := Yba.checked) own started (by kernel_rfl) Yba.func3
    (ChangeSpec.witness6 (enc := enc) (C := Yba.checked) false ⟨#[], #[.slice none 0 0], []⟩ 8 (by kernel_rfl) (by kernel_rfl) (by kernel_rfl) (by kernel_rfl)) ?_
  intro W base args ds gs before hval0 hW hcnd _
  have hval : ∀ (j : Nat) t v, Yba.f3.params[j]? = some t → args[j]? = some v → Value.okWide Yba.prog W .any base t v := hval0
  have hW' := hW
  obtain ⟨p, q, hA0, hV, rfl, hfz, hnd⟩ := hW
  have hA : DataW.TrodAll enc Yba.prog W 0 (fun _ => true) true Yba.f3.params.toList args.toList ds p := hA0
  rw [Yba.params3] at hA hval
  obtain ⟨v0, vs0, d0, ds0, p0, q0, hargs, rfl, rfl, h0, r0⟩ := trodAll_cons hA
  obtain ⟨rfl, rfl, rfl⟩ := trodAll_nil r0
  obtain rfl : args = #[v0] := by cases args; simp_all
  obtain ⟨rfl, rfl⟩ := trodVars_none hV
  obtain ⟨a0, len0, cap0, rfl⟩ := okWide_slice Yba.underlying22 (hval 0 22 v0 rfl rfl)
  have k0 := h0
  have lt0 : ∀ x ∈ p0, x.block < W.heap.size := by obtain ⟨m, hm⟩ := k0; exact DataW.trod_lt m _ _ _ hm
  obtain ⟨ns, bb, oo, hl, hlm, ha, hin⟩ : ∃ (ns : List Pl.Nd) (bb oo : Nat), ns.length = len0 ∧ len0 < 9223372036854775808 ∧ (0 < ns.length → a0 = some ⟨bb, oo, none⟩) ∧ InAt W bb oo ns := by
    obtain ⟨fuel, hf⟩ := h0
    exact open_nds hf
  subst hl
  clear hA0 hval0
  refine (exact_any a0 bb oo cap0 ns W ha hin hlm).mono fun e W' ⟨he, bel⟩ => ?_
  subst he
  exact ⟨_, rfl, _, _, _, [], _, [], hW', trodAll_mk1 (shut_bool Yba.underlying4 _), (trodAll_cons_mk (Below.trod laidOut (by kernel_rfl) (of_decide_eq_true (by kernel_rfl)) k0 bel lt0) trodAll_mk0), rfl, bel.frame _, fun h => by cases h⟩

theorem over : Rows.lawS0059AExactRow.holds Yba.pinned (OpenSpec.ofChange Rows.lawS0059AExactSpec) :=
  OpenClaim.holds_of_wide 3 Yba.f3 rfl rfl rfl rfl rfl rfl rfl ⟨rfl, rfl, rfl, rfl, rfl⟩ rfl rfl rfl rfl rfl (by kernel_rfl) Yba.func3 (by kernel_rfl)
    (of_decide_eq_true (by kernel_rfl)) (by unfold Func.isWrapper; first | (rw [if_pos (by decide +kernel)]; kernel_rfl) | (rw [if_neg (by decide +kernel)]; exact ⟨rfl, rfl⟩))
    (fun os started H enc _ => lifted os started H enc)

/-- ████ THE STATEMENT ████ -/
theorem proved : Rows.LawS0059AExactSaid := over
end Go.Proofs.Ybulkaeu.lawS0059AExact
