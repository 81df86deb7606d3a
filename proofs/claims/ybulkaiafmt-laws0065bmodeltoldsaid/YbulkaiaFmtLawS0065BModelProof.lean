/-
  Seat b0065aF: LawS0065BModel: the told and tied card. After the guide's IpowTold and PortSeven.
-/
import Derived.Test.YbulkaiaFmtFrame
import Derived.Test.YbulkaiaFmtModelWalk
namespace Go.Proofs.YbulkaiaFmt.lawS0065BModel
open Go.ChangeShapes Go.WideShapes Go.ChangeAt Go.RowKit Go.Kit
open Go.Extern.Stop Go.Stop Go.Extern

set_option maxRecDepth 100000 in
set_option maxHeartbeats 1600000 in
theorem lifted (os : Os) (started : os.Started) (H : Type) (enc : TypeId × Value → H) :
    ReturnsInTold none {} Ybaf.checked os 6 .any Input.okWide ((OpenSpec.ofChange Rows.lawS0065BModelSpec).preRow enc Ybaf.prog Ybaf.f6 [] false Rows.lawS0065BModelRow.laid)
      (fun F => ((OpenSpec.ofChange Rows.lawS0065BModelSpec).at F).post enc Ybaf.prog Ybaf.f6 false true false false) (aloneAtReturn Ybaf.prog) nothingAlways := by
  refine returnsInTold_of_row (C := Ybaf.checked) (s := OpenSpec.ofChange Rows.lawS0065BModelSpec) (by kernel_rfl) ownN started (by kernel_rfl) Ybaf.func6
    (OpenSpec.witness_stopped_at (enc := enc) (C := Ybaf.checked) false (laidW Ybaf.prog os) #[.slice none 0 0, .int .u8 0, .int .u8 0] rfl (by kernel_rfl) (by kernel_rfl) (by kernel_rfl)
      (OpenSpec.preRow_of_B rfl 8 (by kernel_rfl) (by kernel_rfl) (laid_met os _))) ?_
  intro F W base args ds gs before _ hF hval0 hW _ _ _ hL _
  have hval : ∀ (j : Nat) t v, Ybaf.f6.params[j]? = some t → args[j]? = some v → Value.okWide Ybaf.prog W .any base t v := hval0
  have hW' := hW
  obtain ⟨p, q, hA0, hV0, rfl, hfz, hnd⟩ := hW
  have hA : DataW.TrodAll enc Ybaf.prog W 0 (fun _ => true) true Ybaf.f6.params.toList args.toList ds p := hA0
  have hV : DataW.TrodVars enc Ybaf.prog W (fun _ => true) [vname] gs q := hV0
  rw [Ybaf.params6] at hA hval
  obtain ⟨v0, v1, v2, d0, d1, d2, p0, p1, p2, rfl, rfl, rfl, h0, h1, h2⟩ := trodAll_three hA
  obtain ⟨z, rfl, rfl, rfl, wz⟩ := open_int Ybaf.underlying5 (hval 1 5 v1 rfl rfl) h1
  obtain ⟨z2, rfl, rfl, rfl, wz2⟩ := open_int Ybaf.underlying5 (hval 2 5 v2 rfl rfl) h2
  obtain ⟨a1, len1, cap1, rfl⟩ := okWide_slice Ybaf.underlying45 (hval 0 45 v0 rfl rfl)
  obtain ⟨sn, rfl, hsn⟩ := ok_u8 wz
  obtain ⟨qn, rfl, hqn⟩ := ok_u8 wz2
  have k0 := h0
  have lt0 : ∀ x ∈ p0, x.block < W.heap.size := by obtain ⟨n, hn⟩ := k0; exact DataW.trod_lt n _ _ _ hn
  obtain ⟨rs, bb, oo, hrl, hmx, ha, hrs⟩ : ∃ (rs : List Pl.Rec) (bb oo : Nat), rs.length = len1 ∧ len1 < 9223372036854775808 ∧ (0 < rs.length → a1 = some ⟨bb, oo, none⟩) ∧ RecsAt W bb oo rs := by
    obtain ⟨n, hn⟩ := h0
    exact open_recs (by simpa [Value.cells] using hn)
  obtain ⟨aE, sE, hvE, hcE, _, _⟩ := laid_sentinel (n := vname) hL gN tN Ybaf.underlying35 rowN Ybaf.underlying79 Ybaf.underlying81 rfl rfl Ybaf.underlying9 (by kernel_rfl) (by kernel_rfl)
  obtain ⟨rfl, rfl⟩ := hV.unique (vars_read1 enc gN tN Ybaf.underlying35 hvE trivial _)
  clear hA0 hV0 hval0
  have hg1 : W.cell? ⟨1, 0, none⟩ = some (.iface 79 (.pointer (some aE))) := by simpa using World.var?_cell gN hvE 0
  have h1lt : 1 < W.heap.size := World.block_lt_of_cell? W _ hg1
  subst hrl
  refine (model_walk a1 bb oo cap1 rs sn qn hsn hqn W _ ha hrs hg1 hmx).mono fun e W' ⟨he, bel⟩ => ?_
  subst he
  exact ⟨_, rfl, _, _, _, [], _, _, hW', trodAll_mk1 (shut_bool Ybaf.underlying4 _), (trodAll_cons_mk (Below.trod laidOutN (by kernel_rfl) (of_decide_eq_true (by kernel_rfl)) k0 bel lt0) (trodAll_cons_mk (shut_int Ybaf.underlying5 wz) (trodAll_cons_mk (shut_int Ybaf.underlying5 wz2) trodAll_mk0))), vars_read1 enc gN tN Ybaf.underlying35 (var?_below bel gN h1lt hvE) trivial _, bel.frame _, fun h => by cases h⟩

/-- THE STATEMENT: the told and tied card. -/
theorem proved : Rows.LawS0065BModelToldSaid :=
  Claim7.holds_of_told_tied_any_at .later 6 Ybaf.f6 "fmt.errorf, its operands' methods called" ["fmt.Sprintf"] [] (true, "08cd62f7641b16e076b7291b40a104aa96e1f6b661075880e93666b1d0e6de22") false false [.sentinel] true
    (by kernel_rfl) rfl rfl rfl laidOutN (by kernel_rfl) rfl ⟨rfl, rfl, rfl, rfl, rfl, rfl, rfl⟩ rfl rfl (by kernel_rfl) (by kernel_rfl) Ybaf.func6 (by kernel_rfl)
    (of_decide_eq_true (by kernel_rfl)) (of_decide_eq_true (by kernel_rfl)) (by kernel_rfl) rfl stopKnobsN.symm (by kernel_rfl)
    (by kernel_rfl) (by kernel_rfl) (by kernel_rfl) (by kernel_rfl) (by kernel_rfl) (by kernel_rfl) (by kernel_rfl) (by kernel_rfl) (by kernel_rfl) rfl (by kernel_rfl) rfl rfl
    rfl rfl
    rfl (by kernel_rfl) (by kernel_rfl) (by kernel_rfl) (by decide) (by kernel_rfl) lawS0065BModel_row_tie
    (OpenClaim.moreEntering_of (by kernel_rfl) (by kernel_rfl) (by kernel_rfl) (by kernel_rfl) (by kernel_rfl) (by kernel_rfl) (by kernel_rfl) (by kernel_rfl) (by kernel_rfl) (by kernel_rfl))
    ⟨_, WideRow.started_initial, quietN _⟩
    (fun os started _ H enc _ => lifted os started H enc)

end Go.Proofs.YbulkaiaFmt.lawS0065BModel
