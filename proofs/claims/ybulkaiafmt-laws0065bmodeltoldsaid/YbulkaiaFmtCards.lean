/-
  DERIVED. GIVEN WITH THE SEED: THE CARDS: each row of YbulkaiaFmtRows.lean that lists a variable, with what it lists TIED to the program's text (the seventh form; the later family's looks); each row that meets fmt, with fmt's text TOLD by the authors' own Lean function (tested against real Go, not proved from fmt's source: count such statements apart). THE CARD IS WHAT COUNTS. Prove the row's statement (the work); the ties are given (YbulkaiaFmtTie.lean); close each card by the builder's one call (the guide's Derived/Test/ToyasCard.lean, 'card_holds'). Laid BY PROGRAM, IN A SANDBOX (cutbox-door.mjs). By AI agents, Wed Nov 11 2026. No macro, syntax, notation, axiom, sorry.
-/
import Derived.Test.YbulkaiaFmtRows
import GoSem.ClaimSeven
namespace Go.Proofs.YbulkaiaFmt
namespace Rows

/-- THE TOLD AND TIED CARD OF 'dnsclient.LawS0065ARoundTrip'. -/
def lawS0065ARoundTripCard : Claim7 := { stood := { row := lawS0065ARoundTripRow, standIns := [], harness := (true, "08cd62f7641b16e076b7291b40a104aa96e1f6b661075880e93666b1d0e6de22"), looks := false }, told := true, laidByText := true, laidKinds := [.sentinel], laidTests := true, laidLooks := .later, goes := false }
def LawS0065ARoundTripToldSaid : Prop := Claim7.holds Ybaf.pinned (.plain (OpenSpec.ofChange lawS0065ARoundTripSpec)) lawS0065ARoundTripCard
/-- ITS FALSE NEIGHBOUR. Refute it at one input. -/
def LawS0065ARoundTripToldWrongFalsely : Prop := Claim7.holds Ybaf.pinned (.plain (OpenSpec.ofChange lawS0065ARoundTripWrong)) lawS0065ARoundTripCard

/-- THE TOLD AND TIED CARD OF 'dnsclient.LawS0065ACompressed'. -/
def lawS0065ACompressedCard : Claim7 := { stood := { row := lawS0065ACompressedRow, standIns := [], harness := (true, "08cd62f7641b16e076b7291b40a104aa96e1f6b661075880e93666b1d0e6de22"), looks := false }, told := true, laidByText := true, laidKinds := [.sentinel], laidTests := true, laidLooks := .later, goes := false }
def LawS0065ACompressedToldSaid : Prop := Claim7.holds Ybaf.pinned (.plain (OpenSpec.ofChange lawS0065ACompressedSpec)) lawS0065ACompressedCard
/-- ITS FALSE NEIGHBOUR. Refute it at one input. -/
def LawS0065ACompressedToldWrongFalsely : Prop := Claim7.holds Ybaf.pinned (.plain (OpenSpec.ofChange lawS0065ACompressedWrong)) lawS0065ACompressedCard

/-- THE TOLD AND TIED CARD OF 'dnsclient.LawS0065ATruncated'. -/
def lawS0065ATruncatedCard : Claim7 := { stood := { row := lawS0065ATruncatedRow, standIns := [], harness := (true, "08cd62f7641b16e076b7291b40a104aa96e1f6b661075880e93666b1d0e6de22"), looks := false }, told := true, laidByText := true, laidKinds := [.sentinel], laidTests := true, laidLooks := .later, goes := false }
def LawS0065ATruncatedToldSaid : Prop := Claim7.holds Ybaf.pinned (.plain (OpenSpec.ofChange lawS0065ATruncatedSpec)) lawS0065ATruncatedCard
/-- ITS FALSE NEIGHBOUR. Refute it at one input. -/
def LawS0065ATruncatedToldWrongFalsely : Prop := Claim7.holds Ybaf.pinned (.plain (OpenSpec.ofChange lawS0065ATruncatedWrong)) lawS0065ATruncatedCard

/-- THE TOLD AND TIED CARD OF 'dnsclient.LawS0065BModel'. -/
def lawS0065BModelCard : Claim7 := { stood := { row := lawS0065BModelRow, standIns := [], harness := (true, "08cd62f7641b16e076b7291b40a104aa96e1f6b661075880e93666b1d0e6de22"), looks := false }, told := true, laidByText := true, laidKinds := [.sentinel], laidTests := true, laidLooks := .later, goes := false }
def LawS0065BModelToldSaid : Prop := Claim7.holds Ybaf.pinned (.plain (OpenSpec.ofChange lawS0065BModelSpec)) lawS0065BModelCard
/-- ITS FALSE NEIGHBOUR. Refute it at one input. -/
def LawS0065BModelToldWrongFalsely : Prop := Claim7.holds Ybaf.pinned (.plain (OpenSpec.ofChange lawS0065BModelWrong)) lawS0065BModelCard

/-- THE TOLD AND TIED CARD OF 'dnsclient.LawS0065BCase'. -/
def lawS0065BCaseCard : Claim7 := { stood := { row := lawS0065BCaseRow, standIns := [], harness := (true, "08cd62f7641b16e076b7291b40a104aa96e1f6b661075880e93666b1d0e6de22"), looks := false }, told := true, laidByText := true, laidKinds := [.sentinel], laidTests := true, laidLooks := .later, goes := false }
def LawS0065BCaseToldSaid : Prop := Claim7.holds Ybaf.pinned (.plain (OpenSpec.ofChange lawS0065BCaseSpec)) lawS0065BCaseCard
/-- ITS FALSE NEIGHBOUR. Refute it at one input. -/
def LawS0065BCaseToldWrongFalsely : Prop := Claim7.holds Ybaf.pinned (.plain (OpenSpec.ofChange lawS0065BCaseWrong)) lawS0065BCaseCard
end Rows
end Go.Proofs.YbulkaiaFmt
