/-
  DERIVED. GIVEN WITH THE SEED: THE CARDS: each row of YbulkaegDoorRows.lean that lists a variable, with what it lists TIED to the program's text (the seventh form; the later family's looks); each row that meets fmt, with fmt's text TOLD by the authors' own Lean function (tested against real Go, not proved from fmt's source: count such statements apart). THE CARD IS WHAT COUNTS. Prove the row's statement (the work); the ties are given (YbulkaegDoorTie.lean); close each card by the builder's one call (the guide's Derived/Test/ToyasCard.lean, 'card_holds'). Laid BY PROGRAM, IN A SANDBOX (cutbox-door.mjs). By AI agents, Wed Nov 11 2026. No macro, syntax, notation, axiom, sorry.
-/
import Derived.Test.YbulkaegDoorRows
import GoSem.ClaimSeven
namespace Go.Proofs.YbulkaegDoor
namespace Rows

/-- THE TIED CARD OF 'wavefront.LawS0058CModel'. -/
def lawS0058CModelCard : Claim7 := { stood := { row := lawS0058CModelRow, standIns := [], harness := (true, "8face8582df4479b39e06ac120e7ebf6708f2f8ae42d084c365beb34ca5b08f9"), looks := false }, kinds := [], alts := [], laidByText := true, laidKinds := [.data], laidTests := true, laidLooks := .later }
def LawS0058CModelCardSaid : Prop := Claim7.holds Ybad.pinned (.plain (OpenSpec.ofChange lawS0058CModelSpec)) lawS0058CModelCard

/-- THE TIED CARD OF 'wavefront.LawS0058CBuilt'. -/
def lawS0058CBuiltCard : Claim7 := { stood := { row := lawS0058CBuiltRow, standIns := [], harness := (true, "8face8582df4479b39e06ac120e7ebf6708f2f8ae42d084c365beb34ca5b08f9"), looks := false }, kinds := [], alts := [], laidByText := true, laidKinds := [.data], laidTests := true, laidLooks := .later }
def LawS0058CBuiltCardSaid : Prop := Claim7.holds Ybad.pinned (.plain (OpenSpec.ofChange lawS0058CBuiltSpec)) lawS0058CBuiltCard
end Rows
end Go.Proofs.YbulkaegDoor
