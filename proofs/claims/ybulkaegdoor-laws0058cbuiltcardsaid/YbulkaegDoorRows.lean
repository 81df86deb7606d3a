/-
  NARROWER THAN 'FOR EVERY INPUT', by the rows' own cells (each row's printed sentence says how): LawS0058CModel: laid · LawS0058CBuilt: laid.
  DERIVED. THE GIVEN ROWS OF THIS SEAT. 2 by the template 'for every input the law returns true; each argument reads behind the call as it read before'; 0 by the template 'total and deterministic' (their statements: YbulkaegDoorTotals.lean).
  GIVEN WITH THE SEED: the statements are not yours to turn. If you find one false, say at which input.
  Laid BY PROGRAM, IN A SANDBOX (cutbox-rows.mjs): the forced cells as the released guide's own fill.sh prints them over the translation 00e0646257d338e7… (all of the seat's roots in one cut). By AI agents, Wed Nov 11 2026. No macro, syntax, notation, axiom, sorry.
-/
import Derived.Test.YbulkaegDoorChecked
import GoSem.Claim
import GoSem.ClaimJoined
import GoSem.ClaimMapViews
import Derived.JoinedTies
import Derived.KernelRfl
namespace Go.Proofs.YbulkaegDoor
/- THE CELL 'sum', in the pinned program and in every row, IS THE sha256 OF THE DUMP (.gsa) THAT YbulkaegDoorProg.lean LOADS. Nothing in Lean hashes anything: it is a label: what it is worth is what the hold of that sum in a sandbox is worth. -/
noncomputable def Ybad.pinned : Pinned := { name := "ybulkaegdoor", sum := "00e0646257d338e7051d208afb02e15cdc70885dd1a378864eeee5bce96b6fcf", checked := Ybad.checked }
namespace Rows
def none {H : Type} : Left H := { results := [], args := [] }

/- WHAT THE LISTED PACKAGE-LEVEL VARIABLES READ AS WHEN THE CALL BEGINS. Each datum BY PROGRAM (the guide's laid-datum.mjs) off the statement by which the dump's own 'gosem.cut.vars' lays the variable. In a bare row this is a premise. The card (YbulkaegDoorCards.lean) ties it to the program's text. -/
def laid_example_com_pointwire_pointwire_internal_wavefront_namePrefixes {H : Type} : DataW H := .slice [.lit (.string [226, 136, 134, 126]), .lit (.string [206, 148, 126]), .lit (.string [126]), .lit (.string [226, 136, 134]), .lit (.string [206, 148])] []

/-- 'wavefront.LawS0058CModel': WHATEVER THE INPUT: true; the input reads as it did. -/
def lawS0058CModelSpec : ChangeSpec := { name := "lawS0058CModel", vars := ["example.com/pointwire/pointwire/internal/wavefront.namePrefixes"], fn := fun _ => fun
  | [d1, d2, g1] => { results := [.lit (.bool true)], args := [d1, d2], vars := [g1] }
  | _ => none }
def lawS0058CModelRow : OpenClaim := { program := "ybulkaegdoor", sum := "00e0646257d338e7051d208afb02e15cdc70885dd1a378864eeee5bce96b6fcf", func := "example.com/pointwire/pointwire/internal/wavefront.LawS0058CModel", spec := "lawS0058CModel", inPlace := ["internal/bytealg.IndexByteString"], named := ["example.com/pointwire/pointwire/internal/wavefront.namePrefixes"], apart := false, laid := [("example.com/pointwire/pointwire/internal/wavefront.namePrefixes", laid_example_com_pointwire_pointwire_internal_wavefront_namePrefixes)] }
def LawS0058CModelSaid : Prop := lawS0058CModelRow.holds Ybad.pinned (OpenSpec.ofChange lawS0058CModelSpec)

/-- ITS FALSE NEIGHBOUR: 'it returns false'. Refute it at one input. -/
def lawS0058CModelWrong : ChangeSpec := { name := "lawS0058CModel", vars := ["example.com/pointwire/pointwire/internal/wavefront.namePrefixes"], fn := fun _ => fun
  | [d1, d2, g1] => { results := [.lit (.bool false)], args := [d1, d2], vars := [g1] }
  | _ => none }
def LawS0058CModelWrongFalsely : Prop := lawS0058CModelRow.holds Ybad.pinned (OpenSpec.ofChange lawS0058CModelWrong)

/-- 'wavefront.LawS0058CBuilt': WHATEVER THE INPUT: true; the input reads as it did. -/
def lawS0058CBuiltSpec : ChangeSpec := { name := "lawS0058CBuilt", vars := ["example.com/pointwire/pointwire/internal/wavefront.namePrefixes"], fn := fun _ => fun
  | [d1, d2, d3, g1] => { results := [.lit (.bool true)], args := [d1, d2, d3], vars := [g1] }
  | _ => none }
def lawS0058CBuiltRow : OpenClaim := { program := "ybulkaegdoor", sum := "00e0646257d338e7051d208afb02e15cdc70885dd1a378864eeee5bce96b6fcf", func := "example.com/pointwire/pointwire/internal/wavefront.LawS0058CBuilt", spec := "lawS0058CBuilt", named := ["example.com/pointwire/pointwire/internal/wavefront.namePrefixes"], apart := false, laid := [("example.com/pointwire/pointwire/internal/wavefront.namePrefixes", laid_example_com_pointwire_pointwire_internal_wavefront_namePrefixes)] }
def LawS0058CBuiltSaid : Prop := lawS0058CBuiltRow.holds Ybad.pinned (OpenSpec.ofChange lawS0058CBuiltSpec)

/-- ITS FALSE NEIGHBOUR: 'it returns false'. Refute it at one input. -/
def lawS0058CBuiltWrong : ChangeSpec := { name := "lawS0058CBuilt", vars := ["example.com/pointwire/pointwire/internal/wavefront.namePrefixes"], fn := fun _ => fun
  | [d1, d2, d3, g1] => { results := [.lit (.bool false)], args := [d1, d2, d3], vars := [g1] }
  | _ => none }
def LawS0058CBuiltWrongFalsely : Prop := lawS0058CBuiltRow.holds Ybad.pinned (OpenSpec.ofChange lawS0058CBuiltWrong)

end Rows
end Go.Proofs.YbulkaegDoor
