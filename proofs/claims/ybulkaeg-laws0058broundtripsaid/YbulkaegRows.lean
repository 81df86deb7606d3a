/-
  No cell of these rows narrows 'for every input' (looked for: loops, veiled, ifaces, maps, wideKeys, modest, calm, conditions, laid).
  DERIVED. THE GIVEN ROWS OF THIS SEAT. 3 by the template 'for every input the law returns true; each argument reads behind the call as it read before'; 0 by the template 'total and deterministic' (their statements: YbulkaegTotals.lean).
  GIVEN WITH THE SEED: the statements are not yours to turn. If you find one false, say at which input.
  Laid BY PROGRAM, IN A SANDBOX (cutbox-rows.mjs): the forced cells as the released guide's own fill.sh prints them over the translation 3d694b623db2691a… (all of the seat's roots in one cut). By AI agents, Wed Nov 11 2026. No macro, syntax, notation, axiom, sorry.
-/
import Derived.Test.YbulkaegChecked
import GoSem.Claim
import GoSem.ClaimJoined
import GoSem.ClaimMapViews
import Derived.JoinedTies
import Derived.KernelRfl
namespace Go.Proofs.Ybulkaeg
/- THE CELL 'sum', in the pinned program and in every row, IS THE sha256 OF THE DUMP (.gsa) THAT YbulkaegProg.lean LOADS. Nothing in Lean hashes anything: it is a label: what it is worth is what the hold of that sum in a sandbox is worth. -/
noncomputable def Yba.pinned : Pinned := { name := "ybulkaeg", sum := "3d694b623db2691a80d5521ff9d89a847d26014e6381b44be580828372fd5c63", checked := Yba.checked }
namespace Rows
def none {H : Type} : Left H := { results := [], args := [] }

/-- 'influx.LawS0058BModel': WHATEVER THE INPUT: true; the input reads as it did. -/
def lawS0058BModelSpec : ChangeSpec := { name := "lawS0058BModel", fn := fun _ => fun
  | [d] => { results := [.lit (.bool true)], args := [d] }
  | _ => none }
def lawS0058BModelRow : OpenClaim := { program := "ybulkaeg", sum := "3d694b623db2691a80d5521ff9d89a847d26014e6381b44be580828372fd5c63", func := "example.com/pointwire/pointwire/internal/influx.LawS0058BModel", spec := "lawS0058BModel", apart := false }
def LawS0058BModelSaid : Prop := lawS0058BModelRow.holds Yba.pinned (OpenSpec.ofChange lawS0058BModelSpec)

/-- ITS FALSE NEIGHBOUR: 'it returns false'. Refute it at one input. -/
def lawS0058BModelWrong : ChangeSpec := { name := "lawS0058BModel", fn := fun _ => fun
  | [d] => { results := [.lit (.bool false)], args := [d] }
  | _ => none }
def LawS0058BModelWrongFalsely : Prop := lawS0058BModelRow.holds Yba.pinned (OpenSpec.ofChange lawS0058BModelWrong)

/-- 'influx.LawS0058BRoundTrip': WHATEVER THE INPUT: true; the input reads as it did. -/
def lawS0058BRoundTripSpec : ChangeSpec := { name := "lawS0058BRoundTrip", fn := fun _ => fun
  | [d1, d2] => { results := [.lit (.bool true)], args := [d1, d2] }
  | _ => none }
def lawS0058BRoundTripRow : OpenClaim := { program := "ybulkaeg", sum := "3d694b623db2691a80d5521ff9d89a847d26014e6381b44be580828372fd5c63", func := "example.com/pointwire/pointwire/internal/influx.LawS0058BRoundTrip", spec := "lawS0058BRoundTrip", apart := false }
def LawS0058BRoundTripSaid : Prop := lawS0058BRoundTripRow.holds Yba.pinned (OpenSpec.ofChange lawS0058BRoundTripSpec)

/-- ITS FALSE NEIGHBOUR: 'it returns false'. Refute it at one input. -/
def lawS0058BRoundTripWrong : ChangeSpec := { name := "lawS0058BRoundTrip", fn := fun _ => fun
  | [d1, d2] => { results := [.lit (.bool false)], args := [d1, d2] }
  | _ => none }
def LawS0058BRoundTripWrongFalsely : Prop := lawS0058BRoundTripRow.holds Yba.pinned (OpenSpec.ofChange lawS0058BRoundTripWrong)

/-- 'influx.LawS0058BUnclosed': WHATEVER THE INPUT: true; the input reads as it did. -/
def lawS0058BUnclosedSpec : ChangeSpec := { name := "lawS0058BUnclosed", fn := fun _ => fun
  | [d] => { results := [.lit (.bool true)], args := [d] }
  | _ => none }
def lawS0058BUnclosedRow : OpenClaim := { program := "ybulkaeg", sum := "3d694b623db2691a80d5521ff9d89a847d26014e6381b44be580828372fd5c63", func := "example.com/pointwire/pointwire/internal/influx.LawS0058BUnclosed", spec := "lawS0058BUnclosed", apart := false }
def LawS0058BUnclosedSaid : Prop := lawS0058BUnclosedRow.holds Yba.pinned (OpenSpec.ofChange lawS0058BUnclosedSpec)

/-- ITS FALSE NEIGHBOUR: 'it returns false'. Refute it at one input. -/
def lawS0058BUnclosedWrong : ChangeSpec := { name := "lawS0058BUnclosed", fn := fun _ => fun
  | [d] => { results := [.lit (.bool false)], args := [d] }
  | _ => none }
def LawS0058BUnclosedWrongFalsely : Prop := lawS0058BUnclosedRow.holds Yba.pinned (OpenSpec.ofChange lawS0058BUnclosedWrong)

end Rows
end Go.Proofs.Ybulkaeg
