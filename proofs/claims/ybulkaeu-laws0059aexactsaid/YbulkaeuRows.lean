/-
  No cell of these rows narrows 'for every input' (looked for: loops, veiled, ifaces, maps, wideKeys, modest, calm, conditions, laid).
  DERIVED. THE GIVEN ROWS OF THIS SEAT. 3 by the template 'for every input the law returns true; each argument reads behind the call as it read before'; 0 by the template 'total and deterministic' (their statements: YbulkaeuTotals.lean).
  GIVEN WITH THE SEED: the statements are not yours to turn. If you find one false, say at which input.
  Laid BY PROGRAM, IN A SANDBOX (cutbox-rows.mjs): the forced cells as the released guide's own fill.sh prints them over the translation b60cb2867e0c5403… (all of the seat's roots in one cut). By AI agents, Wed Nov 11 2026. No macro, syntax, notation, axiom, sorry.
-/
import Derived.Test.YbulkaeuChecked
import GoSem.Claim
import GoSem.ClaimJoined
import GoSem.ClaimMapViews
import Derived.JoinedTies
import Derived.KernelRfl
namespace Go.Proofs.Ybulkaeu
/- THE CELL 'sum', in the pinned program and in every row, IS THE sha256 OF THE DUMP (.gsa) THAT YbulkaeuProg.lean LOADS. Nothing in Lean hashes anything: it is a label: what it is worth is what the hold of that sum in a sandbox is worth. -/
noncomputable def Yba.pinned : Pinned := { name := "ybulkaeu", sum := "b60cb2867e0c5403c77c8451bd82c15e95ff0f5f7a3123dd7db372b40ed81f05", checked := Yba.checked }
namespace Rows
def none {H : Type} : Left H := { results := [], args := [] }

/-- 'broadcast.LawS0059AExact': WHATEVER THE INPUT: true; the input reads as it did. -/
def lawS0059AExactSpec : ChangeSpec := { name := "lawS0059AExact", fn := fun _ => fun
  | [d] => { results := [.lit (.bool true)], args := [d] }
  | _ => none }
def lawS0059AExactRow : OpenClaim := { program := "ybulkaeu", sum := "b60cb2867e0c5403c77c8451bd82c15e95ff0f5f7a3123dd7db372b40ed81f05", func := "example.com/spanwright/spanwright/broadcast.LawS0059AExact", spec := "lawS0059AExact", unfollowed := true, recurses := true, plainKeys := false, apart := false }
def LawS0059AExactSaid : Prop := lawS0059AExactRow.holds Yba.pinned (OpenSpec.ofChange lawS0059AExactSpec)

/-- ITS FALSE NEIGHBOUR: 'it returns false'. Refute it at one input. -/
def lawS0059AExactWrong : ChangeSpec := { name := "lawS0059AExact", fn := fun _ => fun
  | [d] => { results := [.lit (.bool false)], args := [d] }
  | _ => none }
def LawS0059AExactWrongFalsely : Prop := lawS0059AExactRow.holds Yba.pinned (OpenSpec.ofChange lawS0059AExactWrong)

/-- 'broadcast.LawS0059ABounds': WHATEVER THE INPUT: true; the input reads as it did. -/
def lawS0059ABoundsSpec : ChangeSpec := { name := "lawS0059ABounds", fn := fun _ => fun
  | [d] => { results := [.lit (.bool true)], args := [d] }
  | _ => none }
def lawS0059ABoundsRow : OpenClaim := { program := "ybulkaeu", sum := "b60cb2867e0c5403c77c8451bd82c15e95ff0f5f7a3123dd7db372b40ed81f05", func := "example.com/spanwright/spanwright/broadcast.LawS0059ABounds", spec := "lawS0059ABounds", unfollowed := true, recurses := true, plainKeys := false, apart := false }
def LawS0059ABoundsSaid : Prop := lawS0059ABoundsRow.holds Yba.pinned (OpenSpec.ofChange lawS0059ABoundsSpec)

/-- ITS FALSE NEIGHBOUR: 'it returns false'. Refute it at one input. -/
def lawS0059ABoundsWrong : ChangeSpec := { name := "lawS0059ABounds", fn := fun _ => fun
  | [d] => { results := [.lit (.bool false)], args := [d] }
  | _ => none }
def LawS0059ABoundsWrongFalsely : Prop := lawS0059ABoundsRow.holds Yba.pinned (OpenSpec.ofChange lawS0059ABoundsWrong)

/-- 'network.LawS0059CCopy': WHATEVER THE INPUT: true; the input reads as it did. -/
def lawS0059CCopySpec : ChangeSpec := { name := "lawS0059CCopy", fn := fun _ => fun
  | [d1, d2, d3, d4] => { results := [.lit (.bool true)], args := [d1, d2, d3, d4] }
  | _ => none }
def lawS0059CCopyRow : OpenClaim := { program := "ybulkaeu", sum := "b60cb2867e0c5403c77c8451bd82c15e95ff0f5f7a3123dd7db372b40ed81f05", func := "example.com/spanwright/spanwright/internal/network.LawS0059CCopy", spec := "lawS0059CCopy", unfollowed := true, recurses := true, plainKeys := false, apart := false }
def LawS0059CCopySaid : Prop := lawS0059CCopyRow.holds Yba.pinned (OpenSpec.ofChange lawS0059CCopySpec)

/-- ITS FALSE NEIGHBOUR: 'it returns false'. Refute it at one input. -/
def lawS0059CCopyWrong : ChangeSpec := { name := "lawS0059CCopy", fn := fun _ => fun
  | [d1, d2, d3, d4] => { results := [.lit (.bool false)], args := [d1, d2, d3, d4] }
  | _ => none }
def LawS0059CCopyWrongFalsely : Prop := lawS0059CCopyRow.holds Yba.pinned (OpenSpec.ofChange lawS0059CCopyWrong)

end Rows
end Go.Proofs.Ybulkaeu
