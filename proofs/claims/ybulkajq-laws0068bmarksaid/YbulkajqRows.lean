/-
  No cell of these rows narrows 'for every input' (looked for: loops, veiled, ifaces, maps, wideKeys, modest, calm, conditions, laid).
  DERIVED. THE GIVEN ROWS OF THIS SEAT. 2 by the template 'for every input the law returns true; each argument reads behind the call as it read before'; 0 by the template 'total and deterministic' (their statements: YbulkajqTotals.lean).
  GIVEN WITH THE SEED: the statements are not yours to turn. If you find one false, say at which input.
  Laid BY PROGRAM, IN A SANDBOX (cutbox-rows.mjs): the forced cells as the released guide's own fill.sh prints them over the translation 67bfdef1e5eefd10… (all of the seat's roots in one cut). By AI agents, Wed Nov 11 2026. No macro, syntax, notation, axiom, sorry.
-/
import Derived.Test.YbulkajqChecked
import GoSem.Claim
import GoSem.ClaimJoined
import GoSem.ClaimMapViews
import Derived.JoinedTies
import Derived.KernelRfl
namespace Go.Proofs.Ybulkajq
/- THE CELL 'sum', in the pinned program and in every row, IS THE sha256 OF THE DUMP (.gsa) THAT YbulkajqProg.lean LOADS. Nothing in Lean hashes anything: it is a label: what it is worth is what the hold of that sum in a sandbox is worth. -/
noncomputable def Yba.pinned : Pinned := { name := "ybulkajq", sum := "67bfdef1e5eefd1089761a238887fdf2b9c67dfeb8cc6ec3199886e4ba26c90c", checked := Yba.checked }
namespace Rows
def none {H : Type} : Left H := { results := [], args := [] }

/-- 'handoff.LawS0068BMark': WHATEVER THE INPUT: true; the input reads as it did. -/
def lawS0068BMarkSpec : ChangeSpec := { name := "lawS0068BMark", fn := fun _ => fun
  | [d1, d2, d3, d4] => { results := [.lit (.bool true)], args := [d1, d2, d3, d4] }
  | _ => none }
def lawS0068BMarkRow : OpenClaim := { program := "ybulkajq", sum := "67bfdef1e5eefd1089761a238887fdf2b9c67dfeb8cc6ec3199886e4ba26c90c", func := "example.com/handoff/handoff.LawS0068BMark", spec := "lawS0068BMark", inPlace := ["sync/atomic.StoreInt64", "sync/atomic.LoadInt64", "sync/atomic.CompareAndSwapInt64"], apart := false }
def LawS0068BMarkSaid : Prop := lawS0068BMarkRow.holds Yba.pinned (OpenSpec.ofChange lawS0068BMarkSpec)

/-- ITS FALSE NEIGHBOUR: 'it returns false'. Refute it at one input. -/
def lawS0068BMarkWrong : ChangeSpec := { name := "lawS0068BMark", fn := fun _ => fun
  | [d1, d2, d3, d4] => { results := [.lit (.bool false)], args := [d1, d2, d3, d4] }
  | _ => none }
def LawS0068BMarkWrongFalsely : Prop := lawS0068BMarkRow.holds Yba.pinned (OpenSpec.ofChange lawS0068BMarkWrong)

/-- 'handoff.LawS0068BAgain': WHATEVER THE INPUT: true; the input reads as it did. -/
def lawS0068BAgainSpec : ChangeSpec := { name := "lawS0068BAgain", fn := fun _ => fun
  | [d1, d2, d3, d4] => { results := [.lit (.bool true)], args := [d1, d2, d3, d4] }
  | _ => none }
def lawS0068BAgainRow : OpenClaim := { program := "ybulkajq", sum := "67bfdef1e5eefd1089761a238887fdf2b9c67dfeb8cc6ec3199886e4ba26c90c", func := "example.com/handoff/handoff.LawS0068BAgain", spec := "lawS0068BAgain", inPlace := ["sync/atomic.StoreInt64", "sync/atomic.LoadInt64", "sync/atomic.CompareAndSwapInt64"], apart := false }
def LawS0068BAgainSaid : Prop := lawS0068BAgainRow.holds Yba.pinned (OpenSpec.ofChange lawS0068BAgainSpec)

/-- ITS FALSE NEIGHBOUR: 'it returns false'. Refute it at one input. -/
def lawS0068BAgainWrong : ChangeSpec := { name := "lawS0068BAgain", fn := fun _ => fun
  | [d1, d2, d3, d4] => { results := [.lit (.bool false)], args := [d1, d2, d3, d4] }
  | _ => none }
def LawS0068BAgainWrongFalsely : Prop := lawS0068BAgainRow.holds Yba.pinned (OpenSpec.ofChange lawS0068BAgainWrong)

end Rows
end Go.Proofs.Ybulkajq
