/-
  NARROWER THAN 'FOR EVERY INPUT', by the rows' own cells (each row's printed sentence says how): LawS0065ARoundTrip: ifaces, laid · LawS0065ACompressed: ifaces, laid · LawS0065ATruncated: ifaces, laid · LawS0065BModel: ifaces, laid · LawS0065BCase: ifaces, laid.
  DERIVED. THE GIVEN ROWS OF THIS SEAT. 5 by the template 'for every input the law returns true; each argument reads behind the call as it read before'; 0 by the template 'total and deterministic' (their statements: YbulkaiaFmtTotals.lean).
  GIVEN WITH THE SEED: the statements are not yours to turn. If you find one false, say at which input.
  Laid BY PROGRAM, IN A SANDBOX (cutbox-rows.mjs): the forced cells as the released guide's own fill.sh prints them over the translation fd4fbf996080c285… (all of the seat's roots in one cut). By AI agents, Wed Nov 11 2026. No macro, syntax, notation, axiom, sorry.
-/
import Derived.Test.YbulkaiaFmtChecked
import GoSem.Claim
import GoSem.ClaimJoined
import GoSem.ClaimMapViews
import Derived.JoinedTies
import Derived.KernelRfl
namespace Go.Proofs.YbulkaiaFmt
/- THE CELL 'sum', in the pinned program and in every row, IS THE sha256 OF THE DUMP (.gsa) THAT YbulkaiaFmtProg.lean LOADS. Nothing in Lean hashes anything: it is a label: what it is worth is what the hold of that sum in a sandbox is worth. -/
noncomputable def Ybaf.pinned : Pinned := { name := "ybulkaiafmt", sum := "fd4fbf996080c28567c44ecb48c2a99b19c22393c64713cfabca5721daf07796", checked := Ybaf.checked }
namespace Rows
def none {H : Type} : Left H := { results := [], args := [] }

/- WHAT THE LISTED PACKAGE-LEVEL VARIABLES READ AS WHEN THE CALL BEGINS. Each datum BY PROGRAM (the guide's laid-datum.mjs) off the statement by which the dump's own 'gosem.cut.vars' lays the variable. In a bare row this is a premise. The card (YbulkaiaFmtCards.lean) ties it to the program's text. -/
def laid_example_com_keyharbor_keyharbor_dnsname_errNoRoot {H : Type} : DataW H := .iface "*errors.errorString" (.ptr (.agg [.lit (.string [110, 97, 109, 101, 32, 114, 117, 110, 115, 32, 112, 97, 115, 116, 32, 116, 104, 101, 32, 101, 110, 100, 32, 111, 102, 32, 116, 104, 101, 32, 100, 97, 116, 97, 32, 119, 105, 116, 104, 111, 117, 116, 32, 105, 116, 115, 32, 114, 111, 111, 116, 32, 108, 97, 98, 101, 108])]))

/-- 'dnsclient.LawS0065ARoundTrip': WHATEVER THE INPUT: true; the input reads as it did. -/
def lawS0065ARoundTripSpec : ChangeSpec := { name := "lawS0065ARoundTrip", vars := ["example.com/keyharbor/keyharbor/dnsname.errNoRoot"], fn := fun _ => fun
  | [d1, d2, d3, d4, d5, d6, d7, d8, d9, g1] => { results := [.lit (.bool true)], args := [d1, d2, d3, d4, d5, d6, d7, d8, d9], vars := [g1] }
  | _ => none }
def lawS0065ARoundTripRow : OpenClaim := { program := "ybulkaiafmt", sum := "fd4fbf996080c28567c44ecb48c2a99b19c22393c64713cfabca5721daf07796", func := "example.com/keyharbor/keyharbor/dnsclient.LawS0065ARoundTrip", spec := "lawS0065ARoundTrip", stops := ["fmt.errorf, its operands' methods called", "fmt.Sprintf"], inPlace := ["fmt.errorf"], unfollowed := true, recurses := true, named := ["encoding/binary.BigEndian", "example.com/keyharbor/keyharbor/dnsname.errNoRoot"], ifaces := true, apart := false, laid := [("example.com/keyharbor/keyharbor/dnsname.errNoRoot", laid_example_com_keyharbor_keyharbor_dnsname_errNoRoot)] }
/-- NO THEOREM (fmt's text is open here; it may be false): for the released tool's asking of the row's closed facts alone. THE STATEMENT IS 'LawS0065ARoundTripToldSaid' (YbulkaiaFmtCards.lean). -/
def LawS0065ARoundTripFormAsk : Prop := lawS0065ARoundTripRow.holds Ybaf.pinned (OpenSpec.ofChange lawS0065ARoundTripSpec)

/-- ITS FALSE NEIGHBOUR: 'it returns false'. Refute it at one input. -/
def lawS0065ARoundTripWrong : ChangeSpec := { name := "lawS0065ARoundTrip", vars := ["example.com/keyharbor/keyharbor/dnsname.errNoRoot"], fn := fun _ => fun
  | [d1, d2, d3, d4, d5, d6, d7, d8, d9, g1] => { results := [.lit (.bool false)], args := [d1, d2, d3, d4, d5, d6, d7, d8, d9], vars := [g1] }
  | _ => none }
def LawS0065ARoundTripWrongFormAsk : Prop := lawS0065ARoundTripRow.holds Ybaf.pinned (OpenSpec.ofChange lawS0065ARoundTripWrong)

/-- 'dnsclient.LawS0065ACompressed': WHATEVER THE INPUT: true; the input reads as it did. -/
def lawS0065ACompressedSpec : ChangeSpec := { name := "lawS0065ACompressed", vars := ["example.com/keyharbor/keyharbor/dnsname.errNoRoot"], fn := fun _ => fun
  | [d1, d2, d3, d4, d5, d6, g1] => { results := [.lit (.bool true)], args := [d1, d2, d3, d4, d5, d6], vars := [g1] }
  | _ => none }
def lawS0065ACompressedRow : OpenClaim := { program := "ybulkaiafmt", sum := "fd4fbf996080c28567c44ecb48c2a99b19c22393c64713cfabca5721daf07796", func := "example.com/keyharbor/keyharbor/dnsclient.LawS0065ACompressed", spec := "lawS0065ACompressed", stops := ["fmt.errorf, its operands' methods called", "fmt.Sprintf"], inPlace := ["fmt.errorf"], unfollowed := true, recurses := true, named := ["encoding/binary.BigEndian", "example.com/keyharbor/keyharbor/dnsname.errNoRoot"], ifaces := true, apart := false, laid := [("example.com/keyharbor/keyharbor/dnsname.errNoRoot", laid_example_com_keyharbor_keyharbor_dnsname_errNoRoot)] }
/-- NO THEOREM (fmt's text is open here; it may be false): for the released tool's asking of the row's closed facts alone. THE STATEMENT IS 'LawS0065ACompressedToldSaid' (YbulkaiaFmtCards.lean). -/
def LawS0065ACompressedFormAsk : Prop := lawS0065ACompressedRow.holds Ybaf.pinned (OpenSpec.ofChange lawS0065ACompressedSpec)

/-- ITS FALSE NEIGHBOUR: 'it returns false'. Refute it at one input. -/
def lawS0065ACompressedWrong : ChangeSpec := { name := "lawS0065ACompressed", vars := ["example.com/keyharbor/keyharbor/dnsname.errNoRoot"], fn := fun _ => fun
  | [d1, d2, d3, d4, d5, d6, g1] => { results := [.lit (.bool false)], args := [d1, d2, d3, d4, d5, d6], vars := [g1] }
  | _ => none }
def LawS0065ACompressedWrongFormAsk : Prop := lawS0065ACompressedRow.holds Ybaf.pinned (OpenSpec.ofChange lawS0065ACompressedWrong)

/-- 'dnsclient.LawS0065ATruncated': WHATEVER THE INPUT: true; the input reads as it did. -/
def lawS0065ATruncatedSpec : ChangeSpec := { name := "lawS0065ATruncated", vars := ["example.com/keyharbor/keyharbor/dnsname.errNoRoot"], fn := fun _ => fun
  | [d1, d2, d3, d4, d5, d6, d7, d8, d9, g1] => { results := [.lit (.bool true)], args := [d1, d2, d3, d4, d5, d6, d7, d8, d9], vars := [g1] }
  | _ => none }
def lawS0065ATruncatedRow : OpenClaim := { program := "ybulkaiafmt", sum := "fd4fbf996080c28567c44ecb48c2a99b19c22393c64713cfabca5721daf07796", func := "example.com/keyharbor/keyharbor/dnsclient.LawS0065ATruncated", spec := "lawS0065ATruncated", stops := ["fmt.errorf, its operands' methods called", "fmt.Sprintf"], inPlace := ["fmt.errorf"], unfollowed := true, recurses := true, named := ["encoding/binary.BigEndian", "example.com/keyharbor/keyharbor/dnsname.errNoRoot"], ifaces := true, apart := false, laid := [("example.com/keyharbor/keyharbor/dnsname.errNoRoot", laid_example_com_keyharbor_keyharbor_dnsname_errNoRoot)] }
/-- NO THEOREM (fmt's text is open here; it may be false): for the released tool's asking of the row's closed facts alone. THE STATEMENT IS 'LawS0065ATruncatedToldSaid' (YbulkaiaFmtCards.lean). -/
def LawS0065ATruncatedFormAsk : Prop := lawS0065ATruncatedRow.holds Ybaf.pinned (OpenSpec.ofChange lawS0065ATruncatedSpec)

/-- ITS FALSE NEIGHBOUR: 'it returns false'. Refute it at one input. -/
def lawS0065ATruncatedWrong : ChangeSpec := { name := "lawS0065ATruncated", vars := ["example.com/keyharbor/keyharbor/dnsname.errNoRoot"], fn := fun _ => fun
  | [d1, d2, d3, d4, d5, d6, d7, d8, d9, g1] => { results := [.lit (.bool false)], args := [d1, d2, d3, d4, d5, d6, d7, d8, d9], vars := [g1] }
  | _ => none }
def LawS0065ATruncatedWrongFormAsk : Prop := lawS0065ATruncatedRow.holds Ybaf.pinned (OpenSpec.ofChange lawS0065ATruncatedWrong)

/-- 'dnsclient.LawS0065BModel': WHATEVER THE INPUT: true; the input reads as it did. -/
def lawS0065BModelSpec : ChangeSpec := { name := "lawS0065BModel", vars := ["example.com/keyharbor/keyharbor/dnsname.errNoRoot"], fn := fun _ => fun
  | [d1, d2, d3, g1] => { results := [.lit (.bool true)], args := [d1, d2, d3], vars := [g1] }
  | _ => none }
def lawS0065BModelRow : OpenClaim := { program := "ybulkaiafmt", sum := "fd4fbf996080c28567c44ecb48c2a99b19c22393c64713cfabca5721daf07796", func := "example.com/keyharbor/keyharbor/dnsclient.LawS0065BModel", spec := "lawS0065BModel", stops := ["fmt.errorf, its operands' methods called", "fmt.Sprintf"], inPlace := ["fmt.errorf"], unfollowed := true, recurses := true, named := ["example.com/keyharbor/keyharbor/dnsname.errNoRoot"], ifaces := true, apart := false, laid := [("example.com/keyharbor/keyharbor/dnsname.errNoRoot", laid_example_com_keyharbor_keyharbor_dnsname_errNoRoot)] }
/-- NO THEOREM (fmt's text is open here; it may be false): for the released tool's asking of the row's closed facts alone. THE STATEMENT IS 'LawS0065BModelToldSaid' (YbulkaiaFmtCards.lean). -/
def LawS0065BModelFormAsk : Prop := lawS0065BModelRow.holds Ybaf.pinned (OpenSpec.ofChange lawS0065BModelSpec)

/-- ITS FALSE NEIGHBOUR: 'it returns false'. Refute it at one input. -/
def lawS0065BModelWrong : ChangeSpec := { name := "lawS0065BModel", vars := ["example.com/keyharbor/keyharbor/dnsname.errNoRoot"], fn := fun _ => fun
  | [d1, d2, d3, g1] => { results := [.lit (.bool false)], args := [d1, d2, d3], vars := [g1] }
  | _ => none }
def LawS0065BModelWrongFormAsk : Prop := lawS0065BModelRow.holds Ybaf.pinned (OpenSpec.ofChange lawS0065BModelWrong)

/-- 'dnsclient.LawS0065BCase': WHATEVER THE INPUT: true; the input reads as it did. -/
def lawS0065BCaseSpec : ChangeSpec := { name := "lawS0065BCase", vars := ["example.com/keyharbor/keyharbor/dnsname.errNoRoot"], fn := fun _ => fun
  | [d1, d2, g1] => { results := [.lit (.bool true)], args := [d1, d2], vars := [g1] }
  | _ => none }
def lawS0065BCaseRow : OpenClaim := { program := "ybulkaiafmt", sum := "fd4fbf996080c28567c44ecb48c2a99b19c22393c64713cfabca5721daf07796", func := "example.com/keyharbor/keyharbor/dnsclient.LawS0065BCase", spec := "lawS0065BCase", stops := ["fmt.errorf, its operands' methods called", "fmt.Sprintf"], inPlace := ["fmt.errorf"], unfollowed := true, recurses := true, named := ["example.com/keyharbor/keyharbor/dnsname.errNoRoot"], ifaces := true, apart := false, laid := [("example.com/keyharbor/keyharbor/dnsname.errNoRoot", laid_example_com_keyharbor_keyharbor_dnsname_errNoRoot)] }
/-- NO THEOREM (fmt's text is open here; it may be false): for the released tool's asking of the row's closed facts alone. THE STATEMENT IS 'LawS0065BCaseToldSaid' (YbulkaiaFmtCards.lean). -/
def LawS0065BCaseFormAsk : Prop := lawS0065BCaseRow.holds Ybaf.pinned (OpenSpec.ofChange lawS0065BCaseSpec)

/-- ITS FALSE NEIGHBOUR: 'it returns false'. Refute it at one input. -/
def lawS0065BCaseWrong : ChangeSpec := { name := "lawS0065BCase", vars := ["example.com/keyharbor/keyharbor/dnsname.errNoRoot"], fn := fun _ => fun
  | [d1, d2, g1] => { results := [.lit (.bool false)], args := [d1, d2], vars := [g1] }
  | _ => none }
def LawS0065BCaseWrongFormAsk : Prop := lawS0065BCaseRow.holds Ybaf.pinned (OpenSpec.ofChange lawS0065BCaseWrong)

end Rows
end Go.Proofs.YbulkaiaFmt
