/-
  DERIVED. GIVEN WITH THE SEED: THE PROGRAM's TIES (one call each: nine closed facts by the kernel) AND EACH ROW's TIE, after the 31st guide's Derived/Test/Toyas{Tie, Card}.lean. No idea stands in it: it is a product of the set-up. Laid BY PROGRAM, IN A SANDBOX (cutbox-door.mjs). By AI agents, Wed Nov 11 2026. No macro, syntax, notation, axiom, sorry.
-/
import Derived.Test.YbulkaiaFmtRows
import Derived.LaidByTextLater
import Derived.SevenTiedAt
import Derived.LaidSub
import Derived.LaidOnce
namespace Go.Proofs.YbulkaiaFmt
open Go
set_option maxRecDepth 100000
theorem seatTie1 : Ybaf.prog.laidByTextLater [("example.com/keyharbor/keyharbor/dnsname.errNoRoot", Rows.laid_example_com_keyharbor_keyharbor_dnsname_errNoRoot)] [.sentinel] true :=
  Program.laidByTextLater_by_one 45 8 3 (by kernel_rfl) (by kernel_rfl) (by kernel_rfl) (by kernel_rfl) (by kernel_rfl) (by kernel_rfl) (fun _ _ => by kernel_rfl)
theorem noOwnUnsafe : Ybaf.pinned.checked.prog.headLifts.contains "ownunsafe" = false := by kernel_rfl
theorem tie : Ybaf.prog.laidByTextLater [("example.com/keyharbor/keyharbor/dnsname.errNoRoot", Rows.laid_example_com_keyharbor_keyharbor_dnsname_errNoRoot)] [.sentinel] true :=
  Program.laidByTextLater.sub seatTie1 ["example.com/keyharbor/keyharbor/dnsname.errNoRoot"] (by kernel_rfl) (by kernel_rfl)
theorem lawS0065ARoundTrip_row_tie : Rows.lawS0065ARoundTripRow.laidByTextAt .later Ybaf.pinned [.sentinel] true :=
  OpenClaim.laidByTextAt_later rfl rfl tie noOwnUnsafe
theorem lawS0065ACompressed_row_tie : Rows.lawS0065ACompressedRow.laidByTextAt .later Ybaf.pinned [.sentinel] true :=
  OpenClaim.laidByTextAt_later rfl rfl tie noOwnUnsafe
theorem lawS0065ATruncated_row_tie : Rows.lawS0065ATruncatedRow.laidByTextAt .later Ybaf.pinned [.sentinel] true :=
  OpenClaim.laidByTextAt_later rfl rfl tie noOwnUnsafe
theorem lawS0065BModel_row_tie : Rows.lawS0065BModelRow.laidByTextAt .later Ybaf.pinned [.sentinel] true :=
  OpenClaim.laidByTextAt_later rfl rfl tie noOwnUnsafe
theorem lawS0065BCase_row_tie : Rows.lawS0065BCaseRow.laidByTextAt .later Ybaf.pinned [.sentinel] true :=
  OpenClaim.laidByTextAt_later rfl rfl tie noOwnUnsafe
end Go.Proofs.YbulkaiaFmt
