/-
  DERIVED. GIVEN WITH THE SEED: THE PROGRAM's TIES (one call each: nine closed facts by the kernel) AND EACH ROW's TIE, after the 31st guide's Derived/Test/Toyas{Tie, Card}.lean. No idea stands in it: it is a product of the set-up. Laid BY PROGRAM, IN A SANDBOX (cutbox-door.mjs). By AI agents, Wed Nov 11 2026. No macro, syntax, notation, axiom, sorry.
-/
import Derived.Test.YtpjkfdgkkpkljaaGreatDoorRows
import Derived.LaidByTextLater
import Derived.SevenTiedAt
import Derived.LaidSub
import Derived.LaidOnce
namespace Go.Proofs.YtpjkfdgkkpkljaaGreatDoor
open Go
set_option maxRecDepth 100000
theorem seatTie1 : Tryz.prog.laidByTextLater [("given.example/pub-larkspur/pub/bigall.divRecursiveThreshold", Rows.laid_given_example_pub_larkspur_pub_bigall_divRecursiveThreshold), ("given.example/pub-larkspur/pub/bigall.karatsubaThreshold", Rows.laid_given_example_pub_larkspur_pub_bigall_karatsubaThreshold), ("given.example/pub-larkspur/pub/bigall.basicSqrThreshold", Rows.laid_given_example_pub_larkspur_pub_bigall_basicSqrThreshold), ("given.example/pub-larkspur/pub/bigall.karatsubaSqrThreshold", Rows.laid_given_example_pub_larkspur_pub_bigall_karatsubaSqrThreshold)] [.data, .data, .data, .data] true :=
  Program.laidByTextLater_by_one 25 8 2 (by kernel_rfl) (by kernel_rfl) (by kernel_rfl) (by kernel_rfl) (by kernel_rfl) (by kernel_rfl) (fun _ _ => by kernel_rfl)
theorem noOwnUnsafe : Tryz.pinned.checked.prog.headLifts.contains "ownunsafe" = false := by kernel_rfl
theorem tie : Tryz.prog.laidByTextLater [("given.example/pub-larkspur/pub/bigall.divRecursiveThreshold", Rows.laid_given_example_pub_larkspur_pub_bigall_divRecursiveThreshold), ("given.example/pub-larkspur/pub/bigall.karatsubaThreshold", Rows.laid_given_example_pub_larkspur_pub_bigall_karatsubaThreshold), ("given.example/pub-larkspur/pub/bigall.basicSqrThreshold", Rows.laid_given_example_pub_larkspur_pub_bigall_basicSqrThreshold), ("given.example/pub-larkspur/pub/bigall.karatsubaSqrThreshold", Rows.laid_given_example_pub_larkspur_pub_bigall_karatsubaSqrThreshold)] [.data, .data, .data, .data] true :=
  Program.laidByTextLater.sub seatTie1 ["given.example/pub-larkspur/pub/bigall.divRecursiveThreshold", "given.example/pub-larkspur/pub/bigall.karatsubaThreshold", "given.example/pub-larkspur/pub/bigall.basicSqrThreshold", "given.example/pub-larkspur/pub/bigall.karatsubaSqrThreshold"] (by kernel_rfl) (by kernel_rfl)
theorem fnIntDiv_row_tie : Rows.fnIntDivRow.laidByTextAt .later Tryz.pinned [.data, .data, .data, .data] true :=
  OpenClaim.laidByTextAt_later rfl rfl tie noOwnUnsafe
theorem fnFloatHash_row_tie : Rows.fnFloatHashRow.laidByTextAt .later Tryz.pinned [.data, .data, .data, .data] true :=
  OpenClaim.laidByTextAt_later rfl rfl tie noOwnUnsafe
theorem fnFloatWhole_row_tie : Rows.fnFloatWholeRow.laidByTextAt .later Tryz.pinned [.data, .data, .data, .data] true :=
  OpenClaim.laidByTextAt_later rfl rfl tie noOwnUnsafe
theorem fnIntDivUpto_row_tie : Rows.fnIntDivUptoRow.laidByTextAt .later Tryz.pinned [.data, .data, .data, .data] true :=
  OpenClaim.laidByTextAt_later rfl rfl tie noOwnUnsafe
theorem fnFloatHashUpto_row_tie : Rows.fnFloatHashUptoRow.laidByTextAt .later Tryz.pinned [.data, .data, .data, .data] true :=
  OpenClaim.laidByTextAt_later rfl rfl tie noOwnUnsafe
theorem fnFloatWholeUpto_row_tie : Rows.fnFloatWholeUptoRow.laidByTextAt .later Tryz.pinned [.data, .data, .data, .data] true :=
  OpenClaim.laidByTextAt_later rfl rfl tie noOwnUnsafe
end Go.Proofs.YtpjkfdgkkpkljaaGreatDoor
