/-
  DERIVED. GIVEN WITH THE SEED: THE PROGRAM's TIES (one call each: nine closed facts by the kernel) AND EACH ROW's TIE, after the 31st guide's Derived/Test/Toyas{Tie, Card}.lean. No idea stands in it: it is a product of the set-up. Laid BY PROGRAM, IN A SANDBOX (cutbox-door.mjs). By AI agents, Wed Nov 11 2026. No macro, syntax, notation, axiom, sorry.
-/
import Derived.Test.YtiegapnfbeemcaaGreatDoorRows
import Derived.LaidByTextLater
import Derived.SevenTiedAt
import Derived.LaidSub
import Derived.LaidOnce
namespace Go.Proofs.YtiegapnfbeemcaaGreatDoor
open Go
set_option maxRecDepth 100000
theorem seatTie1 : Tryz.prog.laidByTextLater [("io.EOF", Rows.laid_io_EOF), ("given.example/pub-waxwright/pub/bigall.errNoDigits", Rows.laid_given_example_pub_waxwright_pub_bigall_errNoDigits), ("given.example/pub-waxwright/pub/bigall.errInvalSep", Rows.laid_given_example_pub_waxwright_pub_bigall_errInvalSep), ("given.example/pub-waxwright/pub/bigall.divRecursiveThreshold", Rows.laid_given_example_pub_waxwright_pub_bigall_divRecursiveThreshold), ("given.example/pub-waxwright/pub/bigall.karatsubaThreshold", Rows.laid_given_example_pub_waxwright_pub_bigall_karatsubaThreshold), ("given.example/pub-waxwright/pub/bigall.basicSqrThreshold", Rows.laid_given_example_pub_waxwright_pub_bigall_basicSqrThreshold), ("given.example/pub-waxwright/pub/bigall.karatsubaSqrThreshold", Rows.laid_given_example_pub_waxwright_pub_bigall_karatsubaSqrThreshold), ("given.example/pub-waxwright/pub/gmsmt/sm2.default_uid", Rows.laid_given_example_pub_waxwright_pub_gmsmt_sm2_default_uid)] [.sentinel, .sentinel, .sentinel, .data, .data, .data, .data, .widerDeep] true :=
  Program.laidByTextLater_by_one 87 8 17 (by kernel_rfl) (by kernel_rfl) (by kernel_rfl) (by kernel_rfl) (by kernel_rfl) (by kernel_rfl) (fun _ _ => by kernel_rfl)
theorem noOwnUnsafe : Tryz.pinned.checked.prog.headLifts.contains "ownunsafe" = false := by kernel_rfl
theorem tie : Tryz.prog.laidByTextLater [("io.EOF", Rows.laid_io_EOF), ("given.example/pub-waxwright/pub/bigall.errNoDigits", Rows.laid_given_example_pub_waxwright_pub_bigall_errNoDigits), ("given.example/pub-waxwright/pub/bigall.errInvalSep", Rows.laid_given_example_pub_waxwright_pub_bigall_errInvalSep), ("given.example/pub-waxwright/pub/bigall.divRecursiveThreshold", Rows.laid_given_example_pub_waxwright_pub_bigall_divRecursiveThreshold), ("given.example/pub-waxwright/pub/bigall.karatsubaThreshold", Rows.laid_given_example_pub_waxwright_pub_bigall_karatsubaThreshold), ("given.example/pub-waxwright/pub/bigall.basicSqrThreshold", Rows.laid_given_example_pub_waxwright_pub_bigall_basicSqrThreshold), ("given.example/pub-waxwright/pub/bigall.karatsubaSqrThreshold", Rows.laid_given_example_pub_waxwright_pub_bigall_karatsubaSqrThreshold), ("given.example/pub-waxwright/pub/gmsmt/sm2.default_uid", Rows.laid_given_example_pub_waxwright_pub_gmsmt_sm2_default_uid)] [.sentinel, .sentinel, .sentinel, .data, .data, .data, .data, .widerDeep] true :=
  Program.laidByTextLater.sub seatTie1 ["io.EOF", "given.example/pub-waxwright/pub/bigall.errNoDigits", "given.example/pub-waxwright/pub/bigall.errInvalSep", "given.example/pub-waxwright/pub/bigall.divRecursiveThreshold", "given.example/pub-waxwright/pub/bigall.karatsubaThreshold", "given.example/pub-waxwright/pub/bigall.basicSqrThreshold", "given.example/pub-waxwright/pub/bigall.karatsubaSqrThreshold", "given.example/pub-waxwright/pub/gmsmt/sm2.default_uid"] (by kernel_rfl) (by kernel_rfl)
theorem fnDigest_row_tie : Rows.fnDigestRow.laidByTextAt .later Tryz.pinned [.sentinel, .sentinel, .sentinel, .data, .data, .data, .data, .widerDeep] true :=
  OpenClaim.laidByTextAt_later rfl rfl tie noOwnUnsafe
theorem fnDigestUpto_row_tie : Rows.fnDigestUptoRow.laidByTextAt .later Tryz.pinned [.sentinel, .sentinel, .sentinel, .data, .data, .data, .data, .widerDeep] true :=
  OpenClaim.laidByTextAt_later rfl rfl tie noOwnUnsafe
end Go.Proofs.YtiegapnfbeemcaaGreatDoor
