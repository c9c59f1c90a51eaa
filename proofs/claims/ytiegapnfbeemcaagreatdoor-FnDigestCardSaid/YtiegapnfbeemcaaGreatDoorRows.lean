/-
  NARROWER THAN 'FOR EVERY INPUT', by the rows' own cells (each row's printed sentence says how): FnDigest: ifaces, laid.
  DERIVED. THE GIVEN ROWS OF THIS SEAT. 1 by the template 'for every input the law returns true; each argument reads behind the call as it read before'; 0 by the template 'total and deterministic' (their statements: YtiegapnfbeemcaaGreatDoorTotals.lean).
  GIVEN WITH THE SEED: the statements are not yours to turn. If you find one false, say at which input.
  Laid BY PROGRAM, IN A SANDBOX (cutbox-rows.mjs): the forced cells as the released guide's own fill.sh prints them over the translation b9cd691ad9b3c213… (all of the seat's roots in one cut). By AI agents, Wed Nov 11 2026. No macro, syntax, notation, axiom, sorry.
-/
import Derived.Test.YtiegapnfbeemcaaGreatDoorChecked
import GoSem.Claim
import GoSem.ClaimJoined
import GoSem.ClaimMapViews
import Derived.JoinedTies
import Derived.KernelRfl
namespace Go.Proofs.YtiegapnfbeemcaaGreatDoor
/- THE CELL 'sum', in the pinned program and in every row, IS THE sha256 OF THE DUMP (.gsa) THAT YtiegapnfbeemcaaGreatDoorProg.lean LOADS. Nothing in Lean hashes anything: it is a label: what it is worth is what the hold of that sum in a sandbox is worth. -/
noncomputable def Tryz.pinned : Pinned := { name := "ytiegapnfbeemcaagreatdoor", sum := "b9cd691ad9b3c21373f9cc07619a2057a8a1140633c2464b69a291b75c55c404", checked := Tryz.checked }
namespace Rows
def none {H : Type} : Left H := { results := [], args := [] }

/- WHAT THE LISTED PACKAGE-LEVEL VARIABLES READ AS WHEN THE CALL BEGINS. Each datum BY PROGRAM (the guide's laid-datum.mjs) off the statement by which the dump's own 'gosem.cut.vars' lays the variable. In a bare row this is a premise. The card (YtiegapnfbeemcaaGreatDoorCards.lean) ties it to the program's text. -/
def laid_io_EOF {H : Type} : DataW H := .iface "*errors.errorString" (.ptr (.agg [.lit (.string [69, 79, 70])]))
def laid_given_example_pub_waxwright_pub_bigall_errNoDigits {H : Type} : DataW H := .iface "*errors.errorString" (.ptr (.agg [.lit (.string [110, 117, 109, 98, 101, 114, 32, 104, 97, 115, 32, 110, 111, 32, 100, 105, 103, 105, 116, 115])]))
def laid_given_example_pub_waxwright_pub_bigall_errInvalSep {H : Type} : DataW H := .iface "*errors.errorString" (.ptr (.agg [.lit (.string [39, 95, 39, 32, 109, 117, 115, 116, 32, 115, 101, 112, 97, 114, 97, 116, 101, 32, 115, 117, 99, 99, 101, 115, 115, 105, 118, 101, 32, 100, 105, 103, 105, 116, 115])]))
def laid_given_example_pub_waxwright_pub_bigall_divRecursiveThreshold {H : Type} : DataW H := .lit (.int .i64 40)
def laid_given_example_pub_waxwright_pub_bigall_karatsubaThreshold {H : Type} : DataW H := .lit (.int .i64 40)
def laid_given_example_pub_waxwright_pub_bigall_basicSqrThreshold {H : Type} : DataW H := .lit (.int .i64 12)
def laid_given_example_pub_waxwright_pub_bigall_karatsubaSqrThreshold {H : Type} : DataW H := .lit (.int .i64 80)
def laid_given_example_pub_waxwright_pub_gmsmt_sm2_default_uid {H : Type} : DataW H := .slice [.lit (.int .u8 49), .lit (.int .u8 50), .lit (.int .u8 51), .lit (.int .u8 52), .lit (.int .u8 53), .lit (.int .u8 54), .lit (.int .u8 55), .lit (.int .u8 56), .lit (.int .u8 49), .lit (.int .u8 50), .lit (.int .u8 51), .lit (.int .u8 52), .lit (.int .u8 53), .lit (.int .u8 54), .lit (.int .u8 55), .lit (.int .u8 56)] []

/-- 'laws.FnDigest': WHATEVER THE INPUT: true; the input reads as it did. -/
def fnDigestSpec : ChangeSpec := { name := "fnDigest", vars := ["given.example/pub-waxwright/pub/bigall.errInvalSep", "given.example/pub-waxwright/pub/bigall.errNoDigits", "given.example/pub-waxwright/pub/bigall.divRecursiveThreshold", "given.example/pub-waxwright/pub/bigall.karatsubaThreshold", "given.example/pub-waxwright/pub/bigall.basicSqrThreshold", "given.example/pub-waxwright/pub/bigall.karatsubaSqrThreshold", "given.example/pub-waxwright/pub/gmsmt/sm2.default_uid"], fn := fun _ => fun
  | [d1, d2, d3, g1, g2, g3, g4, g5, g6, g7] => { results := [.lit (.bool true)], args := [d1, d2, d3], vars := [g1, g2, g3, g4, g5, g6, g7] }
  | _ => none }
def fnDigestRow : OpenClaim := { program := "ytiegapnfbeemcaagreatdoor", sum := "b9cd691ad9b3c21373f9cc07619a2057a8a1140633c2464b69a291b75c55c404", func := "given.example/pub-waxwright/laws.FnDigest", spec := "fnDigest", inPlace := ["math/bits.Add64", "math/bits.Sub64"], unfollowed := true, recurses := true, named := ["io.EOF", "given.example/pub-waxwright/pub/bigall.errInvalSep", "given.example/pub-waxwright/pub/bigall.errNoDigits", "given.example/pub-waxwright/pub/bigall.divRecursiveThreshold", "given.example/pub-waxwright/pub/bigall.karatsubaThreshold", "given.example/pub-waxwright/pub/bigall.basicSqrThreshold", "given.example/pub-waxwright/pub/bigall.karatsubaSqrThreshold", "encoding/binary.BigEndian", "given.example/pub-waxwright/pub/gmsmt/sm2.default_uid"], ifaces := true, apart := false, laid := [("io.EOF", laid_io_EOF), ("given.example/pub-waxwright/pub/bigall.errNoDigits", laid_given_example_pub_waxwright_pub_bigall_errNoDigits), ("given.example/pub-waxwright/pub/bigall.errInvalSep", laid_given_example_pub_waxwright_pub_bigall_errInvalSep), ("given.example/pub-waxwright/pub/bigall.divRecursiveThreshold", laid_given_example_pub_waxwright_pub_bigall_divRecursiveThreshold), ("given.example/pub-waxwright/pub/bigall.karatsubaThreshold", laid_given_example_pub_waxwright_pub_bigall_karatsubaThreshold), ("given.example/pub-waxwright/pub/bigall.basicSqrThreshold", laid_given_example_pub_waxwright_pub_bigall_basicSqrThreshold), ("given.example/pub-waxwright/pub/bigall.karatsubaSqrThreshold", laid_given_example_pub_waxwright_pub_bigall_karatsubaSqrThreshold), ("given.example/pub-waxwright/pub/gmsmt/sm2.default_uid", laid_given_example_pub_waxwright_pub_gmsmt_sm2_default_uid)] }
def FnDigestSaid : Prop := fnDigestRow.holds Tryz.pinned (OpenSpec.ofChange fnDigestSpec)

/-- ITS FALSE NEIGHBOUR: 'it returns false'. Refute it at one input. -/
def fnDigestWrong : ChangeSpec := { name := "fnDigest", vars := ["given.example/pub-waxwright/pub/bigall.errInvalSep", "given.example/pub-waxwright/pub/bigall.errNoDigits", "given.example/pub-waxwright/pub/bigall.divRecursiveThreshold", "given.example/pub-waxwright/pub/bigall.karatsubaThreshold", "given.example/pub-waxwright/pub/bigall.basicSqrThreshold", "given.example/pub-waxwright/pub/bigall.karatsubaSqrThreshold", "given.example/pub-waxwright/pub/gmsmt/sm2.default_uid"], fn := fun _ => fun
  | [d1, d2, d3, g1, g2, g3, g4, g5, g6, g7] => { results := [.lit (.bool false)], args := [d1, d2, d3], vars := [g1, g2, g3, g4, g5, g6, g7] }
  | _ => none }
def FnDigestWrongFalsely : Prop := fnDigestRow.holds Tryz.pinned (OpenSpec.ofChange fnDigestWrong)

/- THE SECOND FORM. 'bulk': how many values and letters a reading holds, each counted each time it is reached (what is shared counts as often as it is met; a slice's spare places count too). A statement '..UptoSaid' is the law's where the arguments, and the package variables that the reading takes, are together of bulk at most 1048576: NARROWER than '..Said'. Prove '..Said' where nothing that the law and all that it calls make is longer than what came in: it says more and counts as full. Else prove '..UptoSaid'. A law counts once. -/
mutual
def uptoBulk {H : Type} : DataW H → Nat
  | .lit (.string bytes) => bytes.length + 1
  | .lit _ => 1
  | .nil => 1
  | .ptr d => uptoBulk d + 1
  | .slice elems spare => uptoBulkAll elems + uptoBulkAll spare + 1
  | .agg parts => uptoBulkAll parts + 1
  | .iface _ d => uptoBulk d + 1
  | .map entries => uptoBulkEntries entries + 1
  | .held _ => 1
def uptoBulkAll {H : Type} : List (DataW H) → Nat
  | [] => 0
  | d :: r => uptoBulk d + uptoBulkAll r
def uptoBulkEntries {H : Type} : List (Lit × DataW H) → Nat
  | [] => 0
  | x :: r => uptoBulkEntry x + uptoBulkEntries r
def uptoBulkEntry {H : Type} : Lit × DataW H → Nat
  | (.string bytes, d) => bytes.length + uptoBulk d + 1
  | (_, d) => uptoBulk d + 1
 end
def uptoSmall : (H : Type) → List (DataW H) → Bool := fun _ ds => decide (uptoBulkAll ds ≤ 1048576)
def OpenSpec.upto (s : _root_.Go.ChangeSpec) : _root_.Go.OpenSpec := { _root_.Go.OpenSpec.ofChange s with cond := some uptoSmall }

/-- 'laws.FnDigest', WHERE WHAT IT READS IS OF BULK AT MOST 1048576: true; the input reads as it did. -/
def fnDigestUptoRow : OpenClaim := { program := "ytiegapnfbeemcaagreatdoor", sum := "b9cd691ad9b3c21373f9cc07619a2057a8a1140633c2464b69a291b75c55c404", func := "given.example/pub-waxwright/laws.FnDigest", spec := "fnDigest", inPlace := ["math/bits.Add64", "math/bits.Sub64"], unfollowed := true, recurses := true, named := ["io.EOF", "given.example/pub-waxwright/pub/bigall.errInvalSep", "given.example/pub-waxwright/pub/bigall.errNoDigits", "given.example/pub-waxwright/pub/bigall.divRecursiveThreshold", "given.example/pub-waxwright/pub/bigall.karatsubaThreshold", "given.example/pub-waxwright/pub/bigall.basicSqrThreshold", "given.example/pub-waxwright/pub/bigall.karatsubaSqrThreshold", "encoding/binary.BigEndian", "given.example/pub-waxwright/pub/gmsmt/sm2.default_uid"], ifaces := true, apart := false, laid := [("io.EOF", laid_io_EOF), ("given.example/pub-waxwright/pub/bigall.errNoDigits", laid_given_example_pub_waxwright_pub_bigall_errNoDigits), ("given.example/pub-waxwright/pub/bigall.errInvalSep", laid_given_example_pub_waxwright_pub_bigall_errInvalSep), ("given.example/pub-waxwright/pub/bigall.divRecursiveThreshold", laid_given_example_pub_waxwright_pub_bigall_divRecursiveThreshold), ("given.example/pub-waxwright/pub/bigall.karatsubaThreshold", laid_given_example_pub_waxwright_pub_bigall_karatsubaThreshold), ("given.example/pub-waxwright/pub/bigall.basicSqrThreshold", laid_given_example_pub_waxwright_pub_bigall_basicSqrThreshold), ("given.example/pub-waxwright/pub/bigall.karatsubaSqrThreshold", laid_given_example_pub_waxwright_pub_bigall_karatsubaSqrThreshold), ("given.example/pub-waxwright/pub/gmsmt/sm2.default_uid", laid_given_example_pub_waxwright_pub_gmsmt_sm2_default_uid)], narrowed := true }
def FnDigestUptoSaid : Prop := fnDigestUptoRow.holds Tryz.pinned (OpenSpec.upto fnDigestSpec)

end Rows
end Go.Proofs.YtiegapnfbeemcaaGreatDoor
