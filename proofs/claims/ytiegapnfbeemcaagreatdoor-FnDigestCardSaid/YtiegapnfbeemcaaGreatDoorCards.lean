/-
  DERIVED. GIVEN WITH THE SEED: THE CARDS: each row of YtiegapnfbeemcaaGreatDoorRows.lean that lists a variable, with what it lists TIED to the program's text (the seventh form; the later family's looks); each row that meets fmt, with fmt's text TOLD by the authors' own Lean function (tested against real Go, not proved from fmt's source: count such statements apart). THE CARD IS WHAT COUNTS. Prove the row's statement (the work); the ties are given (YtiegapnfbeemcaaGreatDoorTie.lean); close each card by the builder's one call (the guide's Derived/Test/ToyasCard.lean, 'card_holds'). Laid BY PROGRAM, IN A SANDBOX (cutbox-door.mjs). By AI agents, Wed Nov 11 2026. No macro, syntax, notation, axiom, sorry.
-/
import Derived.Test.YtiegapnfbeemcaaGreatDoorRows
import GoSem.ClaimSeven
namespace Go.Proofs.YtiegapnfbeemcaaGreatDoor
namespace Rows

/-- THE TIED CARD OF 'laws.FnDigest'. -/
def fnDigestCard : Claim7 := { stood := { row := fnDigestRow, standIns := [], harness := (true, "3a43e4d9dc2d55c95c4ecbe5d8ab59a294cfb8309f53fa7ab0ec6168b0646fb3"), looks := true }, kinds := [], alts := [], laidByText := true, laidKinds := [.sentinel, .sentinel, .sentinel, .data, .data, .data, .data, .widerDeep], laidTests := true, laidLooks := .later }
def FnDigestCardSaid : Prop := Claim7.holds Tryz.pinned (.plain (OpenSpec.ofChange fnDigestSpec)) fnDigestCard

/-- THE SECOND FORM's CARD OF 'laws.FnDigest'. -/
def fnDigestUptoCard : Claim7 := { stood := { row := fnDigestUptoRow, standIns := [], harness := (true, "3a43e4d9dc2d55c95c4ecbe5d8ab59a294cfb8309f53fa7ab0ec6168b0646fb3"), looks := true }, kinds := [], alts := [], laidByText := true, laidKinds := [.sentinel, .sentinel, .sentinel, .data, .data, .data, .data, .widerDeep], laidTests := true, laidLooks := .later }
def FnDigestUptoCardSaid : Prop := Claim7.holds Tryz.pinned (.plain (OpenSpec.upto fnDigestSpec)) fnDigestUptoCard
end Rows
end Go.Proofs.YtiegapnfbeemcaaGreatDoor
