/-
  DERIVED. GIVEN WITH THE SEED: THE CARDS: each row of YteioblloppcjoaaDoorRows.lean that lists a variable, with what it lists TIED to the program's text (the seventh form; the later family's looks); each row that meets fmt, with fmt's text TOLD by the authors' own Lean function (tested against real Go, not proved from fmt's source: count such statements apart). THE CARD IS WHAT COUNTS. Prove the row's statement (the work); the ties are given (YteioblloppcjoaaDoorTie.lean); close each card by the builder's one call (the guide's Derived/Test/ToyasCard.lean, 'card_holds'). Laid BY PROGRAM, IN A SANDBOX (cutbox-door.mjs). By AI agents, Wed Nov 11 2026. No macro, syntax, notation, axiom, sorry.
-/
import Derived.Test.YteioblloppcjoaaDoorRows
import GoSem.ClaimSeven
namespace Go.Proofs.YteioblloppcjoaaDoor
namespace Rows

/-- THE TIED CARD OF 'laws.FnModeKeys'. -/
def fnModeKeysCard : Claim7 := { stood := { row := fnModeKeysRow, standIns := [], harness := (true, "f17f3b73eb263c90e10614ddfbc9f53e6294c9eabc3f2ecdc6fd79a72f9937d8"), looks := false }, kinds := [], alts := [], laidByText := true, laidKinds := [.data, .data], laidTests := true, laidLooks := .later }
def FnModeKeysCardSaid : Prop := Claim7.holds Tryd.pinned (.plain (OpenSpec.ofChange fnModeKeysSpec)) fnModeKeysCard

/-- THE SECOND FORM's CARD OF 'laws.FnModeKeys'. -/
def fnModeKeysUptoCard : Claim7 := { stood := { row := fnModeKeysUptoRow, standIns := [], harness := (true, "f17f3b73eb263c90e10614ddfbc9f53e6294c9eabc3f2ecdc6fd79a72f9937d8"), looks := false }, kinds := [], alts := [], laidByText := true, laidKinds := [.data, .data], laidTests := true, laidLooks := .later }
def FnModeKeysUptoCardSaid : Prop := Claim7.holds Tryd.pinned (.plain (OpenSpec.upto fnModeKeysSpec)) fnModeKeysUptoCard
end Rows
end Go.Proofs.YteioblloppcjoaaDoor
