/-
  DERIVED. GIVEN WITH THE SEED: THE CARDS: each row of YtkfagcpboehjjaaDoorRows.lean that lists a variable, with what it lists TIED to the program's text (the seventh form; the later family's looks); each row that meets fmt, with fmt's text TOLD by the authors' own Lean function (tested against real Go, not proved from fmt's source: count such statements apart). THE CARD IS WHAT COUNTS. Prove the row's statement (the work); the ties are given (YtkfagcpboehjjaaDoorTie.lean); close each card by the builder's one call (the guide's Derived/Test/ToyasCard.lean, 'card_holds'). Laid BY PROGRAM, IN A SANDBOX (cutbox-door.mjs). By AI agents, Wed Nov 11 2026. No macro, syntax, notation, axiom, sorry.
-/
import Derived.Test.YtkfagcpboehjjaaDoorRows
import GoSem.ClaimSeven
namespace Go.Proofs.YtkfagcpboehjjaaDoor
namespace Rows

/-- THE TIED CARD OF 'laws.FnBlock'. -/
def fnBlockCard : Claim7 := { stood := { row := fnBlockRow, standIns := [], harness := (true, "3ff78c28e30523c50e39783995caab53031e7aeccd006604f2b72b4560e2cd9a"), looks := false }, kinds := [], alts := [], laidByText := true, laidKinds := [.data, .data, .data, .data, .data, .data, .data, .data, .data, .data], laidTests := true, laidLooks := .later }
def FnBlockCardSaid : Prop := Claim7.holds Tryd.pinned (.plain (OpenSpec.ofChange fnBlockSpec)) fnBlockCard

/-- THE TIED CARD OF 'laws.FnMode'. -/
def fnModeCard : Claim7 := { stood := { row := fnModeRow, standIns := [], harness := (true, "3ff78c28e30523c50e39783995caab53031e7aeccd006604f2b72b4560e2cd9a"), looks := false }, kinds := [], alts := [], laidByText := true, laidKinds := [.data, .data, .data, .data, .data, .data, .data, .data, .data, .data], laidTests := true, laidLooks := .later }
def FnModeCardSaid : Prop := Claim7.holds Tryd.pinned (.plain (OpenSpec.ofChange fnModeSpec)) fnModeCard

/-- THE TIED CARD OF 'laws.FnModeBack'. -/
def fnModeBackCard : Claim7 := { stood := { row := fnModeBackRow, standIns := [], harness := (true, "3ff78c28e30523c50e39783995caab53031e7aeccd006604f2b72b4560e2cd9a"), looks := false }, kinds := [], alts := [], laidByText := true, laidKinds := [.data, .data, .data, .data, .data, .data, .data, .data, .data, .data], laidTests := true, laidLooks := .later }
def FnModeBackCardSaid : Prop := Claim7.holds Tryd.pinned (.plain (OpenSpec.ofChange fnModeBackSpec)) fnModeBackCard

/-- THE TIED CARD OF 'laws.FnModeKeys'. -/
def fnModeKeysCard : Claim7 := { stood := { row := fnModeKeysRow, standIns := [], harness := (true, "3ff78c28e30523c50e39783995caab53031e7aeccd006604f2b72b4560e2cd9a"), looks := false }, kinds := [], alts := [], laidByText := true, laidKinds := [.data, .data, .data, .data, .data, .data, .data, .data, .data, .data], laidTests := true, laidLooks := .later }
def FnModeKeysCardSaid : Prop := Claim7.holds Tryd.pinned (.plain (OpenSpec.ofChange fnModeKeysSpec)) fnModeKeysCard

/-- THE TIED CARD OF 'laws.FnSealed'. -/
def fnSealedCard : Claim7 := { stood := { row := fnSealedRow, standIns := [], harness := (true, "3ff78c28e30523c50e39783995caab53031e7aeccd006604f2b72b4560e2cd9a"), looks := false }, kinds := [], alts := [], laidByText := true, laidKinds := [.data, .data, .data, .data, .data, .data, .data, .data, .data, .data], laidTests := true, laidLooks := .later }
def FnSealedCardSaid : Prop := Claim7.holds Tryd.pinned (.plain (OpenSpec.ofChange fnSealedSpec)) fnSealedCard

/-- THE SECOND FORM's CARD OF 'laws.FnBlock'. -/
def fnBlockUptoCard : Claim7 := { stood := { row := fnBlockUptoRow, standIns := [], harness := (true, "3ff78c28e30523c50e39783995caab53031e7aeccd006604f2b72b4560e2cd9a"), looks := false }, kinds := [], alts := [], laidByText := true, laidKinds := [.data, .data, .data, .data, .data, .data, .data, .data, .data, .data], laidTests := true, laidLooks := .later }
def FnBlockUptoCardSaid : Prop := Claim7.holds Tryd.pinned (.plain (OpenSpec.upto fnBlockSpec)) fnBlockUptoCard

/-- THE SECOND FORM's CARD OF 'laws.FnMode'. -/
def fnModeUptoCard : Claim7 := { stood := { row := fnModeUptoRow, standIns := [], harness := (true, "3ff78c28e30523c50e39783995caab53031e7aeccd006604f2b72b4560e2cd9a"), looks := false }, kinds := [], alts := [], laidByText := true, laidKinds := [.data, .data, .data, .data, .data, .data, .data, .data, .data, .data], laidTests := true, laidLooks := .later }
def FnModeUptoCardSaid : Prop := Claim7.holds Tryd.pinned (.plain (OpenSpec.upto fnModeSpec)) fnModeUptoCard

/-- THE SECOND FORM's CARD OF 'laws.FnModeBack'. -/
def fnModeBackUptoCard : Claim7 := { stood := { row := fnModeBackUptoRow, standIns := [], harness := (true, "3ff78c28e30523c50e39783995caab53031e7aeccd006604f2b72b4560e2cd9a"), looks := false }, kinds := [], alts := [], laidByText := true, laidKinds := [.data, .data, .data, .data, .data, .data, .data, .data, .data, .data], laidTests := true, laidLooks := .later }
def FnModeBackUptoCardSaid : Prop := Claim7.holds Tryd.pinned (.plain (OpenSpec.upto fnModeBackSpec)) fnModeBackUptoCard

/-- THE SECOND FORM's CARD OF 'laws.FnModeKeys'. -/
def fnModeKeysUptoCard : Claim7 := { stood := { row := fnModeKeysUptoRow, standIns := [], harness := (true, "3ff78c28e30523c50e39783995caab53031e7aeccd006604f2b72b4560e2cd9a"), looks := false }, kinds := [], alts := [], laidByText := true, laidKinds := [.data, .data, .data, .data, .data, .data, .data, .data, .data, .data], laidTests := true, laidLooks := .later }
def FnModeKeysUptoCardSaid : Prop := Claim7.holds Tryd.pinned (.plain (OpenSpec.upto fnModeKeysSpec)) fnModeKeysUptoCard

/-- THE SECOND FORM's CARD OF 'laws.FnSealed'. -/
def fnSealedUptoCard : Claim7 := { stood := { row := fnSealedUptoRow, standIns := [], harness := (true, "3ff78c28e30523c50e39783995caab53031e7aeccd006604f2b72b4560e2cd9a"), looks := false }, kinds := [], alts := [], laidByText := true, laidKinds := [.data, .data, .data, .data, .data, .data, .data, .data, .data, .data], laidTests := true, laidLooks := .later }
def FnSealedUptoCardSaid : Prop := Claim7.holds Tryd.pinned (.plain (OpenSpec.upto fnSealedSpec)) fnSealedUptoCard
end Rows
end Go.Proofs.YtkfagcpboehjjaaDoor
