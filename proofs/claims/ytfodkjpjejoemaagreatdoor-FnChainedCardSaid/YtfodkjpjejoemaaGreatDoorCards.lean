/-
  DERIVED. GIVEN WITH THE SEED: THE CARDS: each row of YtfodkjpjejoemaaGreatDoorRows.lean that lists a variable, with what it lists TIED to the program's text (the seventh form; the later family's looks); each row that meets fmt, with fmt's text TOLD by the authors' own Lean function (tested against real Go, not proved from fmt's source: count such statements apart). THE CARD IS WHAT COUNTS. Prove the row's statement (the work); the ties are given (YtfodkjpjejoemaaGreatDoorTie.lean); close each card by the builder's one call (the guide's Derived/Test/ToyasCard.lean, 'card_holds'). Laid BY PROGRAM, IN A SANDBOX (cutbox-door.mjs). By AI agents, Wed Nov 11 2026. No macro, syntax, notation, axiom, sorry.
-/
import Derived.Test.YtfodkjpjejoemaaGreatDoorRows
import GoSem.ClaimSeven
namespace Go.Proofs.YtfodkjpjejoemaaGreatDoor
namespace Rows

/-- THE TIED CARD OF 'laws.FnChained'. -/
def fnChainedCard : Claim7 := { stood := { row := fnChainedRow, standIns := [], harness := (true, "211834ae7b2ff9c79d9ce1e58248b94383962636b2d3041b512485ee9ba203da"), looks := false }, kinds := [], alts := [], laidByText := true, laidKinds := [.data, .sentinel, .data, .sentinel, .sentinel, .sentinel], laidTests := true, laidLooks := .later }
def FnChainedCardSaid : Prop := Claim7.holds Tryz.pinned (.plain (OpenSpec.ofChange fnChainedSpec)) fnChainedCard

/-- THE SECOND FORM's CARD OF 'laws.FnChained'. -/
def fnChainedUptoCard : Claim7 := { stood := { row := fnChainedUptoRow, standIns := [], harness := (true, "211834ae7b2ff9c79d9ce1e58248b94383962636b2d3041b512485ee9ba203da"), looks := false }, kinds := [], alts := [], laidByText := true, laidKinds := [.data, .sentinel, .data, .sentinel, .sentinel, .sentinel], laidTests := true, laidLooks := .later }
def FnChainedUptoCardSaid : Prop := Claim7.holds Tryz.pinned (.plain (OpenSpec.upto fnChainedSpec)) fnChainedUptoCard
end Rows
end Go.Proofs.YtfodkjpjejoemaaGreatDoor
