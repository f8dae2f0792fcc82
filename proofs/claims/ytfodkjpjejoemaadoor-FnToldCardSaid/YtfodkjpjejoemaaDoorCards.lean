/-
  DERIVED. GIVEN WITH THE SEED: THE CARDS: each row of YtfodkjpjejoemaaDoorRows.lean that lists a variable, with what it lists TIED to the program's text (the seventh form; the later family's looks); each row that meets fmt, with fmt's text TOLD by the authors' own Lean function (tested against real Go, not proved from fmt's source: count such statements apart). THE CARD IS WHAT COUNTS. Prove the row's statement (the work); the ties are given (YtfodkjpjejoemaaDoorTie.lean); close each card by the builder's one call (the guide's Derived/Test/ToyasCard.lean, 'card_holds'). Laid BY PROGRAM, IN A SANDBOX (cutbox-door.mjs). By AI agents, Wed Nov 11 2026. No macro, syntax, notation, axiom, sorry.
-/
import Derived.Test.YtfodkjpjejoemaaDoorRows
import GoSem.ClaimSeven
namespace Go.Proofs.YtfodkjpjejoemaaDoor
namespace Rows

/-- THE TIED CARD OF 'laws.FnValid'. -/
def fnValidCard : Claim7 := { stood := { row := fnValidRow, standIns := [], harness := (true, "b200a638446c66dab13eb9e3e66a693786b230d0e26aefa25e615d15f0317e70"), looks := false }, kinds := [], alts := [], laidByText := true, laidKinds := [.sentinel], laidTests := true, laidLooks := .later }
def FnValidCardSaid : Prop := Claim7.holds Tryd.pinned (.plain (OpenSpec.ofChange fnValidSpec)) fnValidCard

/-- THE TIED CARD OF 'laws.FnSum'. -/
def fnSumCard : Claim7 := { stood := { row := fnSumRow, standIns := [], harness := (true, "b200a638446c66dab13eb9e3e66a693786b230d0e26aefa25e615d15f0317e70"), looks := false }, kinds := [], alts := [], laidByText := true, laidKinds := [.data], laidTests := true, laidLooks := .later }
def FnSumCardSaid : Prop := Claim7.holds Tryd.pinned (.plain (OpenSpec.ofChange fnSumSpec)) fnSumCard

/-- THE TIED CARD OF 'laws.FnMessage'. -/
def fnMessageCard : Claim7 := { stood := { row := fnMessageRow, standIns := [], harness := (true, "b200a638446c66dab13eb9e3e66a693786b230d0e26aefa25e615d15f0317e70"), looks := false }, kinds := [], alts := [], laidByText := true, laidKinds := [.sentinel, .sentinel], laidTests := true, laidLooks := .later }
def FnMessageCardSaid : Prop := Claim7.holds Tryd.pinned (.plain (OpenSpec.ofChange fnMessageSpec)) fnMessageCard

/-- THE TIED CARD OF 'laws.FnKeys'. -/
def fnKeysCard : Claim7 := { stood := { row := fnKeysRow, standIns := [], harness := (true, "b200a638446c66dab13eb9e3e66a693786b230d0e26aefa25e615d15f0317e70"), looks := false }, kinds := [], alts := [], laidByText := true, laidKinds := [.sentinel, .data], laidTests := true, laidLooks := .later }
def FnKeysCardSaid : Prop := Claim7.holds Tryd.pinned (.plain (OpenSpec.ofChange fnKeysSpec)) fnKeysCard

/-- THE TIED CARD OF 'laws.FnRoot'. -/
def fnRootCard : Claim7 := { stood := { row := fnRootRow, standIns := [], harness := (true, "b200a638446c66dab13eb9e3e66a693786b230d0e26aefa25e615d15f0317e70"), looks := false }, kinds := [], alts := [], laidByText := true, laidKinds := [.data], laidTests := true, laidLooks := .later }
def FnRootCardSaid : Prop := Claim7.holds Tryd.pinned (.plain (OpenSpec.ofChange fnRootSpec)) fnRootCard

/-- THE TIED CARD OF 'laws.FnPath'. -/
def fnPathCard : Claim7 := { stood := { row := fnPathRow, standIns := [], harness := (true, "b200a638446c66dab13eb9e3e66a693786b230d0e26aefa25e615d15f0317e70"), looks := false }, kinds := [], alts := [], laidByText := true, laidKinds := [.sentinel, .data], laidTests := true, laidLooks := .later }
def FnPathCardSaid : Prop := Claim7.holds Tryd.pinned (.plain (OpenSpec.ofChange fnPathSpec)) fnPathCard

/-- THE TIED CARD OF 'laws.FnForged'. -/
def fnForgedCard : Claim7 := { stood := { row := fnForgedRow, standIns := [], harness := (true, "b200a638446c66dab13eb9e3e66a693786b230d0e26aefa25e615d15f0317e70"), looks := false }, kinds := [], alts := [], laidByText := true, laidKinds := [.data], laidTests := true, laidLooks := .later }
def FnForgedCardSaid : Prop := Claim7.holds Tryd.pinned (.plain (OpenSpec.ofChange fnForgedSpec)) fnForgedCard

/-- THE TIED CARD OF 'laws.FnProofs'. -/
def fnProofsCard : Claim7 := { stood := { row := fnProofsRow, standIns := [], harness := (true, "b200a638446c66dab13eb9e3e66a693786b230d0e26aefa25e615d15f0317e70"), looks := false }, kinds := [], alts := [], laidByText := true, laidKinds := [.data, .sentinel], laidTests := true, laidLooks := .later }
def FnProofsCardSaid : Prop := Claim7.holds Tryd.pinned (.plain (OpenSpec.ofChange fnProofsSpec)) fnProofsCard

/-- THE TIED CARD OF 'laws.FnTold'. -/
def fnToldCard : Claim7 := { stood := { row := fnToldRow, standIns := [], harness := (true, "b200a638446c66dab13eb9e3e66a693786b230d0e26aefa25e615d15f0317e70"), looks := false }, kinds := [], alts := [], laidByText := true, laidKinds := [.data, .data, .data], laidTests := true, laidLooks := .later }
def FnToldCardSaid : Prop := Claim7.holds Tryd.pinned (.plain (OpenSpec.ofChange fnToldSpec)) fnToldCard

/-- THE SECOND FORM's CARD OF 'laws.FnValid'. -/
def fnValidUptoCard : Claim7 := { stood := { row := fnValidUptoRow, standIns := [], harness := (true, "b200a638446c66dab13eb9e3e66a693786b230d0e26aefa25e615d15f0317e70"), looks := false }, kinds := [], alts := [], laidByText := true, laidKinds := [.sentinel], laidTests := true, laidLooks := .later }
def FnValidUptoCardSaid : Prop := Claim7.holds Tryd.pinned (.plain (OpenSpec.upto fnValidSpec)) fnValidUptoCard

/-- THE SECOND FORM's CARD OF 'laws.FnSum'. -/
def fnSumUptoCard : Claim7 := { stood := { row := fnSumUptoRow, standIns := [], harness := (true, "b200a638446c66dab13eb9e3e66a693786b230d0e26aefa25e615d15f0317e70"), looks := false }, kinds := [], alts := [], laidByText := true, laidKinds := [.data], laidTests := true, laidLooks := .later }
def FnSumUptoCardSaid : Prop := Claim7.holds Tryd.pinned (.plain (OpenSpec.upto fnSumSpec)) fnSumUptoCard

/-- THE SECOND FORM's CARD OF 'laws.FnMessage'. -/
def fnMessageUptoCard : Claim7 := { stood := { row := fnMessageUptoRow, standIns := [], harness := (true, "b200a638446c66dab13eb9e3e66a693786b230d0e26aefa25e615d15f0317e70"), looks := false }, kinds := [], alts := [], laidByText := true, laidKinds := [.sentinel, .sentinel], laidTests := true, laidLooks := .later }
def FnMessageUptoCardSaid : Prop := Claim7.holds Tryd.pinned (.plain (OpenSpec.upto fnMessageSpec)) fnMessageUptoCard

/-- THE SECOND FORM's CARD OF 'laws.FnKeys'. -/
def fnKeysUptoCard : Claim7 := { stood := { row := fnKeysUptoRow, standIns := [], harness := (true, "b200a638446c66dab13eb9e3e66a693786b230d0e26aefa25e615d15f0317e70"), looks := false }, kinds := [], alts := [], laidByText := true, laidKinds := [.sentinel, .data], laidTests := true, laidLooks := .later }
def FnKeysUptoCardSaid : Prop := Claim7.holds Tryd.pinned (.plain (OpenSpec.upto fnKeysSpec)) fnKeysUptoCard

/-- THE SECOND FORM's CARD OF 'laws.FnRoot'. -/
def fnRootUptoCard : Claim7 := { stood := { row := fnRootUptoRow, standIns := [], harness := (true, "b200a638446c66dab13eb9e3e66a693786b230d0e26aefa25e615d15f0317e70"), looks := false }, kinds := [], alts := [], laidByText := true, laidKinds := [.data], laidTests := true, laidLooks := .later }
def FnRootUptoCardSaid : Prop := Claim7.holds Tryd.pinned (.plain (OpenSpec.upto fnRootSpec)) fnRootUptoCard

/-- THE SECOND FORM's CARD OF 'laws.FnPath'. -/
def fnPathUptoCard : Claim7 := { stood := { row := fnPathUptoRow, standIns := [], harness := (true, "b200a638446c66dab13eb9e3e66a693786b230d0e26aefa25e615d15f0317e70"), looks := false }, kinds := [], alts := [], laidByText := true, laidKinds := [.sentinel, .data], laidTests := true, laidLooks := .later }
def FnPathUptoCardSaid : Prop := Claim7.holds Tryd.pinned (.plain (OpenSpec.upto fnPathSpec)) fnPathUptoCard

/-- THE SECOND FORM's CARD OF 'laws.FnForged'. -/
def fnForgedUptoCard : Claim7 := { stood := { row := fnForgedUptoRow, standIns := [], harness := (true, "b200a638446c66dab13eb9e3e66a693786b230d0e26aefa25e615d15f0317e70"), looks := false }, kinds := [], alts := [], laidByText := true, laidKinds := [.data], laidTests := true, laidLooks := .later }
def FnForgedUptoCardSaid : Prop := Claim7.holds Tryd.pinned (.plain (OpenSpec.upto fnForgedSpec)) fnForgedUptoCard

/-- THE SECOND FORM's CARD OF 'laws.FnProofs'. -/
def fnProofsUptoCard : Claim7 := { stood := { row := fnProofsUptoRow, standIns := [], harness := (true, "b200a638446c66dab13eb9e3e66a693786b230d0e26aefa25e615d15f0317e70"), looks := false }, kinds := [], alts := [], laidByText := true, laidKinds := [.data, .sentinel], laidTests := true, laidLooks := .later }
def FnProofsUptoCardSaid : Prop := Claim7.holds Tryd.pinned (.plain (OpenSpec.upto fnProofsSpec)) fnProofsUptoCard

/-- THE SECOND FORM's CARD OF 'laws.FnTold'. -/
def fnToldUptoCard : Claim7 := { stood := { row := fnToldUptoRow, standIns := [], harness := (true, "b200a638446c66dab13eb9e3e66a693786b230d0e26aefa25e615d15f0317e70"), looks := false }, kinds := [], alts := [], laidByText := true, laidKinds := [.data, .data, .data], laidTests := true, laidLooks := .later }
def FnToldUptoCardSaid : Prop := Claim7.holds Tryd.pinned (.plain (OpenSpec.upto fnToldSpec)) fnToldUptoCard
end Rows
end Go.Proofs.YtfodkjpjejoemaaDoor
