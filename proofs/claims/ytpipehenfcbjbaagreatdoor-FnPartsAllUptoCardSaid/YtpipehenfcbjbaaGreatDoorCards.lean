/-
  DERIVED. GIVEN WITH THE SEED: THE CARDS: each row of YtpipehenfcbjbaaGreatDoorRows.lean that lists a variable, with what it lists TIED to the program's text (the seventh form; the later family's looks); each row that meets fmt, with fmt's text TOLD by the authors' own Lean function (tested against real Go, not proved from fmt's source: count such statements apart). THE CARD IS WHAT COUNTS. Prove the row's statement (the work); the ties are given (YtpipehenfcbjbaaGreatDoorTie.lean); close each card by the builder's one call (the guide's Derived/Test/ToyasCard.lean, 'card_holds'). Laid BY PROGRAM, IN A SANDBOX (cutbox-door.mjs). By AI agents, Wed Nov 11 2026. No macro, syntax, notation, axiom, sorry.
-/
import Derived.Test.YtpipehenfcbjbaaGreatDoorRows
import GoSem.ClaimSeven
namespace Go.Proofs.YtpipehenfcbjbaaGreatDoor
namespace Rows

/-- THE TIED CARD OF 'laws.FnLook'. -/
def fnLookCard : Claim7 := { stood := { row := fnLookRow, standIns := [], harness := (true, "f3b24b8b178eabb4b6c90d949a27c0206a2b78cd94b342d91dc232a299c7465c"), looks := true }, kinds := [], alts := [], laidByText := true, laidKinds := [.data, .data, .data], laidTests := true, laidLooks := .later }
def FnLookCardSaid : Prop := Claim7.holds Tryz.pinned (.plain (OpenSpec.ofChange fnLookSpec)) fnLookCard

/-- THE TIED CARD OF 'laws.FnLookTurned'. -/
def fnLookTurnedCard : Claim7 := { stood := { row := fnLookTurnedRow, standIns := [], harness := (true, "f3b24b8b178eabb4b6c90d949a27c0206a2b78cd94b342d91dc232a299c7465c"), looks := true }, kinds := [], alts := [], laidByText := true, laidKinds := [.data, .data, .data], laidTests := true, laidLooks := .later }
def FnLookTurnedCardSaid : Prop := Claim7.holds Tryz.pinned (.plain (OpenSpec.ofChange fnLookTurnedSpec)) fnLookTurnedCard

/-- THE TIED CARD OF 'laws.FnPartsAll'. -/
def fnPartsAllCard : Claim7 := { stood := { row := fnPartsAllRow, standIns := [], harness := (true, "f3b24b8b178eabb4b6c90d949a27c0206a2b78cd94b342d91dc232a299c7465c"), looks := true }, kinds := [], alts := [], laidByText := true, laidKinds := [.data, .data, .data], laidTests := true, laidLooks := .later }
def FnPartsAllCardSaid : Prop := Claim7.holds Tryz.pinned (.plain (OpenSpec.ofChange fnPartsAllSpec)) fnPartsAllCard

/-- THE SECOND FORM's CARD OF 'laws.FnLook'. -/
def fnLookUptoCard : Claim7 := { stood := { row := fnLookUptoRow, standIns := [], harness := (true, "f3b24b8b178eabb4b6c90d949a27c0206a2b78cd94b342d91dc232a299c7465c"), looks := true }, kinds := [], alts := [], laidByText := true, laidKinds := [.data, .data, .data], laidTests := true, laidLooks := .later }
def FnLookUptoCardSaid : Prop := Claim7.holds Tryz.pinned (.plain (OpenSpec.upto fnLookSpec)) fnLookUptoCard

/-- THE SECOND FORM's CARD OF 'laws.FnLookTurned'. -/
def fnLookTurnedUptoCard : Claim7 := { stood := { row := fnLookTurnedUptoRow, standIns := [], harness := (true, "f3b24b8b178eabb4b6c90d949a27c0206a2b78cd94b342d91dc232a299c7465c"), looks := true }, kinds := [], alts := [], laidByText := true, laidKinds := [.data, .data, .data], laidTests := true, laidLooks := .later }
def FnLookTurnedUptoCardSaid : Prop := Claim7.holds Tryz.pinned (.plain (OpenSpec.upto fnLookTurnedSpec)) fnLookTurnedUptoCard

/-- THE SECOND FORM's CARD OF 'laws.FnPartsAll'. -/
def fnPartsAllUptoCard : Claim7 := { stood := { row := fnPartsAllUptoRow, standIns := [], harness := (true, "f3b24b8b178eabb4b6c90d949a27c0206a2b78cd94b342d91dc232a299c7465c"), looks := true }, kinds := [], alts := [], laidByText := true, laidKinds := [.data, .data, .data], laidTests := true, laidLooks := .later }
def FnPartsAllUptoCardSaid : Prop := Claim7.holds Tryz.pinned (.plain (OpenSpec.upto fnPartsAllSpec)) fnPartsAllUptoCard
end Rows
end Go.Proofs.YtpipehenfcbjbaaGreatDoor
