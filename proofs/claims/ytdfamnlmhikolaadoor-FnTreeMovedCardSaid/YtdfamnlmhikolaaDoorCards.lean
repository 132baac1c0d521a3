/-
  DERIVED. GIVEN WITH THE SEED: THE CARDS: each row of YtdfamnlmhikolaaDoorRows.lean that lists a variable, with what it lists TIED to the program's text (the seventh form; the later family's looks); each row that meets fmt, with fmt's text TOLD by the authors' own Lean function (tested against real Go, not proved from fmt's source: count such statements apart). THE CARD IS WHAT COUNTS. Prove the row's statement (the work); the ties are given (YtdfamnlmhikolaaDoorTie.lean); close each card by the builder's one call (the guide's Derived/Test/ToyasCard.lean, 'card_holds'). Laid BY PROGRAM, IN A SANDBOX (cutbox-door.mjs). By AI agents, Wed Nov 11 2026. No macro, syntax, notation, axiom, sorry.
-/
import Derived.Test.YtdfamnlmhikolaaDoorRows
import GoSem.ClaimSeven
namespace Go.Proofs.YtdfamnlmhikolaaDoor
namespace Rows

/-- THE TIED CARD OF 'laws.FnTreeMoved'. -/
def fnTreeMovedCard : Claim7 := { stood := { row := fnTreeMovedRow, standIns := [], harness := (true, "fe9054159d7202389f997208d673cf664261c7ecc8d0199567f3e7e0516c9456"), looks := true }, kinds := [], alts := [], laidByText := true, laidKinds := [.sentinel], laidTests := true, laidLooks := .later }
def FnTreeMovedCardSaid : Prop := Claim7.holds Tryd.pinned (.plain (OpenSpec.ofChange fnTreeMovedSpec)) fnTreeMovedCard

/-- THE TIED CARD OF 'laws.FnTreeStops'. -/
def fnTreeStopsCard : Claim7 := { stood := { row := fnTreeStopsRow, standIns := [], harness := (true, "fe9054159d7202389f997208d673cf664261c7ecc8d0199567f3e7e0516c9456"), looks := true }, kinds := [], alts := [], laidByText := true, laidKinds := [.sentinel], laidTests := true, laidLooks := .later }
def FnTreeStopsCardSaid : Prop := Claim7.holds Tryd.pinned (.plain (OpenSpec.ofChange fnTreeStopsSpec)) fnTreeStopsCard

/-- THE SECOND FORM's CARD OF 'laws.FnTreeMoved'. -/
def fnTreeMovedUptoCard : Claim7 := { stood := { row := fnTreeMovedUptoRow, standIns := [], harness := (true, "fe9054159d7202389f997208d673cf664261c7ecc8d0199567f3e7e0516c9456"), looks := true }, kinds := [], alts := [], laidByText := true, laidKinds := [.sentinel], laidTests := true, laidLooks := .later }
def FnTreeMovedUptoCardSaid : Prop := Claim7.holds Tryd.pinned (.plain (OpenSpec.upto fnTreeMovedSpec)) fnTreeMovedUptoCard

/-- THE SECOND FORM's CARD OF 'laws.FnTreeStops'. -/
def fnTreeStopsUptoCard : Claim7 := { stood := { row := fnTreeStopsUptoRow, standIns := [], harness := (true, "fe9054159d7202389f997208d673cf664261c7ecc8d0199567f3e7e0516c9456"), looks := true }, kinds := [], alts := [], laidByText := true, laidKinds := [.sentinel], laidTests := true, laidLooks := .later }
def FnTreeStopsUptoCardSaid : Prop := Claim7.holds Tryd.pinned (.plain (OpenSpec.upto fnTreeStopsSpec)) fnTreeStopsUptoCard
end Rows
end Go.Proofs.YtdfamnlmhikolaaDoor
