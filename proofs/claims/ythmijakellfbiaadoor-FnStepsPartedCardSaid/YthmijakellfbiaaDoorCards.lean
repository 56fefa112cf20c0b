/-
  DERIVED. GIVEN WITH THE SEED: THE CARDS: each row of YthmijakellfbiaaDoorRows.lean that lists a variable, with what it lists TIED to the program's text (the seventh form; the later family's looks); each row that meets fmt, with fmt's text TOLD by the authors' own Lean function (tested against real Go, not proved from fmt's source: count such statements apart). THE CARD IS WHAT COUNTS. Prove the row's statement (the work); the ties are given (YthmijakellfbiaaDoorTie.lean); close each card by the builder's one call (the guide's Derived/Test/ToyasCard.lean, 'card_holds'). Laid BY PROGRAM, IN A SANDBOX (cutbox-door.mjs). By AI agents, Wed Nov 11 2026. No macro, syntax, notation, axiom, sorry.
-/
import Derived.Test.YthmijakellfbiaaDoorRows
import GoSem.ClaimSeven
namespace Go.Proofs.YthmijakellfbiaaDoor
namespace Rows

/-- THE TIED CARD OF 'laws.FnFoundRight'. -/
def fnFoundRightCard : Claim7 := { stood := { row := fnFoundRightRow, standIns := [], harness := (true, "d6dce251ae4bdbe94483e512b38eb03f0f61d00366c4676bcd7bb593299d1be5"), looks := true }, kinds := [], alts := [], laidByText := true, laidKinds := [.data, .pinned], laidTests := true, laidLooks := .later }
def FnFoundRightCardSaid : Prop := Claim7.holds Tryd.pinned (.plain (OpenSpec.ofChange fnFoundRightSpec)) fnFoundRightCard

/-- THE TIED CARD OF 'laws.FnStepsParted'. -/
def fnStepsPartedCard : Claim7 := { stood := { row := fnStepsPartedRow, standIns := [], harness := (true, "d6dce251ae4bdbe94483e512b38eb03f0f61d00366c4676bcd7bb593299d1be5"), looks := true }, kinds := [], alts := [], laidByText := true, laidKinds := [.data, .pinned], laidTests := true, laidLooks := .later }
def FnStepsPartedCardSaid : Prop := Claim7.holds Tryd.pinned (.plain (OpenSpec.ofChange fnStepsPartedSpec)) fnStepsPartedCard

/-- THE SECOND FORM's CARD OF 'laws.FnFoundRight'. -/
def fnFoundRightUptoCard : Claim7 := { stood := { row := fnFoundRightUptoRow, standIns := [], harness := (true, "d6dce251ae4bdbe94483e512b38eb03f0f61d00366c4676bcd7bb593299d1be5"), looks := true }, kinds := [], alts := [], laidByText := true, laidKinds := [.data, .pinned], laidTests := true, laidLooks := .later }
def FnFoundRightUptoCardSaid : Prop := Claim7.holds Tryd.pinned (.plain (OpenSpec.upto fnFoundRightSpec)) fnFoundRightUptoCard

/-- THE SECOND FORM's CARD OF 'laws.FnStepsParted'. -/
def fnStepsPartedUptoCard : Claim7 := { stood := { row := fnStepsPartedUptoRow, standIns := [], harness := (true, "d6dce251ae4bdbe94483e512b38eb03f0f61d00366c4676bcd7bb593299d1be5"), looks := true }, kinds := [], alts := [], laidByText := true, laidKinds := [.data, .pinned], laidTests := true, laidLooks := .later }
def FnStepsPartedUptoCardSaid : Prop := Claim7.holds Tryd.pinned (.plain (OpenSpec.upto fnStepsPartedSpec)) fnStepsPartedUptoCard
end Rows
end Go.Proofs.YthmijakellfbiaaDoor
