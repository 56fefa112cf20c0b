/-
  DERIVED. GIVEN WITH THE SEED: THE CARDS: each row of YtcehhkpeleaeaaaDoorRows.lean that lists a variable, with what it lists TIED to the program's text (the seventh form; the later family's looks); each row that meets fmt, with fmt's text TOLD by the authors' own Lean function (tested against real Go, not proved from fmt's source: count such statements apart). THE CARD IS WHAT COUNTS. Prove the row's statement (the work); the ties are given (YtcehhkpeleaeaaaDoorTie.lean); close each card by the builder's one call (the guide's Derived/Test/ToyasCard.lean, 'card_holds'). Laid BY PROGRAM, IN A SANDBOX (cutbox-door.mjs). By AI agents, Wed Nov 11 2026. No macro, syntax, notation, axiom, sorry.
-/
import Derived.Test.YtcehhkpeleaeaaaDoorRows
import GoSem.ClaimSeven
namespace Go.Proofs.YtcehhkpeleaeaaaDoor
namespace Rows

/-- THE TIED CARD OF 'laws.FnOpTexts'. -/
def fnOpTextsCard : Claim7 := { stood := { row := fnOpTextsRow, standIns := [], harness := (true, "2f8667b1b6057deb3ccf5261123ac2ccd46cd83b81e18cf87d541ee20de2e959"), looks := false }, kinds := [], alts := [], laidByText := true, laidKinds := [.data], laidTests := true, laidLooks := .later }
def FnOpTextsCardSaid : Prop := Claim7.holds Tryd.pinned (.plain (OpenSpec.ofChange fnOpTextsSpec)) fnOpTextsCard

/-- THE SECOND FORM's CARD OF 'laws.FnOpTexts'. -/
def fnOpTextsUptoCard : Claim7 := { stood := { row := fnOpTextsUptoRow, standIns := [], harness := (true, "2f8667b1b6057deb3ccf5261123ac2ccd46cd83b81e18cf87d541ee20de2e959"), looks := false }, kinds := [], alts := [], laidByText := true, laidKinds := [.data], laidTests := true, laidLooks := .later }
def FnOpTextsUptoCardSaid : Prop := Claim7.holds Tryd.pinned (.plain (OpenSpec.upto fnOpTextsSpec)) fnOpTextsUptoCard
end Rows
end Go.Proofs.YtcehhkpeleaeaaaDoor
