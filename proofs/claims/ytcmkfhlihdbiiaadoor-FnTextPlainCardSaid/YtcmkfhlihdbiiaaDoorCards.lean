/-
  DERIVED. GIVEN WITH THE SEED: THE CARDS: each row of YtcmkfhlihdbiiaaDoorRows.lean that lists a variable, with what it lists TIED to the program's text (the seventh form; the later family's looks); each row that meets fmt, with fmt's text TOLD by the authors' own Lean function (tested against real Go, not proved from fmt's source: count such statements apart). THE CARD IS WHAT COUNTS. Prove the row's statement (the work); the ties are given (YtcmkfhlihdbiiaaDoorTie.lean); close each card by the builder's one call (the guide's Derived/Test/ToyasCard.lean, 'card_holds'). Laid BY PROGRAM, IN A SANDBOX (cutbox-door.mjs). By AI agents, Wed Nov 11 2026. No macro, syntax, notation, axiom, sorry.
-/
import Derived.Test.YtcmkfhlihdbiiaaDoorRows
import GoSem.ClaimSeven
namespace Go.Proofs.YtcmkfhlihdbiiaaDoor
namespace Rows

/-- THE TIED CARD OF 'laws.FnTextPlain'. -/
def fnTextPlainCard : Claim7 := { stood := { row := fnTextPlainRow, standIns := [], harness := (true, "654e75147ce5e0ca4ef107606c5251f580e04d2b3ff92bcfdfb47b862c5d227d"), looks := false }, kinds := [], alts := [], laidByText := true, laidKinds := [.data, .data, .data, .sentinel], laidTests := true, laidLooks := .later }
def FnTextPlainCardSaid : Prop := Claim7.holds Tryd.pinned (.plain (OpenSpec.ofChange fnTextPlainSpec)) fnTextPlainCard

/-- THE SECOND FORM's CARD OF 'laws.FnTextPlain'. -/
def fnTextPlainUptoCard : Claim7 := { stood := { row := fnTextPlainUptoRow, standIns := [], harness := (true, "654e75147ce5e0ca4ef107606c5251f580e04d2b3ff92bcfdfb47b862c5d227d"), looks := false }, kinds := [], alts := [], laidByText := true, laidKinds := [.data, .data, .data, .sentinel], laidTests := true, laidLooks := .later }
def FnTextPlainUptoCardSaid : Prop := Claim7.holds Tryd.pinned (.plain (OpenSpec.upto fnTextPlainSpec)) fnTextPlainUptoCard
end Rows
end Go.Proofs.YtcmkfhlihdbiiaaDoor
