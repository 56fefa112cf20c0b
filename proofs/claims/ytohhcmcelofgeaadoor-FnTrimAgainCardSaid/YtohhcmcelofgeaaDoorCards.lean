/-
  DERIVED. GIVEN WITH THE SEED: THE CARDS: each row of YtohhcmcelofgeaaDoorRows.lean that lists a variable, with what it lists TIED to the program's text (the seventh form; the later family's looks); each row that meets fmt, with fmt's text TOLD by the authors' own Lean function (tested against real Go, not proved from fmt's source: count such statements apart). THE CARD IS WHAT COUNTS. Prove the row's statement (the work); the ties are given (YtohhcmcelofgeaaDoorTie.lean); close each card by the builder's one call (the guide's Derived/Test/ToyasCard.lean, 'card_holds'). Laid BY PROGRAM, IN A SANDBOX (cutbox-door.mjs). By AI agents, Wed Nov 11 2026. No macro, syntax, notation, axiom, sorry.
-/
import Derived.Test.YtohhcmcelofgeaaDoorRows
import GoSem.ClaimSeven
namespace Go.Proofs.YtohhcmcelofgeaaDoor
namespace Rows

/-- THE TIED CARD OF 'laws.FnTrimAgain'. -/
def fnTrimAgainCard : Claim7 := { stood := { row := fnTrimAgainRow, standIns := [], harness := (true, "091131e5bae45ed194cf4801c4489b36635961a7a3180a3634e974b3a225c3ba"), looks := true }, kinds := [], alts := [], laidByText := true, laidKinds := [.data, .pinned], laidTests := true, laidLooks := .later }
def FnTrimAgainCardSaid : Prop := Claim7.holds Tryd.pinned (.plain (OpenSpec.ofChange fnTrimAgainSpec)) fnTrimAgainCard

/-- THE SECOND FORM's CARD OF 'laws.FnTrimAgain'. -/
def fnTrimAgainUptoCard : Claim7 := { stood := { row := fnTrimAgainUptoRow, standIns := [], harness := (true, "091131e5bae45ed194cf4801c4489b36635961a7a3180a3634e974b3a225c3ba"), looks := true }, kinds := [], alts := [], laidByText := true, laidKinds := [.data, .pinned], laidTests := true, laidLooks := .later }
def FnTrimAgainUptoCardSaid : Prop := Claim7.holds Tryd.pinned (.plain (OpenSpec.upto fnTrimAgainSpec)) fnTrimAgainUptoCard
end Rows
end Go.Proofs.YtohhcmcelofgeaaDoor
