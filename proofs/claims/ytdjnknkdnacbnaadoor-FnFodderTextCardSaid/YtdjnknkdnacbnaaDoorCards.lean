/-
  DERIVED. GIVEN WITH THE SEED: THE CARDS: each row of YtdjnknkdnacbnaaDoorRows.lean that lists a variable, with what it lists TIED to the program's text (the seventh form; the later family's looks); each row that meets fmt, with fmt's text TOLD by the authors' own Lean function (tested against real Go, not proved from fmt's source: count such statements apart). THE CARD IS WHAT COUNTS. Prove the row's statement (the work); the ties are given (YtdjnknkdnacbnaaDoorTie.lean); close each card by the builder's one call (the guide's Derived/Test/ToyasCard.lean, 'card_holds'). Laid BY PROGRAM, IN A SANDBOX (cutbox-door.mjs). By AI agents, Wed Nov 11 2026. No macro, syntax, notation, axiom, sorry.
-/
import Derived.Test.YtdjnknkdnacbnaaDoorRows
import GoSem.ClaimSeven
namespace Go.Proofs.YtdjnknkdnacbnaaDoor
namespace Rows

/-- THE TIED CARD OF 'laws.FnFodderText'. -/
def fnFodderTextCard : Claim7 := { stood := { row := fnFodderTextRow, standIns := [], harness := (true, "a7afe648dc5a99b2c7feb796eb996d3e5ca5d72db54c9552351324a65577b9a4"), looks := false }, kinds := [], alts := [], laidByText := true, laidKinds := [.sentinel], laidTests := true, laidLooks := .later }
def FnFodderTextCardSaid : Prop := Claim7.holds Tryd.pinned (.plain (OpenSpec.ofChange fnFodderTextSpec)) fnFodderTextCard

/-- THE SECOND FORM's CARD OF 'laws.FnFodderText'. -/
def fnFodderTextUptoCard : Claim7 := { stood := { row := fnFodderTextUptoRow, standIns := [], harness := (true, "a7afe648dc5a99b2c7feb796eb996d3e5ca5d72db54c9552351324a65577b9a4"), looks := false }, kinds := [], alts := [], laidByText := true, laidKinds := [.sentinel], laidTests := true, laidLooks := .later }
def FnFodderTextUptoCardSaid : Prop := Claim7.holds Tryd.pinned (.plain (OpenSpec.upto fnFodderTextSpec)) fnFodderTextUptoCard
end Rows
end Go.Proofs.YtdjnknkdnacbnaaDoor
