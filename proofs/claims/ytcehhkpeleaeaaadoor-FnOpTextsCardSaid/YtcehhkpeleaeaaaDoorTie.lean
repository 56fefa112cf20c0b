/-
  DERIVED. GIVEN WITH THE SEED: THE PROGRAM's TIES (one call each: nine closed facts by the kernel) AND EACH ROW's TIE, after the 31st guide's Derived/Test/Toyas{Tie, Card}.lean. No idea stands in it: it is a product of the set-up. Laid BY PROGRAM, IN A SANDBOX (cutbox-door.mjs). By AI agents, Wed Nov 11 2026. No macro, syntax, notation, axiom, sorry.
-/
import Derived.Test.YtcehhkpeleaeaaaDoorRows
import Derived.LaidByTextLater
import Derived.SevenTiedAt
import Derived.LaidSub
import Derived.LaidOnce
namespace Go.Proofs.YtcehhkpeleaeaaaDoor
open Go
set_option maxRecDepth 100000
theorem seatTie1 : Tryd.prog.laidByTextLater [("given.example/pub-rondel/pub/jsonnet/ast.bopStrings", Rows.laid_given_example_pub_rondel_pub_jsonnet_ast_bopStrings)] [.data] true :=
  Program.laidByTextLater_by_one 14 8 20 (by kernel_rfl) (by kernel_rfl) (by kernel_rfl) (by kernel_rfl) (by kernel_rfl) (by kernel_rfl) (fun _ _ => by kernel_rfl)
theorem noOwnUnsafe : Tryd.pinned.checked.prog.headLifts.contains "ownunsafe" = false := by kernel_rfl
theorem tie : Tryd.prog.laidByTextLater [("given.example/pub-rondel/pub/jsonnet/ast.bopStrings", Rows.laid_given_example_pub_rondel_pub_jsonnet_ast_bopStrings)] [.data] true :=
  Program.laidByTextLater.sub seatTie1 ["given.example/pub-rondel/pub/jsonnet/ast.bopStrings"] (by kernel_rfl) (by kernel_rfl)
theorem fnOpTexts_row_tie : Rows.fnOpTextsRow.laidByTextAt .later Tryd.pinned [.data] true :=
  OpenClaim.laidByTextAt_later rfl rfl tie noOwnUnsafe
theorem fnOpTextsUpto_row_tie : Rows.fnOpTextsUptoRow.laidByTextAt .later Tryd.pinned [.data] true :=
  OpenClaim.laidByTextAt_later rfl rfl tie noOwnUnsafe
end Go.Proofs.YtcehhkpeleaeaaaDoor
