/-
  DERIVED. GIVEN WITH THE SEED: THE PROGRAM's TIES (one call each: nine closed facts by the kernel) AND EACH ROW's TIE, after the 31st guide's Derived/Test/Toyas{Tie, Card}.lean. No idea stands in it: it is a product of the set-up. Laid BY PROGRAM, IN A SANDBOX (cutbox-door.mjs). By AI agents, Wed Nov 11 2026. No macro, syntax, notation, axiom, sorry.
-/
import Derived.Test.Qxb6614212aDoorRows
import Derived.LaidByTextLater
import Derived.SevenTiedAt
import Derived.LaidSub
import Derived.LaidOnce
namespace Go.Proofs.Qxb6614212aDoor
open Go
set_option maxRecDepth 100000
theorem seatTie1 : Tryd.prog.laidByTextLater [("example.com/depositary/depositary/internal/xmlscan.charSpans", Rows.laid_example_com_depositary_depositary_internal_xmlscan_charSpans), ("example.com/depositary/depositary/internal/xmlscan.nameStartSpans", Rows.laid_example_com_depositary_depositary_internal_xmlscan_nameStartSpans), ("example.com/depositary/depositary/internal/xmlscan.nameOnlySpans", Rows.laid_example_com_depositary_depositary_internal_xmlscan_nameOnlySpans)] [.widerDeep, .widerDeep, .widerDeep] true :=
  Program.laidByTextLater_by_one 42 8 25 (by kernel_rfl) (by kernel_rfl) (by kernel_rfl) (by kernel_rfl) (by kernel_rfl) (by kernel_rfl) (fun _ _ => by kernel_rfl)
theorem noOwnUnsafe : Tryd.pinned.checked.prog.headLifts.contains "ownunsafe" = false := by kernel_rfl
theorem tie : Tryd.prog.laidByTextLater [("example.com/depositary/depositary/internal/xmlscan.charSpans", Rows.laid_example_com_depositary_depositary_internal_xmlscan_charSpans), ("example.com/depositary/depositary/internal/xmlscan.nameStartSpans", Rows.laid_example_com_depositary_depositary_internal_xmlscan_nameStartSpans), ("example.com/depositary/depositary/internal/xmlscan.nameOnlySpans", Rows.laid_example_com_depositary_depositary_internal_xmlscan_nameOnlySpans)] [.widerDeep, .widerDeep, .widerDeep] true :=
  Program.laidByTextLater.sub seatTie1 ["example.com/depositary/depositary/internal/xmlscan.charSpans", "example.com/depositary/depositary/internal/xmlscan.nameStartSpans", "example.com/depositary/depositary/internal/xmlscan.nameOnlySpans"] (by kernel_rfl) (by kernel_rfl)
theorem fnIsCharIsScalarValueLessControlsAndNoncharacters_row_tie : Rows.fnIsCharIsScalarValueLessControlsAndNoncharactersRow.laidByTextAt .later Tryd.pinned [.widerDeep, .widerDeep, .widerDeep] true :=
  OpenClaim.laidByTextAt_later rfl rfl tie noOwnUnsafe
end Go.Proofs.Qxb6614212aDoor
