/-
  DERIVED. GIVEN WITH THE SEED: THE CARDS: each row of Qxb6614212aDoorRows.lean that lists a variable, with what it lists TIED to the program's text (the seventh form; the later family's looks); each row that meets fmt, with fmt's text TOLD by the authors' own Lean function (tested against real Go, not proved from fmt's source: count such statements apart). THE CARD IS WHAT COUNTS. Prove the row's statement (the work); the ties are given (Qxb6614212aDoorTie.lean); close each card by the builder's one call (the guide's Derived/Test/ToyasCard.lean, 'card_holds'). Laid BY PROGRAM, IN A SANDBOX (cutbox-door.mjs). By AI agents, Wed Nov 11 2026. No macro, syntax, notation, axiom, sorry.
-/
import Derived.Test.Qxb6614212aDoorRows
import GoSem.ClaimSeven
namespace Go.Proofs.Qxb6614212aDoor
namespace Rows

/-- THE TIED CARD OF 'zzlaws_internal_xmlscan_b1.FnIsCharIsScalarValueLessControlsAndNoncharacters'. -/
def fnIsCharIsScalarValueLessControlsAndNoncharactersCard : Claim7 := { stood := { row := fnIsCharIsScalarValueLessControlsAndNoncharactersRow, standIns := [], harness := (true, "6c54f096cb1ddd5e1483c1f2d42a00e3c2b904628278abc3f952ddf0e9bc513c"), looks := false }, kinds := [], alts := [], laidByText := true, laidKinds := [.widerDeep, .widerDeep, .widerDeep], laidTests := true, laidLooks := .later }
def FnIsCharIsScalarValueLessControlsAndNoncharactersCardSaid : Prop := Claim7.holds Tryd.pinned (.plain (OpenSpec.ofChange fnIsCharIsScalarValueLessControlsAndNoncharactersSpec)) fnIsCharIsScalarValueLessControlsAndNoncharactersCard
end Rows
end Go.Proofs.Qxb6614212aDoor
