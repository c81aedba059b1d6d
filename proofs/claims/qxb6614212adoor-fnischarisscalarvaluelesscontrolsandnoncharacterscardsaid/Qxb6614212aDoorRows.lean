/-
  NARROWER THAN 'FOR EVERY INPUT', by the rows' own cells (each row's printed sentence says how): FnIsCharIsScalarValueLessControlsAndNoncharacters: laid.
  DERIVED. THE GIVEN ROWS OF THIS SEAT. 1 by the template 'for every input the law returns true; each argument reads behind the call as it read before'; 0 by the template 'total and deterministic' (their statements: Qxb6614212aDoorTotals.lean).
  GIVEN WITH THE SEED: the statements are not yours to turn. If you find one false, say at which input.
  Laid BY PROGRAM, IN A SANDBOX (cutbox-rows.mjs): the forced cells as the released guide's own fill.sh prints them over the translation c46d1c383dd76886… (all of the seat's roots in one cut). By AI agents, Wed Nov 11 2026. No macro, syntax, notation, axiom, sorry.
-/
import Derived.Test.Qxb6614212aDoorChecked
import GoSem.Claim
import GoSem.ClaimJoined
import GoSem.ClaimMapViews
import Derived.JoinedTies
import Derived.KernelRfl
namespace Go.Proofs.Qxb6614212aDoor
/- THE CELL 'sum', in the pinned program and in every row, IS THE sha256 OF THE DUMP (.gsa) THAT Qxb6614212aDoorProg.lean LOADS. Nothing in Lean hashes anything: it is a label: what it is worth is what the hold of that sum in a sandbox is worth. -/
noncomputable def Tryd.pinned : Pinned := { name := "qxb6614212adoor", sum := "c46d1c383dd7688602214f639f405cd6ab6160ea6eb296ff68e3af7986643fe3", checked := Tryd.checked }
namespace Rows
def none {H : Type} : Left H := { results := [], args := [] }

/- WHAT THE LISTED PACKAGE-LEVEL VARIABLES READ AS WHEN THE CALL BEGINS. Each datum BY PROGRAM (the guide's laid-datum.mjs) off the statement by which the dump's own 'gosem.cut.vars' lays the variable. In a bare row this is a premise. The card (Qxb6614212aDoorCards.lean) ties it to the program's text. -/
def laid_example_com_depositary_depositary_internal_xmlscan_charSpans {H : Type} : DataW H := .slice [.agg [.lit (.int .i32 32), .lit (.int .i32 55295)], .agg [.lit (.int .i32 57344), .lit (.int .i32 65533)], .agg [.lit (.int .i32 65536), .lit (.int .i32 1114111)]] []
def laid_example_com_depositary_depositary_internal_xmlscan_nameStartSpans {H : Type} : DataW H := .slice [.agg [.lit (.int .i32 192), .lit (.int .i32 214)], .agg [.lit (.int .i32 216), .lit (.int .i32 246)], .agg [.lit (.int .i32 248), .lit (.int .i32 767)], .agg [.lit (.int .i32 880), .lit (.int .i32 893)], .agg [.lit (.int .i32 895), .lit (.int .i32 8191)], .agg [.lit (.int .i32 8204), .lit (.int .i32 8205)], .agg [.lit (.int .i32 8304), .lit (.int .i32 8591)], .agg [.lit (.int .i32 11264), .lit (.int .i32 12271)], .agg [.lit (.int .i32 12289), .lit (.int .i32 55295)], .agg [.lit (.int .i32 63744), .lit (.int .i32 64975)], .agg [.lit (.int .i32 65008), .lit (.int .i32 65533)], .agg [.lit (.int .i32 65536), .lit (.int .i32 983039)]] []
def laid_example_com_depositary_depositary_internal_xmlscan_nameOnlySpans {H : Type} : DataW H := .slice [.agg [.lit (.int .i32 183), .lit (.int .i32 183)], .agg [.lit (.int .i32 768), .lit (.int .i32 879)], .agg [.lit (.int .i32 8255), .lit (.int .i32 8256)]] []

/-- 'zzlaws_internal_xmlscan_b1.FnIsCharIsScalarValueLessControlsAndNoncharacters': WHATEVER THE INPUT: true; the input reads as it did. -/
def fnIsCharIsScalarValueLessControlsAndNoncharactersSpec : ChangeSpec := { name := "fnIsCharIsScalarValueLessControlsAndNoncharacters", vars := ["example.com/depositary/depositary/internal/xmlscan.charSpans", "example.com/depositary/depositary/internal/xmlscan.nameStartSpans", "example.com/depositary/depositary/internal/xmlscan.nameOnlySpans"], fn := fun _ => fun
  | [d, g1, g2, g3] => { results := [.lit (.bool true)], args := [d], vars := [g1, g2, g3] }
  | _ => none }
def fnIsCharIsScalarValueLessControlsAndNoncharactersRow : OpenClaim := { program := "qxb6614212adoor", sum := "c46d1c383dd7688602214f639f405cd6ab6160ea6eb296ff68e3af7986643fe3", func := "example.com/depositary/depositary/zzlaws_internal_xmlscan_b1.FnIsCharIsScalarValueLessControlsAndNoncharacters", spec := "fnIsCharIsScalarValueLessControlsAndNoncharacters", named := ["example.com/depositary/depositary/internal/xmlscan.charSpans", "example.com/depositary/depositary/internal/xmlscan.nameStartSpans", "example.com/depositary/depositary/internal/xmlscan.nameOnlySpans"], apart := false, laid := [("example.com/depositary/depositary/internal/xmlscan.charSpans", laid_example_com_depositary_depositary_internal_xmlscan_charSpans), ("example.com/depositary/depositary/internal/xmlscan.nameStartSpans", laid_example_com_depositary_depositary_internal_xmlscan_nameStartSpans), ("example.com/depositary/depositary/internal/xmlscan.nameOnlySpans", laid_example_com_depositary_depositary_internal_xmlscan_nameOnlySpans)] }
def FnIsCharIsScalarValueLessControlsAndNoncharactersSaid : Prop := fnIsCharIsScalarValueLessControlsAndNoncharactersRow.holds Tryd.pinned (OpenSpec.ofChange fnIsCharIsScalarValueLessControlsAndNoncharactersSpec)

/-- ITS FALSE NEIGHBOUR: 'it returns false'. Refute it at one input. -/
def fnIsCharIsScalarValueLessControlsAndNoncharactersWrong : ChangeSpec := { name := "fnIsCharIsScalarValueLessControlsAndNoncharacters", vars := ["example.com/depositary/depositary/internal/xmlscan.charSpans", "example.com/depositary/depositary/internal/xmlscan.nameStartSpans", "example.com/depositary/depositary/internal/xmlscan.nameOnlySpans"], fn := fun _ => fun
  | [d, g1, g2, g3] => { results := [.lit (.bool false)], args := [d], vars := [g1, g2, g3] }
  | _ => none }
def FnIsCharIsScalarValueLessControlsAndNoncharactersWrongFalsely : Prop := fnIsCharIsScalarValueLessControlsAndNoncharactersRow.holds Tryd.pinned (OpenSpec.ofChange fnIsCharIsScalarValueLessControlsAndNoncharactersWrong)

end Rows
end Go.Proofs.Qxb6614212aDoor
