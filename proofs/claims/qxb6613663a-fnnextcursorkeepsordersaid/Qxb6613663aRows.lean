/-
  No cell of these rows narrows 'for every input' (looked for: loops, veiled, ifaces, maps, wideKeys, modest, calm, conditions, laid).
  DERIVED. THE GIVEN ROWS OF THIS SEAT. 4 by the template 'for every input the law returns true; each argument reads behind the call as it read before'; 0 by the template 'total and deterministic' (their statements: Qxb6613663aTotals.lean).
  GIVEN WITH THE SEED: the statements are not yours to turn. If you find one false, say at which input.
  Laid BY PROGRAM, IN A SANDBOX (cutbox-rows.mjs): the forced cells as the released guide's own fill.sh prints them over the translation c7db393400116195… (all of the seat's roots in one cut). By AI agents, Wed Nov 11 2026. No macro, syntax, notation, axiom, sorry.
-/
import Derived.Test.Qxb6613663aChecked
import GoSem.Claim
import GoSem.ClaimJoined
import GoSem.ClaimMapViews
import Derived.JoinedTies
import Derived.KernelRfl
namespace Go.Proofs.Qxb6613663a
/- THE CELL 'sum', in the pinned program and in every row, IS THE sha256 OF THE DUMP (.gsa) THAT Qxb6613663aProg.lean LOADS. Nothing in Lean hashes anything: it is a label: what it is worth is what the hold of that sum in a sandbox is worth. -/
noncomputable def Try.pinned : Pinned := { name := "qxb6613663a", sum := "c7db39340011619526881ae2ffddcdf7a7f433767492b8fa84551c80706c1e23", checked := Try.checked }
namespace Rows
def none {H : Type} : Left H := { results := [], args := [] }

/-- 'zzlaws_root_b1.FnNextCursorLeastAbove': WHATEVER THE INPUT: true; the input reads as it did. -/
def fnNextCursorLeastAboveSpec : ChangeSpec := { name := "fnNextCursorLeastAbove", fn := fun _ => fun
  | [d1, d2] => { results := [.lit (.bool true)], args := [d1, d2] }
  | _ => none }
def fnNextCursorLeastAboveRow : OpenClaim := { program := "qxb6613663a", sum := "c7db39340011619526881ae2ffddcdf7a7f433767492b8fa84551c80706c1e23", func := "example.com/overlace/overlace/zzlaws_root_b1.FnNextCursorLeastAbove", spec := "fnNextCursorLeastAbove", apart := false }
def FnNextCursorLeastAboveSaid : Prop := fnNextCursorLeastAboveRow.holds Try.pinned (OpenSpec.ofChange fnNextCursorLeastAboveSpec)

/-- ITS FALSE NEIGHBOUR: 'it returns false'. Refute it at one input. -/
def fnNextCursorLeastAboveWrong : ChangeSpec := { name := "fnNextCursorLeastAbove", fn := fun _ => fun
  | [d1, d2] => { results := [.lit (.bool false)], args := [d1, d2] }
  | _ => none }
def FnNextCursorLeastAboveWrongFalsely : Prop := fnNextCursorLeastAboveRow.holds Try.pinned (OpenSpec.ofChange fnNextCursorLeastAboveWrong)

/-- 'zzlaws_root_b1.FnNextCursorKeepsOrder': WHATEVER THE INPUT: true; the input reads as it did. -/
def fnNextCursorKeepsOrderSpec : ChangeSpec := { name := "fnNextCursorKeepsOrder", fn := fun _ => fun
  | [d1, d2] => { results := [.lit (.bool true)], args := [d1, d2] }
  | _ => none }
def fnNextCursorKeepsOrderRow : OpenClaim := { program := "qxb6613663a", sum := "c7db39340011619526881ae2ffddcdf7a7f433767492b8fa84551c80706c1e23", func := "example.com/overlace/overlace/zzlaws_root_b1.FnNextCursorKeepsOrder", spec := "fnNextCursorKeepsOrder", apart := false }
def FnNextCursorKeepsOrderSaid : Prop := fnNextCursorKeepsOrderRow.holds Try.pinned (OpenSpec.ofChange fnNextCursorKeepsOrderSpec)

/-- ITS FALSE NEIGHBOUR: 'it returns false'. Refute it at one input. -/
def fnNextCursorKeepsOrderWrong : ChangeSpec := { name := "fnNextCursorKeepsOrder", fn := fun _ => fun
  | [d1, d2] => { results := [.lit (.bool false)], args := [d1, d2] }
  | _ => none }
def FnNextCursorKeepsOrderWrongFalsely : Prop := fnNextCursorKeepsOrderRow.holds Try.pinned (OpenSpec.ofChange fnNextCursorKeepsOrderWrong)

/-- 'zzlaws_root_b1.FnIDStringRoundTrip': WHATEVER THE INPUT: true; the input reads as it did. -/
def fnIDStringRoundTripSpec : ChangeSpec := { name := "fnIDStringRoundTrip", fn := fun _ => fun
  | [d] => { results := [.lit (.bool true)], args := [d] }
  | _ => none }
def fnIDStringRoundTripRow : OpenClaim := { program := "qxb6613663a", sum := "c7db39340011619526881ae2ffddcdf7a7f433767492b8fa84551c80706c1e23", func := "example.com/overlace/overlace/zzlaws_root_b1.FnIDStringRoundTrip", spec := "fnIDStringRoundTrip", apart := false }
def FnIDStringRoundTripSaid : Prop := fnIDStringRoundTripRow.holds Try.pinned (OpenSpec.ofChange fnIDStringRoundTripSpec)

/-- ITS FALSE NEIGHBOUR: 'it returns false'. Refute it at one input. -/
def fnIDStringRoundTripWrong : ChangeSpec := { name := "fnIDStringRoundTrip", fn := fun _ => fun
  | [d] => { results := [.lit (.bool false)], args := [d] }
  | _ => none }
def FnIDStringRoundTripWrongFalsely : Prop := fnIDStringRoundTripRow.holds Try.pinned (OpenSpec.ofChange fnIDStringRoundTripWrong)

/-- 'zzlaws_root_b1.FnIDStringOrderAgrees': WHATEVER THE INPUT: true; the input reads as it did. -/
def fnIDStringOrderAgreesSpec : ChangeSpec := { name := "fnIDStringOrderAgrees", fn := fun _ => fun
  | [d1, d2] => { results := [.lit (.bool true)], args := [d1, d2] }
  | _ => none }
def fnIDStringOrderAgreesRow : OpenClaim := { program := "qxb6613663a", sum := "c7db39340011619526881ae2ffddcdf7a7f433767492b8fa84551c80706c1e23", func := "example.com/overlace/overlace/zzlaws_root_b1.FnIDStringOrderAgrees", spec := "fnIDStringOrderAgrees", apart := false }
def FnIDStringOrderAgreesSaid : Prop := fnIDStringOrderAgreesRow.holds Try.pinned (OpenSpec.ofChange fnIDStringOrderAgreesSpec)

/-- ITS FALSE NEIGHBOUR: 'it returns false'. Refute it at one input. -/
def fnIDStringOrderAgreesWrong : ChangeSpec := { name := "fnIDStringOrderAgrees", fn := fun _ => fun
  | [d1, d2] => { results := [.lit (.bool false)], args := [d1, d2] }
  | _ => none }
def FnIDStringOrderAgreesWrongFalsely : Prop := fnIDStringOrderAgreesRow.holds Try.pinned (OpenSpec.ofChange fnIDStringOrderAgreesWrong)

end Rows
end Go.Proofs.Qxb6613663a
