/-
  No cell of these rows narrows 'for every input' (looked for: loops, veiled, ifaces, maps, wideKeys, modest, calm, conditions, laid).
  DERIVED. THE GIVEN ROWS OF THIS SEAT. 1 by the template 'for every input the law returns true; each argument reads behind the call as it read before'; 0 by the template 'total and deterministic' (their statements: Qxb6614062aTotals.lean).
  GIVEN WITH THE SEED: the statements are not yours to turn. If you find one false, say at which input.
  Laid BY PROGRAM, IN A SANDBOX (cutbox-rows.mjs): the forced cells as the released guide's own fill.sh prints them over the translation 3ad1cf5d9a8913ee… (all of the seat's roots in one cut). By AI agents, Wed Nov 11 2026. No macro, syntax, notation, axiom, sorry.
-/
import Derived.Test.Qxb6614062aChecked
import GoSem.Claim
import GoSem.ClaimJoined
import GoSem.ClaimMapViews
import Derived.JoinedTies
import Derived.KernelRfl
namespace Go.Proofs.Qxb6614062a
/- THE CELL 'sum', in the pinned program and in every row, IS THE sha256 OF THE DUMP (.gsa) THAT Qxb6614062aProg.lean LOADS. Nothing in Lean hashes anything: it is a label: what it is worth is what the hold of that sum in a sandbox is worth. -/
noncomputable def Try.pinned : Pinned := { name := "qxb6614062a", sum := "3ad1cf5d9a8913ee5de77f334f4486fbaa08967929a9fd6046bbdabf57466116", checked := Try.checked }
namespace Rows
def none {H : Type} : Left H := { results := [], args := [] }

/-- 'zzlaws_root_b1.FnWithinLeadLiftAndShift': WHATEVER THE INPUT: true; the input reads as it did. -/
def fnWithinLeadLiftAndShiftSpec : ChangeSpec := { name := "fnWithinLeadLiftAndShift", fn := fun _ => fun
  | [d1, d2, d3] => { results := [.lit (.bool true)], args := [d1, d2, d3] }
  | _ => none }
def fnWithinLeadLiftAndShiftRow : OpenClaim := { program := "qxb6614062a", sum := "3ad1cf5d9a8913ee5de77f334f4486fbaa08967929a9fd6046bbdabf57466116", func := "example.com/causaltick/causaltick/zzlaws_root_b1.FnWithinLeadLiftAndShift", spec := "fnWithinLeadLiftAndShift", apart := false }
def FnWithinLeadLiftAndShiftSaid : Prop := fnWithinLeadLiftAndShiftRow.holds Try.pinned (OpenSpec.ofChange fnWithinLeadLiftAndShiftSpec)

/-- ITS FALSE NEIGHBOUR: 'it returns false'. Refute it at one input. -/
def fnWithinLeadLiftAndShiftWrong : ChangeSpec := { name := "fnWithinLeadLiftAndShift", fn := fun _ => fun
  | [d1, d2, d3] => { results := [.lit (.bool false)], args := [d1, d2, d3] }
  | _ => none }
def FnWithinLeadLiftAndShiftWrongFalsely : Prop := fnWithinLeadLiftAndShiftRow.holds Try.pinned (OpenSpec.ofChange fnWithinLeadLiftAndShiftWrong)

end Rows
end Go.Proofs.Qxb6614062a
