/-
  No cell of these rows narrows 'for every input' (looked for: loops, veiled, ifaces, maps, wideKeys, modest, calm, conditions, laid).
  DERIVED. THE GIVEN ROWS OF THIS SEAT. 2 by the template 'for every input the law returns true; each argument reads behind the call as it read before'; 0 by the template 'total and deterministic' (their statements: Qxb6613035aTotals.lean).
  GIVEN WITH THE SEED: the statements are not yours to turn. If you find one false, say at which input.
  Laid BY PROGRAM, IN A SANDBOX (cutbox-rows.mjs): the forced cells as the released guide's own fill.sh prints them over the translation 7cbf62473f24f8e9… (all of the seat's roots in one cut). By AI agents, Wed Nov 11 2026. No macro, syntax, notation, axiom, sorry.
-/
import Derived.Test.Qxb6613035aChecked
import GoSem.Claim
import GoSem.ClaimJoined
import GoSem.ClaimMapViews
import Derived.JoinedTies
import Derived.KernelRfl
namespace Go.Proofs.Qxb6613035a
/- THE CELL 'sum', in the pinned program and in every row, IS THE sha256 OF THE DUMP (.gsa) THAT Qxb6613035aProg.lean LOADS. Nothing in Lean hashes anything: it is a label: what it is worth is what the hold of that sum in a sandbox is worth. -/
noncomputable def Try.pinned : Pinned := { name := "qxb6613035a", sum := "7cbf62473f24f8e92957de51697d49231fde90351cd5772a9289b9b249dd4570", checked := Try.checked }
namespace Rows
def none {H : Type} : Left H := { results := [], args := [] }

/-- 'zzlaws_internal_search_b1.FnMulStepInY': WHATEVER THE INPUT: true; the input reads as it did. -/
def fnMulStepInYSpec : ChangeSpec := { name := "fnMulStepInY", fn := fun _ => fun
  | [d1, d2] => { results := [.lit (.bool true)], args := [d1, d2] }
  | _ => none }
def fnMulStepInYRow : OpenClaim := { program := "qxb6613035a", sum := "7cbf62473f24f8e92957de51697d49231fde90351cd5772a9289b9b249dd4570", func := "example.com/hashkeep/hashkeep/zzlaws_internal_search_b1.FnMulStepInY", spec := "fnMulStepInY", apart := false }
def FnMulStepInYSaid : Prop := fnMulStepInYRow.holds Try.pinned (OpenSpec.ofChange fnMulStepInYSpec)

/-- ITS FALSE NEIGHBOUR: 'it returns false'. Refute it at one input. -/
def fnMulStepInYWrong : ChangeSpec := { name := "fnMulStepInY", fn := fun _ => fun
  | [d1, d2] => { results := [.lit (.bool false)], args := [d1, d2] }
  | _ => none }
def FnMulStepInYWrongFalsely : Prop := fnMulStepInYRow.holds Try.pinned (OpenSpec.ofChange fnMulStepInYWrong)

/-- 'zzlaws_internal_search_b1.FnMulDoublesHalf': WHATEVER THE INPUT: true; the input reads as it did. -/
def fnMulDoublesHalfSpec : ChangeSpec := { name := "fnMulDoublesHalf", fn := fun _ => fun
  | [d1, d2] => { results := [.lit (.bool true)], args := [d1, d2] }
  | _ => none }
def fnMulDoublesHalfRow : OpenClaim := { program := "qxb6613035a", sum := "7cbf62473f24f8e92957de51697d49231fde90351cd5772a9289b9b249dd4570", func := "example.com/hashkeep/hashkeep/zzlaws_internal_search_b1.FnMulDoublesHalf", spec := "fnMulDoublesHalf", apart := false }
def FnMulDoublesHalfSaid : Prop := fnMulDoublesHalfRow.holds Try.pinned (OpenSpec.ofChange fnMulDoublesHalfSpec)

/-- ITS FALSE NEIGHBOUR: 'it returns false'. Refute it at one input. -/
def fnMulDoublesHalfWrong : ChangeSpec := { name := "fnMulDoublesHalf", fn := fun _ => fun
  | [d1, d2] => { results := [.lit (.bool false)], args := [d1, d2] }
  | _ => none }
def FnMulDoublesHalfWrongFalsely : Prop := fnMulDoublesHalfRow.holds Try.pinned (OpenSpec.ofChange fnMulDoublesHalfWrong)

end Rows
end Go.Proofs.Qxb6613035a
