/-
  No cell of these rows narrows 'for every input' (looked for: loops, veiled, ifaces, maps, wideKeys, modest, calm, conditions, laid).
  DERIVED. THE GIVEN ROWS OF THIS SEAT. 1 by the template 'for every input the law returns true; each argument reads behind the call as it read before'; 0 by the template 'total and deterministic' (their statements: Qxb6609471aTotals.lean).
  GIVEN WITH THE SEED: the statements are not yours to turn. If you find one false, say at which input.
  Laid BY PROGRAM, IN A SANDBOX (cutbox-rows.mjs): the forced cells as the released guide's own fill.sh prints them over the translation 260b138491dc33c5… (all of the seat's roots in one cut). By AI agents, Wed Nov 11 2026. No macro, syntax, notation, axiom, sorry.
-/
import Derived.Test.Qxb6609471aChecked
import GoSem.Claim
import GoSem.ClaimJoined
import GoSem.ClaimMapViews
import Derived.JoinedTies
import Derived.KernelRfl
namespace Go.Proofs.Qxb6609471a
/- THE CELL 'sum', in the pinned program and in every row, IS THE sha256 OF THE DUMP (.gsa) THAT Qxb6609471aProg.lean LOADS. Nothing in Lean hashes anything: it is a label: what it is worth is what the hold of that sum in a sandbox is worth. -/
noncomputable def Try.pinned : Pinned := { name := "qxb6609471a", sum := "260b138491dc33c5e230c688b97279e84d8e9635037870dd50498c0877db5443", checked := Try.checked }
namespace Rows
def none {H : Type} : Left H := { results := [], args := [] }

/-- 'zzlaws_charm_b1.FnRolesFreshEachCall': WHATEVER THE INPUT: true; the input reads as it did. -/
def fnRolesFreshEachCallSpec : ChangeSpec := { name := "fnRolesFreshEachCall", fn := fun _ => fun
  | [] => { results := [.lit (.bool true)], args := [] }
  | _ => none }
def fnRolesFreshEachCallRow : OpenClaim := { program := "qxb6609471a", sum := "260b138491dc33c5e230c688b97279e84d8e9635037870dd50498c0877db5443", func := "example.com/loomvane/loomvane/zzlaws_charm_b1.FnRolesFreshEachCall", spec := "fnRolesFreshEachCall", apart := false }
def FnRolesFreshEachCallSaid : Prop := fnRolesFreshEachCallRow.holds Try.pinned (OpenSpec.ofChange fnRolesFreshEachCallSpec)

/-- ITS FALSE NEIGHBOUR: 'it returns false'. Refute it at one input. -/
def fnRolesFreshEachCallWrong : ChangeSpec := { name := "fnRolesFreshEachCall", fn := fun _ => fun
  | [] => { results := [.lit (.bool false)], args := [] }
  | _ => none }
def FnRolesFreshEachCallWrongFalsely : Prop := fnRolesFreshEachCallRow.holds Try.pinned (OpenSpec.ofChange fnRolesFreshEachCallWrong)

end Rows
end Go.Proofs.Qxb6609471a
