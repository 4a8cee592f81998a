import Derived.Test.Qxb6609471aRows
import Derived.WalkKit
import Derived.RowKit3
namespace Go.Proofs.Qxb6609471a.fnRolesFreshEachCall
open Go.RowKit

set_option maxHeartbeats 1000000 in
theorem walk_all (w : World) :
    Calls Try.prog 3 #[] w fun e w' => e = .returned (.bool true) ∧ Grown w w' := by
  go_enter Try.func3, Try.ntmps3
  go_wp2
  go_ret
  exact ⟨rfl, by repeat (first | exact Grown.refl _ | apply Grown.drew | apply Grown.alloc)⟩
end Go.Proofs.Qxb6609471a.fnRolesFreshEachCall
