import Derived.Test.Qxb6613035aPlain
import Derived.WalkKit
import Derived.RowKit3
namespace Go.Proofs.Qxb6613035a.fnMulStepInY
open Go.RowKit

set_option maxHeartbeats 400000 in
theorem walk_top (x : Int) (w : World) :
    Calls Try.prog 3 #[.int .u64 x, .int .u64 18446744073709551615] w fun e w' => e = .returned (.bool true) ∧ Grown w w' := by
  go_enter Try.func3, Try.ntmps3
  go_wp2
  go_ret
  exact ⟨rfl, Grown.refl _⟩

set_option maxHeartbeats 1000000 in
theorem walk_yes (x y : Int) (x0 : 0 ≤ x) (x1 : x < 18446744073709551616) (y0 : 0 ≤ y) (y1 : y < 18446744073709551615) (w : World) :
    Calls Try.prog 3 #[.int .u64 x, .int .u64 y] w fun e w' => e = .returned (.bool true) ∧ Grown w w' := by
  have hne : (y == 18446744073709551615) = false := by rw [beq_eq_false_iff_ne]; omega
  have f1 := hi_zero x
  have f2 := lo_zero x
  have f3 := lo_wrap x y
  have f4 := step_lo x y
  by_cases hc : loZ x (y + 1) < loZ x y
  · have f5 := step_carry x y x0 x1 y0 y1 hc
    go_enter Try.func3, Try.ntmps3
    go_wp2_with fail
    refine (zzmul x 0 x0 x1 (by omega) (by omega) _).mono ?_
    rintro e w1 ⟨rfl, g1⟩
    go_wp2_with fail
    refine (zzmul x y x0 x1 y0 (by omega) _).mono ?_
    rintro e w2 ⟨rfl, g2⟩
    go_wp2_with fail
    refine (zzmul x (y + 1) x0 x1 (by omega) (by omega) _).mono ?_
    rintro e w3 ⟨rfl, g3⟩
    go_wp2
    go_ret
    exact ⟨rfl, grown_trans (grown_trans g1 g2) g3⟩
  · have f5 := step_plain x y x0 x1 y0 y1 hc
    go_enter Try.func3, Try.ntmps3
    go_wp2_with fail
    refine (zzmul x 0 x0 x1 (by omega) (by omega) _).mono ?_
    rintro e w1 ⟨rfl, g1⟩
    go_wp2_with fail
    refine (zzmul x y x0 x1 y0 (by omega) _).mono ?_
    rintro e w2 ⟨rfl, g2⟩
    go_wp2_with fail
    refine (zzmul x (y + 1) x0 x1 (by omega) (by omega) _).mono ?_
    rintro e w3 ⟨rfl, g3⟩
    go_wp2
    go_ret
    exact ⟨rfl, grown_trans (grown_trans g1 g2) g3⟩
end Go.Proofs.Qxb6613035a.fnMulStepInY
