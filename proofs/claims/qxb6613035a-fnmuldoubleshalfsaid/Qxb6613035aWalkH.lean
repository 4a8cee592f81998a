import Derived.Test.Qxb6613035aHalf
import Derived.WalkKit
import Derived.RowKit3
namespace Go.Proofs.Qxb6613035a.fnMulDoublesHalf
open Go.RowKit

set_option maxHeartbeats 1000000 in
theorem walk_even (x y : Int) (x0 : 0 ≤ x) (x1 : x < 18446744073709551616) (y0 : 0 ≤ y) (y1 : y < 18446744073709551616) (he : y % 2 = 0) (w : World) :
    Calls Try.prog 4 #[.int .u64 x, .int .u64 y] w fun e w' => e = .returned (.bool true) ∧ Grown w w' := by
  have r1 := (dlo_of x (y / 2)).trans (even_lo x y he)
  have r2 := (dhi_of x (y / 2) x0 x1 (by omega) (by omega)).trans (even_hi x y he)
  have hb := bit_even y y0 y1 he
  have c1 := hi_comm x y
  have c2 := lo_comm x y
  go_enter Try.func4, Try.ntmps4
  go_wp2_with fail
  refine (zzmul x y x0 x1 y0 y1 _).mono ?_
  rintro e w1 ⟨rfl, g1⟩
  go_wp2_with fail
  refine (zzmul x (y / 2) x0 x1 (by omega) (by omega) _).mono ?_
  rintro e w2 ⟨rfl, g2⟩
  go_wp2_with fail
  refine (zzmul y x y0 y1 x0 x1 _).mono ?_
  rintro e w3 ⟨rfl, g3⟩
  go_wp2
  go_ret
  exact ⟨rfl, grown_trans (grown_trans g1 g2) g3⟩

set_option maxHeartbeats 1000000 in
theorem walk_odd (x y : Int) (x0 : 0 ≤ x) (x1 : x < 18446744073709551616) (y0 : 0 ≤ y) (y1 : y < 18446744073709551616) (he : y % 2 = 1) (w : World) :
    Calls Try.prog 4 #[.int .u64 x, .int .u64 y] w fun e w' => e = .returned (.bool true) ∧ Grown w w' := by
  have r1 := dlo_of x (y / 2)
  have r2 := dhi_of x (y / 2) x0 x1 (by omega) (by omega)
  have r3 := odd_lo x y he
  have hb := bit_odd y y0 y1 he
  have c1 := hi_comm x y
  have c2 := lo_comm x y
  by_cases hc : loZ x y < dloZ x (y / 2)
  · have r4 := odd_carry x y x0 x1 y0 y1 he hc
    go_enter Try.func4, Try.ntmps4
    go_wp2_with fail
    refine (zzmul x y x0 x1 y0 y1 _).mono ?_
    rintro e w1 ⟨rfl, g1⟩
    go_wp2_with fail
    refine (zzmul x (y / 2) x0 x1 (by omega) (by omega) _).mono ?_
    rintro e w2 ⟨rfl, g2⟩
    go_wp2_with fail
    refine (zzmul y x y0 y1 x0 x1 _).mono ?_
    rintro e w3 ⟨rfl, g3⟩
    go_wp2
    go_ret
    exact ⟨rfl, grown_trans (grown_trans g1 g2) g3⟩
  · have r4 := odd_plain x y x0 x1 he hc
    have r5 := r2.trans r4
    clear r2 r4
    go_enter Try.func4, Try.ntmps4
    go_wp2_with fail
    refine (zzmul x y x0 x1 y0 y1 _).mono ?_
    rintro e w1 ⟨rfl, g1⟩
    go_wp2_with fail
    refine (zzmul x (y / 2) x0 x1 (by omega) (by omega) _).mono ?_
    rintro e w2 ⟨rfl, g2⟩
    go_wp2_with fail
    refine (zzmul y x y0 y1 x0 x1 _).mono ?_
    rintro e w3 ⟨rfl, g3⟩
    go_wp2
    go_ret
    exact ⟨rfl, grown_trans (grown_trans g1 g2) g3⟩
end Go.Proofs.Qxb6613035a.fnMulDoublesHalf
