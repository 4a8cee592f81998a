import Derived.Test.Qxb6613035aRows
import Derived.WalkKit
import Derived.RowKit3
import Derived.Lib.Mul64
import Derived.Shelf.Bits.Mul64
import Derived.RegionTactic
import Derived.WalkSmall
namespace Go.Proofs.Qxb6613035a
open Go.RowKit

/-- The two halves of the product, as numbers that no simp looks into. -/
def mhi (x y : Nat) : Int := ((x * y / 18446744073709551616 : Nat) : Int)
def mlo (x y : Nat) : Int := ((x * y % 18446744073709551616 : Nat) : Int)

set_option maxHeartbeats 1000000 in
/-- math/bits.Mul64, its own text walked at this dump (after the shelf's contract Any.bits_Mul64, whose casting lemmas are imported). -/
theorem mul64 (x y : Nat) (hx : x < 18446744073709551616) (hy : y < 18446744073709551616) (w : World) :
    Calls Try.prog 7 #[.int .u64 x, .int .u64 y] w fun e w' => e = .returned (.tuple #[.int .u64 (mhi x y), .int .u64 (mlo x y)]) ∧ w = w' := by
  unfold mhi mlo
  obtain ⟨bd, bt, bw, hhi⟩ := Lib.mul64_hi x y hx hy
  have ba := Lib.half_mul_le (a := x / 4294967296) (b := y / 4294967296) (by omega) (by omega)
  have bb := Lib.half_mul_le (a := x / 4294967296) (b := y % 4294967296) (by omega) (by omega)
  have bc := Lib.half_mul_le (a := x % 4294967296) (b := y / 4294967296) (by omega) (by omega)
  have ba' : x / 4294967296 * (y / 4294967296) < 18446744073709551616 := by omega
  have bb' : x / 4294967296 * (y % 4294967296) < 18446744073709551616 := by omega
  have bc' : x % 4294967296 * (y / 4294967296) < 18446744073709551616 := by omega
  have bh1 : x / 4294967296 * (y / 4294967296) + (x / 4294967296 * (y % 4294967296) + x % 4294967296 * (y % 4294967296) / 4294967296) / 4294967296 < 18446744073709551616 := by omega
  have bh : x / 4294967296 * (y / 4294967296) + (x / 4294967296 * (y % 4294967296) + x % 4294967296 * (y % 4294967296) / 4294967296) / 4294967296 + ((x / 4294967296 * (y % 4294967296) + x % 4294967296 * (y % 4294967296) / 4294967296) % 4294967296 + x % 4294967296 * (y / 4294967296)) / 4294967296 < 18446744073709551616 := by omega
  go_enter Try.func7, Try.ntmps7
  go_wp2
  simp only [Mul64.maskN x hx, Mul64.maskN y hy, Mul64.divN, Mul64.mulN, Mul64.addN, Mul64.wrapN _ bd, Mul64.wrapN _ bb', Mul64.wrapN _ bt, Mul64.maskN _ bt, Mul64.wrapN _ bc', Mul64.wrapN _ bw, Mul64.wrapN _ ba', Mul64.wrapN _ bh1, Mul64.wrapN _ bh, Mul64.wrapM (x * y)]
  rw [hhi]
  go_ret2
  exact ⟨rfl, rfl⟩

set_option maxHeartbeats 400000 in
theorem mul_any (x y : Nat) (hx : x < 18446744073709551616) (hy : y < 18446744073709551616) (w : World) :
    Calls Try.prog 6 #[.int .u64 x, .int .u64 y] w fun e w' => e = .returned (.agg #[.int .u64 (mhi x y), .int .u64 (mlo x y)]) ∧ Grown w w' := by
  go_enter Try.func6, Try.ntmps6
  go_wp2_with (go_at_call 7; refine (mul64 x y hx hy _).mono ?_; rintro e w' ⟨rfl, rfl⟩)
  refine bodyPost_ret (v := .agg #[.int .u64 (mhi x y), .int .u64 (mlo x y)]) (by simp [results, Try.results6, go_sem]) rfl ⟨rfl, ?_⟩
  repeat (first | exact Grown.refl _ | apply Grown.drew | apply Grown.alloc)

set_option maxHeartbeats 400000 in
theorem zzmul_any (x y : Nat) (hx : x < 18446744073709551616) (hy : y < 18446744073709551616) (w : World) :
    Calls Try.prog 5 #[.int .u64 x, .int .u64 y] w fun e w' => e = .returned (.tuple #[.int .u64 (mhi x y), .int .u64 (mlo x y)]) ∧ Grown w w' := by
  go_enter Try.func5, Try.ntmps5
  go_wp2_with fail
  refine (mul_any x y hx hy _).mono ?_
  rintro e w1 ⟨rfl, hg⟩
  go_wp2_with fail
  go_region
  all_goals
    go_wp2
    go_ret2
    exact ⟨rfl, (hg.alloc _ _).drew⟩
/-- The halves of the product, over Int. -/
def hiZ (x y : Int) : Int := x * y / 18446744073709551616
def loZ (x y : Int) : Int := x * y % 18446744073709551616

theorem hiZ_nat (x y : Nat) : hiZ x y = mhi x y := by unfold hiZ mhi; rw [Mul64.mulN]; omega
theorem loZ_nat (x y : Nat) : loZ x y = mlo x y := by unfold loZ mlo; rw [Mul64.mulN]; omega

/-- ZZmul over Int. -/
theorem zzmul (x y : Int) (x0 : 0 ≤ x) (x1 : x < 18446744073709551616) (y0 : 0 ≤ y) (y1 : y < 18446744073709551616) (w : World) :
    Calls Try.prog 5 #[.int .u64 x, .int .u64 y] w fun e w' => e = .returned (.tuple #[.int .u64 (hiZ x y), .int .u64 (loZ x y)]) ∧ Grown w w' := by
  obtain ⟨a, rfl⟩ : ∃ a : Nat, x = a := ⟨x.toNat, by omega⟩
  obtain ⟨b, rfl⟩ : ∃ b : Nat, y = b := ⟨y.toNat, by omega⟩
  rw [hiZ_nat, loZ_nat]
  exact zzmul_any a b (by omega) (by omega) w

theorem grown_trans {a b c : World} (h : Grown a b) (k : Grown b c) : Grown a c :=
  ⟨World.keptBut_trans h.1 k.1, fun x => (k.2.1 x).trans (h.2.1 x), Nat.le_trans h.2.2 k.2.2⟩
end Go.Proofs.Qxb6613035a
