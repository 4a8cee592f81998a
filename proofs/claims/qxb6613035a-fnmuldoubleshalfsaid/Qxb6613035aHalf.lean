import Derived.Test.Qxb6613035aPlain
import Derived.Laws.BitsLemmas
import Derived.WalkSmall
namespace Go.Proofs.Qxb6613035a

/-- Twice the product x * h: its two halves. -/
def dloZ (x h : Int) : Int := x * h * 2 % 18446744073709551616
def dhiZ (x h : Int) : Int := x * h * 2 / 18446744073709551616

theorem dlo_of (x h : Int) : IntKind.u64.wrap (loZ x h * 2) = dloZ x h := by
  unfold loZ dloZ
  rw [IntKind.wrap_u64]
  generalize x * h = q
  omega

theorem dhi_of (x h : Int) (x0 : 0 ≤ x) (x1 : x < 18446744073709551616) (h0 : 0 ≤ h) (h1 : h < 9223372036854775808) :
    bits .or .u64 (IntKind.u64.wrap (hiZ x h * 2)) (loZ x h / 9223372036854775808) = dhiZ x h := by
  have hb : 0 ≤ x * (h * 2) ∧ x * (h * 2) ≤ 340282366920938463426481119284349108225 := prod_lt x (h * 2) x0 x1 (by omega) (by omega)
  have e : x * (h * 2) = x * h * 2 := by rw [Int.mul_assoc]
  rw [e] at hb
  unfold hiZ loZ dhiZ
  rw [IntKind.wrap_u64]
  generalize x * h = q at *
  have h2 : q / 18446744073709551616 * 2 % 18446744073709551616 = q / 18446744073709551616 * 2 := by omega
  rw [h2]
  rw [bits_join .u64 64 (by decide) (fun n h₀ h₁ => by rw [IntKind.wrap_u64]; omega) 1 (q / 18446744073709551616 * 2) (q % 18446744073709551616 / 9223372036854775808) (by omega) (by omega) (by omega) (by omega) (by omega) (by omega)]
  omega

theorem odd_mul (x y : Int) (ho : y % 2 = 1) : x * y = x * (y / 2) * 2 + x := by
  have e : y = y / 2 * 2 + 1 := by omega
  calc x * y = x * (y / 2 * 2 + 1) := by rw [← e]
    _ = x * (y / 2) * 2 + x := by rw [Int.mul_add, Int.mul_one, Int.mul_assoc]
theorem even_mul (x y : Int) (ho : y % 2 = 0) : x * y = x * (y / 2) * 2 := by
  have e : y = y / 2 * 2 := by omega
  calc x * y = x * (y / 2 * 2) := by rw [← e]
    _ = x * (y / 2) * 2 := by rw [Int.mul_assoc]

theorem odd_lo (x y : Int) (ho : y % 2 = 1) : IntKind.u64.wrap (dloZ x (y / 2) + x) = loZ x y := by
  unfold dloZ loZ
  rw [odd_mul x y ho, IntKind.wrap_u64]
  generalize x * (y / 2) = q
  omega

theorem odd_plain (x y : Int) (x0 : 0 ≤ x) (x1 : x < 18446744073709551616) (ho : y % 2 = 1) (h : ¬ loZ x y < dloZ x (y / 2)) : dhiZ x (y / 2) = hiZ x y := by
  unfold dloZ loZ at h
  unfold dhiZ hiZ
  rw [odd_mul x y ho] at h ⊢
  generalize x * (y / 2) = q at *
  omega

theorem odd_carry (x y : Int) (x0 : 0 ≤ x) (x1 : x < 18446744073709551616) (y0 : 0 ≤ y) (y1 : y < 18446744073709551616) (ho : y % 2 = 1) (h : loZ x y < dloZ x (y / 2)) : IntKind.u64.wrap (dhiZ x (y / 2) + 1) = hiZ x y := by
  have hb := prod_lt x y x0 x1 y0 y1
  have hb2 := prod_lt x (y / 2) x0 x1 (by omega) (by omega)
  unfold dloZ loZ at h
  unfold dhiZ hiZ
  rw [odd_mul x y ho] at h hb ⊢
  rw [IntKind.wrap_u64]
  generalize x * (y / 2) = q at *
  omega

theorem even_lo (x y : Int) (ho : y % 2 = 0) : dloZ x (y / 2) = loZ x y := by unfold dloZ loZ; rw [even_mul x y ho]
theorem even_hi (x y : Int) (ho : y % 2 = 0) : dhiZ x (y / 2) = hiZ x y := by unfold dhiZ hiZ; rw [even_mul x y ho]

theorem hi_comm (x y : Int) : hiZ y x = hiZ x y := by unfold hiZ; rw [Int.mul_comm]
theorem lo_comm (x y : Int) : loZ y x = loZ x y := by unfold loZ; rw [Int.mul_comm]

theorem bit_odd (y : Int) (y0 : 0 ≤ y) (y1 : y < 18446744073709551616) (h : y % 2 = 1) : (bits .and .u64 y 1 == 1) = true := by
  rw [and_one_u64 y y0 (by omega), h]; rfl
theorem bit_even (y : Int) (y0 : 0 ≤ y) (y1 : y < 18446744073709551616) (h : y % 2 = 0) : (bits .and .u64 y 1 == 1) = false := by
  rw [and_one_u64 y y0 (by omega), h]; rfl
end Go.Proofs.Qxb6613035a
