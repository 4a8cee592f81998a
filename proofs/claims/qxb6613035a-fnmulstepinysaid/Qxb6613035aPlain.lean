import Derived.Test.Qxb6613035aBase
namespace Go.Proofs.Qxb6613035a

theorem prod_lt (x y : Int) (x0 : 0 ≤ x) (x1 : x < 18446744073709551616) (y0 : 0 ≤ y) (y1 : y < 18446744073709551616) : 0 ≤ x * y ∧ x * y ≤ 340282366920938463426481119284349108225 := by
  obtain ⟨a, rfl⟩ : ∃ a : Nat, x = a := ⟨x.toNat, by omega⟩
  obtain ⟨b, rfl⟩ : ∃ b : Nat, y = b := ⟨y.toNat, by omega⟩
  have h : a * b ≤ 18446744073709551615 * 18446744073709551615 := Nat.mul_le_mul (by omega) (by omega)
  rw [Mul64.mulN]
  omega

theorem hi_zero (x : Int) : hiZ x 0 = 0 := by unfold hiZ; rw [Int.mul_zero]; rfl
theorem lo_zero (x : Int) : loZ x 0 = 0 := by unfold loZ; rw [Int.mul_zero]; rfl
theorem lo_wrap (x y : Int) : IntKind.u64.wrap (x * y) = loZ x y := by unfold loZ; rw [IntKind.wrap_u64]

theorem step_lo (x y : Int) : IntKind.u64.wrap (loZ x y + x) = loZ x (y + 1) := by
  unfold loZ
  rw [Int.mul_add, Int.mul_one, IntKind.wrap_u64]
  generalize x * y = p
  omega

theorem step_plain (x y : Int) (x0 : 0 ≤ x) (x1 : x < 18446744073709551616) (y0 : 0 ≤ y) (y1 : y < 18446744073709551615) (h : ¬ loZ x (y + 1) < loZ x y) : IntKind.u64.wrap (hiZ x y) = hiZ x (y + 1) := by
  have hb := prod_lt x y x0 x1 y0 (by omega)
  unfold loZ at h
  unfold hiZ
  rw [Int.mul_add, Int.mul_one] at h ⊢
  rw [IntKind.wrap_u64]
  generalize x * y = p at *
  omega

theorem step_carry (x y : Int) (x0 : 0 ≤ x) (x1 : x < 18446744073709551616) (y0 : 0 ≤ y) (y1 : y < 18446744073709551615) (h : loZ x (y + 1) < loZ x y) : IntKind.u64.wrap (hiZ x y + 1) = hiZ x (y + 1) := by
  have hb := prod_lt x (y + 1) x0 x1 (by omega) (by omega)
  have hb0 := prod_lt x y x0 x1 y0 (by omega)
  unfold loZ at h
  unfold hiZ
  rw [Int.mul_add, Int.mul_one] at h hb ⊢
  rw [IntKind.wrap_u64]
  generalize x * y = p at *
  omega
end Go.Proofs.Qxb6613035a
