import Derived.Test.Qxb6613009aText
import Derived.WalkKit
import Derived.Below
import Derived.Lib.EndianBits
import Derived.Deep.QuietTactic
import Derived.BigQuiet
import Derived.WalkSmall
import Derived.Deep.RegionHeld3
namespace Go.Proofs.Qxb6613009a
open Go.RowKit

/-! ### request -/
set_option maxHeartbeats 400000 in
theorem request_any (a b : Int) (w : World) :
    Calls Try.prog 20 #[.int .u8 a, .int .u8 b] w fun e w' => ∃ v', e = .returned v' ∧ w'.ownsRow w.heap.size 5 1 v' 4 (([a, b, 0, 0] : List Int).map (Value.int .u8)) ∧ Below w.heap.size w w' := by
  go_enter Try.func20, Try.ntmps20
  go_wp2
  go_ret
  exact ⟨_, rfl, World.ownsRow_lit w #[.int .u8 a, .int .u8 b, .int .u8 0, .int .u8 0] 4 (Nat.le_refl _) (by decide) rfl, (Below.refl _ _).alloc (Nat.le_refl _) _⟩

set_option maxHeartbeats 400000 in
theorem zzrequest_any (a b : Int) (w : World) :
    Calls Try.prog 14 #[.int .u8 a, .int .u8 b] w fun e w' => ∃ v', e = .returned v' ∧ w'.ownsRow w.heap.size 5 1 v' 4 (([a, b, 0, 0] : List Int).map (Value.int .u8)) ∧ Below w.heap.size w w' := by
  go_enter Try.func14, Try.ntmps14
  go_wp2_with fail
  refine (request_any a b _).mono ?_
  rintro e w1 ⟨v', rfl, h1, h2⟩
  go_wp2
  go_ret
  exact ⟨v', rfl, h1, h2⟩

/-! ### the two readers -/
theorem or_le32 (b0 b1 b2 b3 : Int) (l0 : 0 ≤ b0) (u0 : b0 ≤ 255) (l1 : 0 ≤ b1) (u1 : b1 ≤ 255) (l2 : 0 ≤ b2) (u2 : b2 ≤ 255) (l3 : 0 ≤ b3) (u3 : b3 ≤ 255) :
    bits .or .u32 (bits .or .u32 (bits .or .u32 b0 (b1 * 256)) (b2 * 65536)) (b3 * 16777216) = b0 + b1 * 256 + b2 * 65536 + b3 * 16777216 := by
  rw [u32_or8 b0 (b1 * 256) l0 (by omega) (by omega) (by omega) (by omega), u32_or16 (b0 + b1 * 256) (b2 * 65536) (by omega) (by omega) (by omega) (by omega) (by omega), u32_or24 (b0 + b1 * 256 + b2 * 65536) (b3 * 16777216) (by omega) (by omega) (by omega) (by omega) (by omega)]
theorem or_le16 (b0 b1 : Int) (l0 : 0 ≤ b0) (u0 : b0 ≤ 255) (l1 : 0 ≤ b1) (u1 : b1 ≤ 255) : bits .or .u16 b0 (b1 * 256) = b0 + b1 * 256 := by
  rw [u16_or8 b0 (b1 * 256) l0 (by omega) (by omega) (by omega) (by omega)]

set_option maxHeartbeats 1000000 in
theorem le32_read (g o n c : Nat) (b0 b1 b2 b3 : Int) (l0 : 0 ≤ b0) (u0 : b0 ≤ 255) (l1 : 0 ≤ b1) (u1 : b1 ≤ 255) (l2 : 0 ≤ b2) (u2 : b2 ≤ 255) (l3 : 0 ≤ b3) (u3 : b3 ≤ 255) (w : World) (hn : 4 ≤ n)
    (c0 : w.cell? ⟨g, o, none⟩ = some (.int .u8 b0)) (c1 : w.cell? ⟨g, o + 1, none⟩ = some (.int .u8 b1)) (c2 : w.cell? ⟨g, o + 2, none⟩ = some (.int .u8 b2)) (c3 : w.cell? ⟨g, o + 3, none⟩ = some (.int .u8 b3)) :
    Calls Try.prog 26 #[.agg #[], .slice (some ⟨g, o, none⟩) n c] w fun e w' => e = .returned (.int .u32 (b0 + b1 * 256 + b2 * 65536 + b3 * 16777216)) ∧ ∃ q, w' = (w.alloc (.cells #[] 47)).drewN q := by
  have hg : g < w.heap.size := World.block_lt_of_cell? w ⟨g, o, none⟩ c0
  have n0 : 0 < n := by omega
  have n1 : (1 : Int) < (n : Int) := by omega
  have n2 : (2 : Int) < (n : Int) := by omega
  have n3 : (3 : Int) < (n : Int) := by omega
  go_enter Try.func26, Try.ntmps26
  go_wp2_with fail
  go_quiet (fail)
  go_wp2_with fail
  go_ret
  exact ⟨congrArg (fun x => Ending.returned (Value.int .u32 x)) (or_le32 b0 b1 b2 b3 l0 u0 l1 u1 l2 u2 l3 u3), _, rfl⟩

set_option maxHeartbeats 1000000 in
theorem le16_read (g o n c : Nat) (b0 b1 : Int) (l0 : 0 ≤ b0) (u0 : b0 ≤ 255) (l1 : 0 ≤ b1) (u1 : b1 ≤ 255) (w : World) (hn : 2 ≤ n)
    (c0 : w.cell? ⟨g, o, none⟩ = some (.int .u8 b0)) (c1 : w.cell? ⟨g, o + 1, none⟩ = some (.int .u8 b1)) :
    Calls Try.prog 27 #[.agg #[], .slice (some ⟨g, o, none⟩) n c] w fun e w' => e = .returned (.int .u16 (b0 + b1 * 256)) ∧ ∃ q, w' = (w.alloc (.cells #[] 47)).drewN q := by
  have hg : g < w.heap.size := World.block_lt_of_cell? w ⟨g, o, none⟩ c0
  have n0 : 0 < n := by omega
  have n1 : (1 : Int) < (n : Int) := by omega
  go_enter Try.func27, Try.ntmps27
  go_wp2_with fail
  go_quiet (fail)
  go_wp2_with fail
  go_ret
  exact ⟨congrArg (fun x => Ending.returned (Value.int .u16 x)) (or_le16 b0 b1 l0 u0 l1 u1), _, rfl⟩

/-- A cell of the block that was laid last. -/
theorem cell_new (W : World) (cs : Array Value) (t : TypeId) (j N : Nat) (v : Value) (h : cs[j]? = some v) (hN : W.heap.size = N) : (W.alloc (.cells cs t)).cell? ⟨N, j, none⟩ = some v := by
  subst hN
  rw [cell_of_row _ _ j cs t (0, 0) (heap_alloc_new W _), h]

/-! ### decodeError -/
set_option maxHeartbeats 2000000 in
theorem decode_any (g n c : Nat) (x1 x4 x5 x6 x7 x8 x9 x10 : Int) (l4 : 0 ≤ x4) (u4 : x4 ≤ 255) (l5 : 0 ≤ x5) (u5 : x5 ≤ 255) (l6 : 0 ≤ x6) (u6 : x6 ≤ 255) (l7 : 0 ≤ x7) (u7 : x7 ≤ 255)
    (l8 : 0 ≤ x8) (u8 : x8 ≤ 255) (l9 : 0 ≤ x9) (u9 : x9 ≤ 255) (w : World) (hn : 11 ≤ n) (hc : n ≤ c)
    (c1 : w.cell? ⟨g, 1, none⟩ = some (.int .u8 x1)) (c4 : w.cell? ⟨g, 4, none⟩ = some (.int .u8 x4)) (c5 : w.cell? ⟨g, 5, none⟩ = some (.int .u8 x5)) (c6 : w.cell? ⟨g, 6, none⟩ = some (.int .u8 x6)) (c7 : w.cell? ⟨g, 7, none⟩ = some (.int .u8 x7))
    (c8 : w.cell? ⟨g, 8, none⟩ = some (.int .u8 x8)) (c9 : w.cell? ⟨g, 9, none⟩ = some (.int .u8 x9)) (c10 : w.cell? ⟨g, 10, none⟩ = some (.int .u8 x10)) :
    Calls Try.prog 22 #[.slice (some ⟨g, 0, none⟩) n c] w fun e w' => ∃ ge, e = .returned (.pointer (some ⟨ge, 0, none⟩)) ∧ ge < w'.heap.size ∧ w'.cell? ⟨ge, 0, none⟩ = some (.int .u8 x1) ∧ w'.cell? ⟨ge, 1, none⟩ = some (.int .u8 x10) ∧
      w'.cell? ⟨ge, 2, none⟩ = some (.int .u16 (x8 + x9 * 256)) ∧ w'.cell? ⟨ge, 3, none⟩ = some (.int .u32 (x4 + x5 * 256 + x6 * 65536 + x7 * 16777216)) ∧ Below w.heap.size w w' := by
  have hg : g < w.heap.size := World.block_lt_of_cell? w ⟨g, 1, none⟩ c1
  have m4 : ¬ c = 4 := by omega
  have m8 : ¬ c = 8 := by omega
  have n1 : (1 : Int) < (n : Int) := by omega
  have n4 : (4 : Int) ≤ (n : Int) := by omega
  have n8 : (8 : Int) ≤ (n : Int) := by omega
  have n10 : (10 : Int) < (n : Int) := by omega
  go_enter Try.func22, Try.ntmps22
  go_wp2_with fail
  go_region_held3 (fun w' => w'.cell? ⟨g, 1, none⟩ = some (.int .u8 x1) ∧ w'.cell? ⟨g, 4, none⟩ = some (.int .u8 x4) ∧ w'.cell? ⟨g, 5, none⟩ = some (.int .u8 x5) ∧ w'.cell? ⟨g, 6, none⟩ = some (.int .u8 x6) ∧ w'.cell? ⟨g, 7, none⟩ = some (.int .u8 x7) ∧ w'.cell? ⟨g, 8, none⟩ = some (.int .u8 x8) ∧ w'.cell? ⟨g, 9, none⟩ = some (.int .u8 x9) ∧ w'.cell? ⟨g, 10, none⟩ = some (.int .u8 x10)) (go_keep)
    (first
      | (go_at_call 26; refine (le32_read g 4 _ _ x4 x5 x6 x7 l4 u4 l5 u5 l6 u6 l7 u7 _ ?_ ?_ ?_ ?_ ?_).mono ?_; omega; (simp [*]); (simp [*]); (simp [*]); (simp [*]); rintro e w' ⟨rfl, q, rfl⟩)
      | (go_at_call 27; refine (le16_read g 8 _ _ x8 x9 l8 u8 l9 u9 _ ?_ ?_ ?_).mono ?_; omega; (simp [*]); (simp [*]); rintro e w' ⟨rfl, q, rfl⟩))
  go_wp2
  go_ret
  refine ⟨w.heap.size + 1 + 1, rfl, by simp, ?_, ?_, ?_, ?_, ?_⟩
  · exact cell_new _ _ _ _ _ _ rfl (by simp)
  · exact cell_new _ _ _ _ _ _ rfl (by simp)
  · exact cell_new _ _ _ _ _ _ rfl (by simp)
  · exact cell_new _ _ _ _ _ _ rfl (by simp)
  · exact (below_drewN ((below_drewN ((Below.refl _ _).alloc (Nat.le_refl _) _) _).alloc (by simp) _) _).alloc (by simp; omega) _

set_option maxHeartbeats 400000 in
theorem zzdecode_any (g n c : Nat) (x1 x4 x5 x6 x7 x8 x9 x10 : Int) (l4 : 0 ≤ x4) (u4 : x4 ≤ 255) (l5 : 0 ≤ x5) (u5 : x5 ≤ 255) (l6 : 0 ≤ x6) (u6 : x6 ≤ 255) (l7 : 0 ≤ x7) (u7 : x7 ≤ 255)
    (l8 : 0 ≤ x8) (u8 : x8 ≤ 255) (l9 : 0 ≤ x9) (u9 : x9 ≤ 255) (w : World) (hn : 11 ≤ n) (hc : n ≤ c)
    (c1 : w.cell? ⟨g, 1, none⟩ = some (.int .u8 x1)) (c4 : w.cell? ⟨g, 4, none⟩ = some (.int .u8 x4)) (c5 : w.cell? ⟨g, 5, none⟩ = some (.int .u8 x5)) (c6 : w.cell? ⟨g, 6, none⟩ = some (.int .u8 x6)) (c7 : w.cell? ⟨g, 7, none⟩ = some (.int .u8 x7))
    (c8 : w.cell? ⟨g, 8, none⟩ = some (.int .u8 x8)) (c9 : w.cell? ⟨g, 9, none⟩ = some (.int .u8 x9)) (c10 : w.cell? ⟨g, 10, none⟩ = some (.int .u8 x10)) :
    Calls Try.prog 16 #[.slice (some ⟨g, 0, none⟩) n c] w fun e w' => ∃ ge, e = .returned (.pointer (some ⟨ge, 0, none⟩)) ∧ ge < w'.heap.size ∧ w'.cell? ⟨ge, 0, none⟩ = some (.int .u8 x1) ∧ w'.cell? ⟨ge, 1, none⟩ = some (.int .u8 x10) ∧
      w'.cell? ⟨ge, 2, none⟩ = some (.int .u16 (x8 + x9 * 256)) ∧ w'.cell? ⟨ge, 3, none⟩ = some (.int .u32 (x4 + x5 * 256 + x6 * 65536 + x7 * 16777216)) ∧ Below w.heap.size w w' := by
  have hd := decode_any g n c x1 x4 x5 x6 x7 x8 x9 x10 l4 u4 l5 u5 l6 u6 l7 u7 l8 u8 l9 u9 w hn hc c1 c4 c5 c6 c7 c8 c9 c10
  have HD : Hid _ := hd
  clear hd c1 c4 c5 c6 c7 c8 c9 c10
  go_enter Try.func16, Try.ntmps16
  go_wp2_with fail
  refine Calls.mono HD.out ?_
  rintro e w1 ⟨ge, rfl, h0, h1, h2, h3, h4, h5⟩
  go_wp2
  go_ret
  exact ⟨ge, rfl, h0, h1, h2, h3, h4, h5⟩
end Go.Proofs.Qxb6613009a
