import Derived.Test.Qxb6613009aText
import Derived.WalkKit
import Derived.Below
import Derived.Deep.QuietTactic
import Derived.BigQuiet
import Derived.WalkSmall
namespace Go.Proofs.Qxb6613009a.fnTextPadsWithZerosUpToTheNextWord
open Go.RowKit

/-! ### the plain part -/
/-- s and k zero bytes. -/
def zp (s : ByteArray) : Nat → ByteArray
  | 0 => s
  | k + 1 => zp s k ++ ⟨#[0]⟩

theorem zp_size (s : ByteArray) (k : Nat) : (zp s k).size = s.size + k := by
  induction k with
  | zero => rfl
  | succ k ih => rw [zp, ByteArray.size_append, ih]; rfl

theorem zp_sb (s : ByteArray) (k : Nat) : sb (zp s k) = sb s ++ List.replicate k 0 := by
  induction k with
  | zero => simp [zp]
  | succ k ih =>
    have e : sb (zp s k ++ ⟨#[0]⟩) = sb (zp s k) ++ [0] := by simp [sb]
    rw [zp, e, ih, List.append_assoc, List.replicate_succ']

theorem zp_tx (s : ByteArray) (k : Nat) : tx (zp s k) = sb s ++ List.replicate (k + padOf (s.size + k)) 0 := by
  rw [tx, zp_sb, zp_size, List.append_assoc, List.replicate_append_replicate]

theorem tx_same (s : ByteArray) (k : Nat) (hk : k ≤ padOf s.size) : tx (zp s k) = tx s := by
  rw [zp_tx, tx]
  congr 2
  unfold padOf at *
  omega

theorem tx_more (s : ByteArray) (k : Nat) (hk : padOf s.size < k) (h3 : k ≤ 3) : tx (zp s k) = tx s ++ [0, 0, 0, 0] := by
  rw [zp_tx, tx, List.append_assoc]
  congr 1
  have e : k + padOf (s.size + k) = padOf s.size + 4 := by unfold padOf at *; omega
  rw [e, ← List.replicate_append_replicate]
  rfl

theorem size_same (s : ByteArray) (k : Nat) (hk : k ≤ padOf s.size) : s.size + padOf s.size = (zp s k).size + padOf (zp s k).size := by
  rw [zp_size]; unfold padOf at *; omega
theorem size_more (s : ByteArray) (k : Nat) (hk : padOf s.size < k) (h3 : k ≤ 3) : s.size + padOf s.size + 4 = (zp s k).size + padOf (zp s k).size := by
  rw [zp_size]; unfold padOf at *; omega

/-! ### sameBytesB1 -/
set_option maxHeartbeats 1000000 in
theorem same_own (B1 B2 n : Nat) (v1 v2 : Value) (zs : List Int) (w : World) (h1 : w.ownsRow B1 5 1 v1 n (zs.map (Value.int .u8))) (h2 : w.ownsRow B2 5 1 v2 n (zs.map (Value.int .u8))) (hn : n ≤ 4194304) :
    Calls Try.prog 12 #[v1, v2] w fun e w' => e = .returned (.bool true) ∧ Below w.heap.size w w' := by
  obtain ⟨a1, c1, rfl⟩ := own_shape h1
  obtain ⟨a2, c2, rfl⟩ := own_shape h2
  go_enter Try.func12, Try.ntmps12
  go_wp2_with fail
  go_loopw [5] (fun i wr => ∃ k : Nat, k ≤ n ∧ i = .int .i64 k ∧ Below w.heap.size w wr) (fun i _ => n - (intOf i).toNat)
  case atStart => exact ⟨0, Nat.zero_le _, rfl, Below.refl _ _⟩
  case round =>
    obtain ⟨k, hk, rfl, hbr⟩ := hrel
    by_cases hlt : k < n
    · obtain ⟨g1, rfl, -, hg1, hc1⟩ := own_at h1 (by omega)
      obtain ⟨g2, rfl, -, hg2, hc2⟩ := own_at h2 (by omega)
      have hx : wr.cell? ⟨g1, k, none⟩ = some (.int .u8 (zs.getD k 0)) := (hbr.cell (p := ⟨g1, k, none⟩) hg1).trans (hc1 k hlt)
      have hy : wr.cell? ⟨g2, k, none⟩ = some (.int .u8 (zs.getD k 0)) := (hbr.cell (p := ⟨g2, k, none⟩) hg2).trans (hc2 k hlt)
      clear hc1 hc2
      generalize zs.getD k 0 = z at hx hy
      have hlti : (k : Int) < (n : Int) := by omega
      go_wp2_with fail
      go_quiet (fail)
      go_wp2
      go_roundw
      case rel => exact ⟨k + 1, by omega, by go_num, below_drewN hbr _⟩
      case measure => simp [intOf]; omega
    · go_wp2
      go_ret
      exact ⟨rfl, hbr⟩

/-! ### the guard -/
set_option maxHeartbeats 400000 in
theorem zzb_yes (a : Option Addr) (n cap : Nat) (s : ByteArray) (k : Int) (hn : n + s.size ≤ 1048576) (w : World) :
    Calls Try.prog 11 #[.slice a n cap, .string s, .int .i64 k] w fun e w' => e = .returned (.bool true) ∧ w = w' := by
  go_enter Try.func11, Try.ntmps11
  go_wp2
  go_ret
  exact ⟨rfl, rfl⟩

set_option maxHeartbeats 400000 in
theorem zzb_no (a : Option Addr) (n cap : Nat) (s : ByteArray) (k : Int) (hm : s.size ≤ maxLen) (hn : 1048576 < n + s.size) (w : World) :
    Calls Try.prog 11 #[.slice a n cap, .string s, .int .i64 k] w fun e w' => e = .returned (.bool false) ∧ w = w' := by
  unfold maxLen at hm
  by_cases h1 : 1048576 < n
  · go_enter Try.func11, Try.ntmps11
    go_wp2
    go_ret
    exact ⟨rfl, rfl⟩
  · by_cases h2 : 1048576 < s.size
    · go_enter Try.func11, Try.ntmps11
      go_wp2
      go_ret
      exact ⟨rfl, rfl⟩
    · go_enter Try.func11, Try.ntmps11
      go_wp2
      go_ret
      exact ⟨rfl, rfl⟩

set_option maxHeartbeats 400000 in
theorem walk_no (a0 : Option Addr) (n cap : Nat) (s : ByteArray) (k : Int) (w : World) (hm : s.size ≤ maxLen) (hn : 1048576 < n + s.size) :
    Calls Try.prog 4 #[.slice a0 n cap, .string s, .int .i64 k] w fun e w' => e = .returned (.bool true) ∧ Below w.heap.size w w' := by
  go_enter Try.func4, Try.ntmps4
  go_wp2_with (go_at_call 11; refine (zzb_no _ _ _ _ _ hm hn _).mono ?_; rintro e w' ⟨rfl, rfl⟩)
  go_ret
  exact ⟨rfl, Below.refl _ _⟩

set_option maxHeartbeats 400000 in
theorem walk_neg (a0 : Option Addr) (n cap : Nat) (s : ByteArray) (k : Int) (w : World) (hn : n + s.size ≤ 1048576) (hk : k < 0) :
    Calls Try.prog 4 #[.slice a0 n cap, .string s, .int .i64 k] w fun e w' => e = .returned (.bool true) ∧ Below w.heap.size w w' := by
  go_enter Try.func4, Try.ntmps4
  go_wp2_with (go_at_call 11; refine (zzb_yes _ _ _ _ _ hn _).mono ?_; rintro e w' ⟨rfl, rfl⟩)
  go_ret
  exact ⟨rfl, Below.refl _ _⟩

set_option maxHeartbeats 400000 in
theorem walk_big (a0 : Option Addr) (n cap : Nat) (s : ByteArray) (k : Int) (w : World) (hn : n + s.size ≤ 1048576) (hk : 3 < k) :
    Calls Try.prog 4 #[.slice a0 n cap, .string s, .int .i64 k] w fun e w' => e = .returned (.bool true) ∧ Below w.heap.size w w' := by
  have hk0 : ¬ k < 0 := by omega
  go_enter Try.func4, Try.ntmps4
  go_wp2_with (go_at_call 11; refine (zzb_yes _ _ _ _ _ hn _).mono ?_; rintro e w' ⟨rfl, rfl⟩)
  go_ret
  exact ⟨rfl, Below.refl _ _⟩
end Go.Proofs.Qxb6613009a.fnTextPadsWithZerosUpToTheNextWord
