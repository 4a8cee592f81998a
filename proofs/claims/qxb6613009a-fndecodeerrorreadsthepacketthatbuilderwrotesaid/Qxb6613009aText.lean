import Derived.Test.Qxb6613009aBase
import Derived.Test.Qxb6613009aZeros
import Derived.Lib.AppendStr
import Derived.Laws.BitsAllLaws
import Derived.Laws.Bits64b
namespace Go.Proofs.Qxb6613009a
open Go.RowKit

/-- How many bytes make n a multiple of four. -/
def padOf (n : Nat) : Nat := (4 - n % 4) % 4

theorem and_three (x : Int) : bits .and .i64 x 3 = x % 4 := by
  show IntKind.i64.wrap ((BitVec.ofInt 64 x &&& BitVec.ofInt 64 3).toNat : Int) = _
  have h3 : (BitVec.ofInt 64 3).toNat = 3 := by decide
  rw [BitVec.toNat_and, h3, nat_mask2, BitVec.toNat_ofInt, IntKind.wrap_i64]
  omega

theorem neg_and_three (n : Nat) : bits .and .i64 (-(n : Int)) 3 = (padOf n : Int) := by
  rw [and_three]; unfold padOf; omega

set_option maxHeartbeats 400000 in
theorem padding_any (n : Nat) (hn : n ≤ 1048580) (w : World) :
    Calls Try.prog 24 #[.int .i64 n] w fun e w' => e = .returned (.int .i64 (padOf n)) ∧ w = w' := by
  go_enter Try.func24, Try.ntmps24
  go_wp2
  go_ret
  exact ⟨congrArg (fun x => Ending.returned (Value.int .i64 x)) (neg_and_three n), rfl⟩

set_option maxHeartbeats 400000 in
theorem pad_own (B n m : Nat) (sv : Value) (xs : List Value) (w : World) (hown : w.ownsRow B 5 1 sv n xs) (hBw : B ≤ w.heap.size) (hlim : n + m ≤ 140737488355328) :
    Calls Try.prog 23 #[sv, .int .i64 m] w fun e w' => ∃ v', e = .returned v' ∧ w'.ownsRow B 5 1 v' (n + m) (xs ++ zeros m) ∧ Below B w w' := by
  obtain ⟨i0, hi, hz0, hz1, hz2⟩ := info_parts Try.info5
  go_enter Try.func23, Try.ntmps23
  go_wp2_with (at_builtin; refine wpList_append_own_zeros _ rfl _ _ 40 3 rfl B 5 i0 .i64 .i64 Try.underlying40 Try.underlying3 hi hz0 hz1 hz2 _ _ _ rfl hown m rfl hlim hBw ?_)
  intro v' w1 h1 hg
  go_wp2
  go_ret
  exact ⟨v', rfl, h1, (Below.refl B w).grown hg hBw (fun k hk => (hown.lt k hk).1)⟩

set_option maxHeartbeats 400000 in
theorem text_own (B n : Nat) (s : ByteArray) (sv : Value) (xs : List Value) (w : World) (hown : w.ownsRow B 5 1 sv n xs) (hBw : B ≤ w.heap.size) (hlim : n ≤ 1048592) (hs : s.size ≤ 1048579) :
    Calls Try.prog 19 #[sv, .string s] w fun e w' => ∃ v', e = .returned v' ∧ w'.ownsRow B 5 1 v' (n + s.size + padOf s.size) (xs ++ Lib.strCells s ++ zeros (padOf s.size)) ∧ Below B w w' := by
  have hp : padOf s.size ≤ 3 := by unfold padOf; omega
  obtain ⟨i0, hi, hz0, hz1, hz2⟩ := info_parts Try.info5
  go_enter Try.func19, Try.ntmps19
  go_wp2_with (at_builtin; refine Lib.wpList_append_own_string _ rfl _ _ 40 9 rfl B 5 i0 Try.underlying40 Try.underlying9 hi hz0 hz1 hz2 _ _ _ rfl hown s rfl ?c3 ?c4 hBw ?_)
  case c3 => unfold maxLen; omega
  case c4 => omega
  intro v1 w1 h1 hg _
  have hb1 : Below B w w1 := (Below.refl B w).grown hg hBw (fun k hk => (hown.lt k hk).1)
  clear hg
  go_wp2_with fail
  refine (padding_any _ (by omega) _).mono ?_
  rintro e w2 ⟨rfl, rfl⟩
  go_wp2_with fail
  refine (pad_own B _ _ _ _ _ h1 (Nat.le_trans hBw hb1.size) (by omega)).mono ?_
  rintro e w3 ⟨v', rfl, h2, hb2⟩
  go_wp2
  go_ret
  exact ⟨v', rfl, h2, hb1.trans hb2⟩

set_option maxHeartbeats 400000 in
theorem zztext_own (B n : Nat) (s : ByteArray) (sv : Value) (xs : List Value) (w : World) (hown : w.ownsRow B 5 1 sv n xs) (hBw : B ≤ w.heap.size) (hlim : n ≤ 1048592) (hs : s.size ≤ 1048579) :
    Calls Try.prog 10 #[sv, .string s] w fun e w' => ∃ v', e = .returned v' ∧ w'.ownsRow B 5 1 v' (n + s.size + padOf s.size) (xs ++ Lib.strCells s ++ zeros (padOf s.size)) ∧ Below B w w' := by
  go_enter Try.func10, Try.ntmps10
  go_wp2_with fail
  refine (text_own B n s sv xs _ hown hBw hlim hs).mono ?_
  rintro e w1 ⟨v', rfl, h1, h2⟩
  go_wp2
  go_ret
  exact ⟨v', rfl, h1, h2⟩

/-- A string's bytes, as numbers. -/
def sb (s : ByteArray) : List Int := s.data.toList.map fun b => (b.toNat : Int)
/-- What text writes: the bytes and the zeros behind them. -/
def tx (s : ByteArray) : List Int := sb s ++ List.replicate (padOf s.size) 0

theorem sb_cells (s : ByteArray) : Lib.strCells s = (sb s).map (Value.int .u8) := by simp [Lib.strCells, sb]
theorem sb_length (s : ByteArray) : (sb s).length = s.size := by
  rw [sb, List.length_map, Array.length_toList]; rfl
theorem zeros_cells (m : Nat) : zeros m = (List.replicate m (0 : Int)).map (Value.int .u8) := by simp [zeros]
theorem tx_length (s : ByteArray) : (tx s).length = s.size + padOf s.size := by rw [tx, List.length_append, sb_length, List.length_replicate]
theorem tx_low (s : ByteArray) (k : Nat) (h : k < s.size) : (tx s).getD k 0 = ((s[k]'h).toNat : Int) := by
  rw [tx, getD_left (by rw [sb_length]; exact h)]
  have h2 : k < s.data.toList.length := by rw [Array.length_toList]; exact h
  simp only [List.getD, sb, List.getElem?_map, List.getElem?_eq_getElem h2]
  rfl
theorem tx_high (s : ByteArray) (k : Nat) (h : s.size ≤ k) : (tx s).getD k 0 = 0 := by
  rw [tx, show k = s.size + (k - s.size) by omega, getD_right (sb_length s)]
  simp only [List.getD, List.getElem?_replicate]
  split <;> rfl

/-- ZZtext, told in numbers. -/
theorem zztext_ints (B n : Nat) (s : ByteArray) (sv : Value) (zs : List Int) (w : World) (hown : w.ownsRow B 5 1 sv n (zs.map (Value.int .u8))) (hBw : B ≤ w.heap.size) (hlim : n ≤ 1048592) (hs : s.size ≤ 1048579) (T : Nat) (hT : T = s.size + padOf s.size) :
    Calls Try.prog 10 #[sv, .string s] w fun e w' => ∃ v', e = .returned v' ∧ w'.ownsRow B 5 1 v' (n + T) ((zs ++ tx s).map (Value.int .u8)) ∧ Below B w w' := by
  refine (zztext_own B n s sv _ w hown hBw hlim hs).mono ?_
  rintro e w1 ⟨v', rfl, h1, h2⟩
  refine ⟨v', rfl, ?_, h2⟩
  rw [hT, tx, ← Nat.add_assoc, List.map_append, List.map_append, ← sb_cells, ← zeros_cells, ← List.append_assoc]
  exact h1

theorem text_size (s : ByteArray) : ∃ T, T = s.size + padOf s.size ∧ (T : Int) % 4 = 0 ∧ s.size ≤ T ∧ T < s.size + 4 :=
  ⟨_, rfl, by unfold padOf; omega, by omega, by unfold padOf; omega⟩

/-! ### the guard of the law on text -/
set_option maxHeartbeats 400000 in
theorem zzbT_yes (a : Option Addr) (n cap : Nat) (s : ByteArray) (hn : n + s.size ≤ 1048576) (w : World) :
    Calls Try.prog 8 #[.slice a n cap, .string s] w fun e w' => e = .returned (.bool true) ∧ w = w' := by
  go_enter Try.func8, Try.ntmps8
  go_wp2
  go_ret
  exact ⟨rfl, rfl⟩

set_option maxHeartbeats 400000 in
theorem zzbT_no (a : Option Addr) (n cap : Nat) (s : ByteArray) (hm : s.size ≤ maxLen) (hn : 1048576 < n + s.size) (w : World) :
    Calls Try.prog 8 #[.slice a n cap, .string s] w fun e w' => e = .returned (.bool false) ∧ w = w' := by
  unfold maxLen at hm
  by_cases h1 : 1048576 < n
  · go_enter Try.func8, Try.ntmps8
    go_wp2
    go_ret
    exact ⟨rfl, rfl⟩
  · by_cases h2 : 1048576 < s.size
    · go_enter Try.func8, Try.ntmps8
      go_wp2
      go_ret
      exact ⟨rfl, rfl⟩
    · go_enter Try.func8, Try.ntmps8
      go_wp2
      go_ret
      exact ⟨rfl, rfl⟩
end Go.Proofs.Qxb6613009a
