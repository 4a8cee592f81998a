import Derived.Test.Qxb6613009aRows
import Derived.WalkKit
import Derived.OwnWalk
import Derived.Below
import Derived.Lib.SliceRun
namespace Go.Proofs.Qxb6613009a
open Go.RowKit

theorem Try.info5 : (Try.prog.info? 5).map (fun i => (i.zero, i.size, i.bytes)) = some (some (.int .u8 0), 1, 1) := by kernel_rfl

/-- The four bytes of v, the least first. -/
def le4 (v : Int) : List Int := [v % 256, v / 256 % 256, v / 65536 % 256, v / 16777216]

set_option maxHeartbeats 1000000 in
set_option maxRecDepth 100000 in
/-- binary.LittleEndian.AppendUint32 onto a slice that the call owns. -/
theorem append32 (B n v : Nat) (hv : v < 4294967296) (sv : Value) (xs : List Value) (w : World) (hown : w.ownsRow B 5 1 sv n xs) (hBw : B ≤ w.heap.size) (hlim : n + 4 ≤ 140737488355328) :
    Calls Try.prog 25 #[.agg #[], sv, .int .u32 v] w fun e w' => ∃ v', e = .returned v' ∧ w'.ownsRow B 5 1 v' (n + 4) (xs ++ (le4 v).map (Value.int .u8)) ∧ Below B w w' := by
  obtain ⟨i0, hi, hz0, hz1, hz2⟩ := info_parts Try.info5
  go_enter Try.func25, Try.ntmps25
  go_wp2_with (at_builtin; refine wpList_append_own _ rfl _ _ 22 rfl B 5 i0 (.int .u8 0) 1 1 Try.underlying22 hi hz0 hz1 hz2 rfl (by decide) _ _ _ rfl ((hown.alloc _).alloc _) _ 4 4 [Value.int .u8 ((v : Int) % 256), Value.int .u8 ((v : Int) / 256 % 256), Value.int .u8 ((v : Int) / 65536 % 256), Value.int .u8 ((v : Int) / 16777216)] rfl rfl ?c1 ?c2 ?c3 ?c4 ?c5 ?_)
  case c1 =>
    intro j u hj
    match j, hj with
    | 0, hj => simp at hj; subst hj; simp [Addr.add]
    | 1, hj => simp at hj; subst hj; simp [Addr.add]
    | 2, hj => simp at hj; subst hj; simp [Addr.add]
    | 3, hj => simp at hj; subst hj; simp [Addr.add]
  case c2 => intro u hu; simp at hu; rcases hu with rfl | rfl | rfl | rfl <;> rfl
  case c3 => unfold maxLen; omega
  case c4 => omega
  case c5 => simp; omega
  intro v' w2 hown' hgrow _
  go_wp2
  go_ret
  refine ⟨v', rfl, hown', ?_⟩
  exact ((((Below.refl B w).alloc hBw _).alloc (by simp; omega) _).grown hgrow (by simp; omega) (fun k hk => (hown.lt k hk).1))

set_option maxHeartbeats 400000 in
/-- (builder).u32 onto a slice that the call owns. -/
theorem u32_own (B n v : Nat) (hv : v < 4294967296) (sv : Value) (xs : List Value) (w : World) (hown : w.ownsRow B 5 1 sv n xs) (hBw : B ≤ w.heap.size) (hlim : n + 4 ≤ 140737488355328) :
    Calls Try.prog 21 #[sv, .int .u32 v] w fun e w' => ∃ v', e = .returned v' ∧ w'.ownsRow B 5 1 v' (n + 4) (xs ++ (le4 v).map (Value.int .u8)) ∧ Below B w w' := by
  go_enter Try.func21, Try.ntmps21
  go_wp2_with fail
  refine (append32 B n v hv sv xs _ hown hBw hlim).mono ?_
  rintro e w1 ⟨v', rfl, h1, h2⟩
  go_wp2
  go_ret
  exact ⟨v', rfl, h1, h2⟩

set_option maxHeartbeats 400000 in
/-- xproto.ZZu32 onto a slice that the call owns. -/
theorem zzu32_own (B n v : Nat) (hv : v < 4294967296) (sv : Value) (xs : List Value) (w : World) (hown : w.ownsRow B 5 1 sv n xs) (hBw : B ≤ w.heap.size) (hlim : n + 4 ≤ 140737488355328) :
    Calls Try.prog 15 #[sv, .int .u32 v] w fun e w' => ∃ v', e = .returned v' ∧ w'.ownsRow B 5 1 v' (n + 4) (xs ++ (le4 v).map (Value.int .u8)) ∧ Below B w w' := by
  go_enter Try.func15, Try.ntmps15
  go_wp2_with fail
  refine (u32_own B n v hv sv xs _ hown hBw hlim).mono ?_
  rintro e w1 ⟨v', rfl, h1, h2⟩
  go_wp2
  go_ret
  exact ⟨v', rfl, h1, h2⟩

/-! ### cloneBytesB1 -/
theorem Try.nil22 : ∀ (w : World) (a : Option Addr) (n c n' c' : Nat), (binOp .eql 22 (.slice a n c) (.slice none n' c')).run Try.prog w = .ok (.bool a.isNone) w := fun w a n c n' c' => Lib.run_eql_slice_nil w _ _ a n c n' c' Try.underlying22

set_option maxHeartbeats 400000 in
theorem clone_nil (w : World) : Calls Try.prog 9 #[.slice none 0 0] w fun e w' => e = .returned (.slice none 0 0) ∧ w' = w := by
  have q22 := Try.nil22
  go_enter Try.func9, Try.ntmps9
  go_wp2
  go_ret
  exact ⟨rfl, rfl⟩

/-- The first k of zs, then zeros up to zs's length. -/
def part (zs : List Int) (k : Nat) : List Int := zs.take k ++ List.replicate (zs.length - k) 0

theorem part_set (zs : List Int) (k : Nat) (hk : k < zs.length) : (part zs k).set k (zs.getD k 0) = part zs (k + 1) := by
  unfold part
  have e : zs.length - k = (zs.length - (k + 1)) + 1 := by omega
  rw [e, List.replicate_succ, List.set_append_right _ _ (by simp [List.length_take]; omega)]
  have e2 : k - (zs.take k).length = 0 := by simp [List.length_take]; omega
  have e3 : zs.getD k 0 = zs[k] := by simp [List.getD, hk]
  rw [e2, List.set_cons_zero, List.take_succ_eq_append_getElem hk, e3, List.append_assoc]
  rfl

theorem part_cells (zs : List Int) (k : Nat) (hk : k < zs.length) : ((part zs k).map (Value.int .u8)).set k (.int .u8 (zs.getD k 0)) = (part zs (k + 1)).map (Value.int .u8) := by
  rw [← part_set zs k hk, List.map_set]

theorem part_all (zs : List Int) : part zs zs.length = zs := by simp [part]

theorem part_zero (zs : List Int) : (part zs 0).map (Value.int .u8) = (madeCells #[Value.int .u8 0] zs.length).toList := by
  rw [toList_madeCells_one]; simp [part]

set_option maxHeartbeats 1000000 in
theorem clone_some (b off n cap : Nat) (zs : List Int) (hz : zs.length = n) (hn : n ≤ 1048576) (w : World) (hc : ∀ j, j < n → w.cell? ⟨b, off + j, none⟩ = some (.int .u8 (zs.getD j 0))) :
    Calls Try.prog 9 #[.slice (some ⟨b, off, none⟩) n cap] w fun e w' => ∃ v', e = .returned v' ∧ w'.ownsRow w.heap.size 5 1 v' n (zs.map (Value.int .u8)) ∧ Below w.heap.size w w' := by
  have q22 := Try.nil22
  obtain ⟨i0, hi, hz0, hz1, hz2⟩ := info_parts Try.info5
  have hbw : 0 < n → b < w.heap.size := fun h => World.block_lt_of_cell? w ⟨b, off + 0, none⟩ (hc 0 h)
  subst hz
  have HP : Hid _ := part_zero zs
  go_enter Try.func9, Try.ntmps9
  go_wp2_with (at_make; refine wpList_make_full _ rfl _ _ 22 rfl w.heap.size 5 i0 (.int .u8 0) 1 Try.underlying22 hi hz0 hz1 _ _ _ _ zs.length rfl rfl rfl rfl ?c1 ?c2 ?c3 ?_)
  case c1 => rw [hz2]; omega
  case c2 => unfold maxLen; omega
  case c3 => exact Nat.le_refl _
  intro w1 hown hgrow
  have hb1 : Below w.heap.size w w1 := (Below.refl _ _).grown hgrow (Nat.le_refl _) (fun k hk => by cases hk)
  rw [← HP.out] at hown
  clear hgrow HP
  go_wp2
  go_loopw [4] (fun i wr => ∃ k : Nat, k ≤ zs.length ∧ i = .int .i64 k ∧ wr.ownsRow w.heap.size 5 1 (.slice (some ⟨w.heap.size, 0, none⟩) zs.length zs.length) zs.length ((part zs k).map (Value.int .u8)) ∧ Below w.heap.size w wr) (fun i _ => zs.length - (intOf i).toNat)
  case atStart => exact ⟨0, Nat.zero_le _, rfl, hown, hb1⟩
  case round =>
    obtain ⟨k, hk, rfl, hr, hb⟩ := hrel
    clear hown hb1
    by_cases hlt : k < zs.length
    · obtain ⟨z, hzk⟩ : ∃ z, z = zs.getD k 0 := ⟨_, rfl⟩
      have hx : wr.cell? ⟨b, off + k, none⟩ = some (.int .u8 z) := by rw [hzk]; exact (hb.cell (p := ⟨b, off + k, none⟩) (hbw (by omega))).trans (hc k hlt)
      have hf := hr.frozenAt k
      obtain ⟨u, hcu⟩ : ∃ u, wr.cell? ⟨w.heap.size, k, none⟩ = some u := ⟨_, (hr.cellAt k (by omega)).trans (List.getElem?_eq_getElem (by have := hr.1; omega))⟩
      have hs := (hr.stored k (.int .u8 z)).1
      have hpc := part_cells zs k hlt
      rw [← hzk] at hpc
      rw [hpc] at hs
      have hb2 := hb.setCell (p := ⟨w.heap.size, k, none⟩) (Nat.le_refl _) (.int .u8 z)
      clear hzk hpc hr hb hc
      go_wp2
      go_roundw
      case rel => exact ⟨k + 1, by omega, by go_num, hs, hb2⟩
      case measure => simp [intOf]; omega
    · go_wp2
      go_ret
      have e : k = zs.length := by omega
      subst e
      rw [part_all] at hr
      exact ⟨_, rfl, hr, hb⟩

set_option maxHeartbeats 400000 in
theorem clone_empty (x : Addr) (cap : Nat) (w : World) :
    Calls Try.prog 9 #[.slice (some x) 0 cap] w fun e w' => ∃ v', e = .returned v' ∧ w'.ownsRow w.heap.size 5 1 v' 0 [] ∧ Below w.heap.size w w' := by
  have q22 := Try.nil22
  obtain ⟨i0, hi, hz0, hz1, hz2⟩ := info_parts Try.info5
  go_enter Try.func9, Try.ntmps9
  go_wp2_with (at_make; refine wpList_make_full _ rfl _ _ 22 rfl w.heap.size 5 i0 (.int .u8 0) 1 Try.underlying22 hi hz0 hz1 _ _ _ _ 0 rfl rfl rfl rfl ?c1 ?c2 ?c3 ?_)
  case c1 => omega
  case c2 => unfold maxLen; omega
  case c3 => exact Nat.le_refl _
  intro w1 hown hgrow
  have hb1 : Below w.heap.size w w1 := (Below.refl _ _).grown hgrow (Nat.le_refl _) (fun k hk => by cases hk)
  have hown' : w1.ownsRow w.heap.size 5 1 (.slice (some ⟨w.heap.size, 0, none⟩) 0 0) 0 [] := by rw [toList_madeCells_one] at hown; exact hown
  clear hgrow hown
  go_wp2
  go_loop [4] (fun i => i = .int .i64 0) (fun i => 0)
  case atStart => rfl
  case round =>
    subst hrel
    go_wp2
    go_ret
    exact ⟨_, rfl, hown', hb1⟩

/-- WHAT THE WALK IS TOLD OF A SLICE OF INTEGERS THAT CAME IN (the shells' own word). -/
def IsRow (k : IntKind) (w : World) (a : Option Addr) (len cap : Nat) (zs : List Int) : Prop :=
  (a = none ∧ len = 0 ∧ cap = 0 ∧ zs = []) ∨
  ∃ x, a = some x ∧ len ≤ cap ∧ cap ≤ maxLen ∧ zs.length = cap ∧ (∀ i, i < zs.length → w.cell? (x.add i) = some (.int k (zs.getD i 0))) ∧ ∀ n ∈ zs, (Lit.int k n).wf = true

/-- cloneBytesB1 at whatever slice of bytes came in. -/
theorem clone_row (a : Option Addr) (len cap : Nat) (zs : List Int) (w : World) (hr : IsRow .u8 w a len cap zs) (hn : len ≤ 1048576) :
    Calls Try.prog 9 #[.slice a len cap] w fun e w' => ∃ v', e = .returned v' ∧ w'.ownsRow w.heap.size 5 1 v' len ((zs.take len).map (Value.int .u8)) ∧ Below w.heap.size w w' := by
  rcases hr with ⟨rfl, rfl, rfl, rfl⟩ | ⟨x, rfl, hlc, hm, hz, hc, _⟩
  · refine (clone_nil w).mono ?_
    rintro e w' ⟨rfl, rfl⟩
    exact ⟨_, rfl, World.ownsRow_nil _ _ _ _, Below.refl _ _⟩
  · by_cases h0 : len = 0
    · subst h0
      exact clone_empty x cap w
    · obtain ⟨b, off, spot⟩ := x
      have hspot : spot = none := by simpa [Addr.add] using World.cell?_spot (hc 0 (by omega))
      subst hspot
      refine clone_some b off len cap (zs.take len) (by rw [List.length_take]; omega) hn w (fun j hj => ?_)
      have := hc j (by omega)
      rw [Addr.add_lit] at this
      rw [this]
      simp [List.getD, hj]

/-- cloneBytesB1 at a slice that the call owns. -/
theorem clone_own (B n : Nat) (v : Value) (zs : List Int) (w : World) (hown : w.ownsRow B 5 1 v n (zs.map (Value.int .u8))) (hn : n ≤ 1048576) :
    Calls Try.prog 9 #[v] w fun e w' => ∃ v', e = .returned v' ∧ w'.ownsRow w.heap.size 5 1 v' n (zs.map (Value.int .u8)) ∧ Below w.heap.size w w' := by
  have hl : zs.length = n := by have := hown.1; simpa using this
  rcases hown.2 with ⟨rfl, rfl⟩ | ⟨g, cap, cur, rfl, _⟩
  · have : zs = [] := List.eq_nil_of_length_eq_zero hl
    subst this
    refine (clone_nil w).mono ?_
    rintro e w' ⟨rfl, rfl⟩
    exact ⟨_, rfl, World.ownsRow_nil _ _ _ _, Below.refl _ _⟩
  · refine clone_some g 0 n cap zs hl hn w (fun j hj => ?_)
    have := hown.cellAt j (by omega)
    rw [Nat.zero_add, this]
    simp [List.getD, hl, hj]

/-! ### WHAT AN OWNED ROW OF BYTES IS GOOD FOR -/
theorem own_shape {w : World} {B n : Nat} {v : Value} {xs : List Value} (h : w.ownsRow B 5 1 v n xs) : ∃ a cap, v = .slice a n cap := by
  rcases h.2 with ⟨rfl, rfl⟩ | ⟨g, cap, cur, rfl, _⟩
  · exact ⟨_, _, rfl⟩
  · exact ⟨_, _, rfl⟩

/-- Where there is an element there is an address, and the cells lie there. -/
theorem own_at {w : World} {B n cap : Nat} {a : Option Addr} {zs : List Int} (h : w.ownsRow B 5 1 (.slice a n cap) n (zs.map (Value.int .u8))) (hn : 0 < n) :
    ∃ g, a = some ⟨g, 0, none⟩ ∧ B ≤ g ∧ g < w.heap.size ∧ ∀ j, j < n → w.cell? ⟨g, j, none⟩ = some (.int .u8 (zs.getD j 0)) := by
  have hl : zs.length = n := by have := h.1; simpa using this
  rcases h.2 with ⟨_, rfl⟩ | ⟨g, cap', cur, he, hB, hg, _⟩
  · omega
  · simp only [Value.slice.injEq] at he
    obtain ⟨rfl, _, rfl⟩ := he
    refine ⟨g, rfl, hB, (Array.getElem?_eq_some_iff.1 hg).1, fun j hj => ?_⟩
    rw [h.cellAt j (by omega)]
    simp [List.getD, hl, hj]

/-- An owned row stays owned where all that lay when it was owned lies as it did. -/
theorem own_below {w w' : World} {B n : Nat} {v : Value} {xs : List Value} (h : w.ownsRow B 5 1 v n xs) (hb : Below w.heap.size w w') : w'.ownsRow B 5 1 v n xs := by
  refine ⟨h.1, ?_⟩
  rcases h.2 with hn | ⟨g, cap, cur, rfl, hB, hg, rest⟩
  · exact .inl hn
  · exact .inr ⟨g, cap, cur, rfl, hB, (hb.block g (Array.getElem?_eq_some_iff.1 hg).1).trans hg, rest⟩

theorem getD_left {zs ys : List Int} {k : Nat} (h : k < zs.length) : (zs ++ ys).getD k 0 = zs.getD k 0 := by
  simp [List.getD, List.getElem?_append_left h]
theorem getD_right {zs ys : List Int} {n k : Nat} (h : zs.length = n) : (zs ++ ys).getD (n + k) 0 = ys.getD k 0 := by
  subst h
  simp only [List.getD, List.getElem?_append_right (Nat.le_add_right _ _), Nat.add_sub_cancel_left]
theorem ret_true {b : Bool} (h : b = true) : Ending.returned (.bool b) = .returned (.bool true) := by rw [h]

/-! ### the guard of the law on u32 -/
set_option maxHeartbeats 400000 in
theorem zzb32_yes (a : Option Addr) (n cap : Nat) (v : Int) (hn : n ≤ 1048576) (w : World) :
    Calls Try.prog 18 #[.slice a n cap, .int .u32 v] w fun e w' => e = .returned (.bool true) ∧ w = w' := by
  go_enter Try.func18, Try.ntmps18
  go_wp2
  go_ret
  exact ⟨rfl, rfl⟩

set_option maxHeartbeats 400000 in
theorem zzb32_no (a : Option Addr) (n cap : Nat) (v : Int) (hn : 1048576 < n) (w : World) :
    Calls Try.prog 18 #[.slice a n cap, .int .u32 v] w fun e w' => e = .returned (.bool false) ∧ w = w' := by
  go_enter Try.func18, Try.ntmps18
  go_wp2
  go_ret
  exact ⟨rfl, rfl⟩

end Go.Proofs.Qxb6613009a
