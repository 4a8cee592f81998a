import Derived.Test.Qxb6613009aErr
import Derived.WalkKit
import Derived.Below
import Derived.OpenShut
import Derived.Deep.QuietTactic
import Derived.BigQuiet
import Derived.WalkSmall
import Derived.Deep.RegionHeld3
namespace Go.Proofs.Qxb6613009a
open Go.RowKit

theorem own_cap {w : World} {B n cap : Nat} {a : Option Addr} {xs : List Value} (h : w.ownsRow B 5 1 (.slice a n cap) n xs) : n ≤ cap := by
  rcases h.2 with ⟨he, rfl⟩ | ⟨g, cap', cur, he, hB, hg, hnc, _⟩
  · omega
  · simp only [Value.slice.injEq] at he
    obtain ⟨rfl, _, rfl⟩ := he
    exact hnc

/-- ZZu32, the number told as an Int. -/
theorem zzu32_int (B n : Nat) (v : Int) (h0 : 0 ≤ v) (h1 : v < 4294967296) (sv : Value) (zs : List Int) (w : World) (hown : w.ownsRow B 5 1 sv n (zs.map (Value.int .u8))) (hBw : B ≤ w.heap.size) (hlim : n + 4 ≤ 140737488355328) :
    Calls Try.prog 15 #[sv, .int .u32 v] w fun e w' => ∃ v', e = .returned v' ∧ w'.ownsRow B 5 1 v' (n + 4) ((zs ++ le4 v).map (Value.int .u8)) ∧ Below B w w' := by
  obtain ⟨m, rfl⟩ : ∃ m : Nat, v = m := ⟨v.toNat, by omega⟩
  rw [List.map_append]
  exact zzu32_own B n m (by omega) sv _ w hown hBw hlim

/-- 'uint32(m) | uint32(j)<<16' is a sum. -/
theorem or_word (m j : Int) (l0 : 0 ≤ m) (u0 : m ≤ 65535) (l1 : 0 ≤ j) (u1 : j ≤ 255) : bits .or .u32 (IntKind.u32.wrap m) (IntKind.u32.wrap (IntKind.u32.wrap j * 65536)) = m + j * 65536 := by
  have e1 : IntKind.u32.wrap m = m := by rw [IntKind.wrap_u32]; omega
  have e2 : IntKind.u32.wrap j = j := by rw [IntKind.wrap_u32]; omega
  have e3 : IntKind.u32.wrap (j * 65536) = j * 65536 := by rw [IntKind.wrap_u32]; omega
  rw [e1, e2, e3]
  exact u32_or16 _ _ l0 (by omega) (by omega) (by omega) (by omega)

theorem le4_of (b0 b1 b2 b3 : Int) (l0 : 0 ≤ b0) (u0 : b0 ≤ 255) (l1 : 0 ≤ b1) (u1 : b1 ≤ 255) (l2 : 0 ≤ b2) (u2 : b2 ≤ 255) : le4 (b0 + b1 * 256 + b2 * 65536 + b3 * 16777216) = [b0, b1, b2, b3] := by
  unfold le4
  rw [show (b0 + b1 * 256 + b2 * 65536 + b3 * 16777216) % 256 = b0 by omega, show (b0 + b1 * 256 + b2 * 65536 + b3 * 16777216) / 256 % 256 = b1 by omega, show (b0 + b1 * 256 + b2 * 65536 + b3 * 16777216) / 65536 % 256 = b2 by omega, show (b0 + b1 * 256 + b2 * 65536 + b3 * 16777216) / 16777216 = b3 by omega]
end Go.Proofs.Qxb6613009a
namespace Go.Proofs.Qxb6613009a.fnDecodeErrorFieldsRewrittenGiveBackTheirBytes
open Go.RowKit

set_option maxHeartbeats 400000 in
theorem zzb_yes (a : Option Addr) (n cap : Nat) (hn : n ≤ 1048576) (w : World) :
    Calls Try.prog 17 #[.slice a n cap] w fun e w' => e = .returned (.bool true) ∧ w = w' := by
  go_enter Try.func17, Try.ntmps17
  go_wp2
  go_ret
  exact ⟨rfl, rfl⟩

set_option maxHeartbeats 400000 in
theorem zzb_no (a : Option Addr) (n cap : Nat) (hn : 1048576 < n) (w : World) :
    Calls Try.prog 17 #[.slice a n cap] w fun e w' => e = .returned (.bool false) ∧ w = w' := by
  go_enter Try.func17, Try.ntmps17
  go_wp2
  go_ret
  exact ⟨rfl, rfl⟩

set_option maxHeartbeats 400000 in
theorem walk_no (a0 : Option Addr) (n cap : Nat) (w : World) (hn : 1048576 < n) :
    Calls Try.prog 6 #[.slice a0 n cap] w fun e w' => e = .returned (.bool true) ∧ Below w.heap.size w w' := by
  go_enter Try.func6, Try.ntmps6
  go_wp2_with (go_at_call 17; refine (zzb_no _ _ _ hn _).mono ?_; rintro e w' ⟨rfl, rfl⟩)
  go_ret
  exact ⟨rfl, Below.refl _ _⟩

set_option maxHeartbeats 400000 in
theorem walk_short (a0 : Option Addr) (n cap : Nat) (w : World) (hn : n < 11) :
    Calls Try.prog 6 #[.slice a0 n cap] w fun e w' => e = .returned (.bool true) ∧ Below w.heap.size w w' := by
  have hn2 : n ≤ 1048576 := by omega
  go_enter Try.func6, Try.ntmps6
  go_wp2_with (go_at_call 17; refine (zzb_yes _ _ _ hn2 _).mono ?_; rintro e w' ⟨rfl, rfl⟩)
  go_ret
  exact ⟨rfl, Below.refl _ _⟩

/-- What the packet's bytes are. -/
theorem bytes_of (a : Option Addr) (len cap : Nat) (zs : List Int) (w : World) (hr : IsRow .u8 w a len cap zs) (h0 : 0 < len) : (zs.take len).length = len ∧ ∀ j, j < len → 0 ≤ (zs.take len).getD j 0 ∧ (zs.take len).getD j 0 ≤ 255 := by
  rcases hr with ⟨_, rfl, _, rfl⟩ | ⟨x, _, h1, _, h2, _, hw⟩
  · omega
  · refine ⟨by rw [List.length_take]; omega, fun j hj => ?_⟩
    have hjz : j < zs.length := by omega
    have e : (zs.take len).getD j 0 = zs[j] := by simp [List.getD, hj, hjz]
    rw [e]
    exact bounds_u8 (hw _ (List.getElem_mem hjz))

theorem again (zs : List Int) (x0 x1 x4 x5 x6 x7 x8 x9 x10 : Int) (h : zs.getD 4 0 = x4 ∧ zs.getD 5 0 = x5 ∧ zs.getD 6 0 = x6 ∧ zs.getD 7 0 = x7 ∧ zs.getD 8 0 = x8 ∧ zs.getD 9 0 = x9 ∧ zs.getD 10 0 = x10) (k : Nat) (h1 : 4 ≤ k) (h2 : k < 11) :
    ([x0, x1, 0, 0, x4, x5, x6, x7, x8, x9, x10, 0] : List Int).getD k 0 = zs.getD k 0 := by
  obtain ⟨h4, h5, h6, h7, h8, h9, h10⟩ := h
  match k, h1, h2 with
  | 4, _, _ => exact h4.symm
  | 5, _, _ => exact h5.symm
  | 6, _, _ => exact h6.symm
  | 7, _, _ => exact h7.symm
  | 8, _, _ => exact h8.symm
  | 9, _, _ => exact h9.symm
  | 10, _, _ => exact h10.symm

set_option maxHeartbeats 4000000 in
theorem walk_yes (a0 : Option Addr) (n cap : Nat) (z0 : List Int) (w : World) (w0 : IsRow .u8 w a0 n cap z0) (hn : n ≤ 1048576) (h11 : 11 ≤ n) :
    Calls Try.prog 6 #[.slice a0 n cap] w fun e w' => e = .returned (.bool true) ∧ Below w.heap.size w w' := by
  obtain ⟨hzl, hby⟩ := bytes_of a0 n cap z0 w w0 (by omega)
  have hcl := clone_row a0 n cap z0 w w0 (by omega)
  generalize z0.take n = zs at hcl hzl hby
  clear w0
  have HC : Hid _ := hcl
  have HB : Hid _ := hby
  clear hcl hby
  go_enter Try.func6, Try.ntmps6
  go_wp2_with (go_at_call 17; refine (zzb_yes _ _ _ hn _).mono ?_; rintro e w' ⟨rfl, rfl⟩)
  refine Calls.mono HC.out ?_
  clear HC
  rintro e w1 ⟨vb, rfl, hob, hb1⟩
  obtain ⟨ab, cb, rfl⟩ := own_shape hob
  obtain ⟨gb, rfl, hBg, hgb, hcb⟩ := own_at hob (by omega)
  have hcap := own_cap hob
  have c0 := hcb 0 (by omega); have c1 := hcb 1 (by omega); have c4 := hcb 4 (by omega); have c5 := hcb 5 (by omega); have c6 := hcb 6 (by omega); have c7 := hcb 7 (by omega); have c8 := hcb 8 (by omega); have c9 := hcb 9 (by omega); have c10 := hcb 10 (by omega)
  obtain ⟨l4, u4⟩ := HB.out 4 (by omega); obtain ⟨l5, u5⟩ := HB.out 5 (by omega); obtain ⟨l6, u6⟩ := HB.out 6 (by omega); obtain ⟨l7, u7⟩ := HB.out 7 (by omega)
  obtain ⟨l8, u8⟩ := HB.out 8 (by omega); obtain ⟨l9, u9⟩ := HB.out 9 (by omega); obtain ⟨l10, u10⟩ := HB.out 10 (by omega)
  have HC : Hid (∀ j, j < n → w1.cell? ⟨gb, j, none⟩ = some (.int .u8 (zs.getD j 0))) := hcb
  clear hcb hob HB
  generalize h0 : zs.getD 0 0 = x0 at c0
  generalize h1 : zs.getD 1 0 = x1 at c1
  generalize h4 : zs.getD 4 0 = x4 at c4 l4 u4
  generalize h5 : zs.getD 5 0 = x5 at c5 l5 u5
  generalize h6 : zs.getD 6 0 = x6 at c6 l6 u6
  generalize h7 : zs.getD 7 0 = x7 at c7 l7 u7
  generalize h8 : zs.getD 8 0 = x8 at c8 l8 u8
  generalize h9 : zs.getD 9 0 = x9 at c9 l9 u9
  generalize h10 : zs.getD 10 0 = x10 at c10 l10 u10
  have HX : Hid (zs.getD 4 0 = x4 ∧ zs.getD 5 0 = x5 ∧ zs.getD 6 0 = x6 ∧ zs.getD 7 0 = x7 ∧ zs.getD 8 0 = x8 ∧ zs.getD 9 0 = x9 ∧ zs.getD 10 0 = x10) := ⟨h4, h5, h6, h7, h8, h9, h10⟩
  clear h0 h1 h4 h5 h6 h7 h8 h9 h10
  have hd := zzdecode_any gb n cb x1 x4 x5 x6 x7 x8 x9 x10 l4 u4 l5 u5 l6 u6 l7 u7 l8 u8 l9 u9 w1 h11 hcap c1 c4 c5 c6 c7 c8 c9 c10
  have HD : Hid _ := hd
  clear hd c4 c5 c6 c7 c8 c9 c10
  go_wp2_with fail
  refine Calls.mono HD.out ?_
  clear HD
  rintro e w2 ⟨ge, rfl, hge, e0, e1, e2, e3, hb2⟩
  generalize hM : x8 + x9 * 256 = M at e2
  generalize hV : x4 + x5 * 256 + x6 * 65536 + x7 * 16777216 = V at e3
  have hM0 : 0 ≤ M := by omega
  have hM1 : M ≤ 65535 := by omega
  have hV0 : 0 ≤ V := by omega
  have hV1 : V < 4294967296 := by omega
  have HM : Hid _ := hM
  have HV : Hid _ := hV
  clear hM hV
  have c0' := (hb2.cell (p := ⟨gb, 0, none⟩) hgb).trans c0
  have hgb2 : gb < w2.heap.size := Nat.lt_of_lt_of_le hgb hb2.size
  have n0 : 0 < n := by omega
  go_wp2_with fail
  go_region_held3 (fun w' => w'.cell? ⟨gb, 0, none⟩ = some (.int .u8 x0) ∧ w'.cell? ⟨ge, 0, none⟩ = some (.int .u8 x1)) (go_keep)
    (first
      | (go_at_call 14; refine (zzrequest_any x0 x1 _).mono ?_; rintro e w3 ⟨v3, rfl, ho3, hb3⟩; have k0 := (hb3.cell (p := ⟨gb, 0, none⟩) hgb2).trans c0'; have k1 := (hb3.cell (p := ⟨ge, 0, none⟩) hge).trans e0))
  have hb23 : Below w2.heap.size w2 w3 := ⟨hb3.os, hb3.tape, hb3.output, hb3.size, hb3.block⟩
  have ho3' : w3.ownsRow w2.heap.size 5 1 v3 4 (([x0, x1, 0, 0] : List Int).map (Value.int .u8)) := ho3
  have e3' := (hb23.cell (p := ⟨ge, 3, none⟩) hge).trans e3
  clear hb3 ho3 k0 k1
  go_wp2_with fail
  refine (zzu32_int w2.heap.size 4 V hV0 hV1 v3 _ _ ho3' hb23.size (by omega)).mono ?_
  rintro e w4 ⟨v4, rfl, ho4, hb4⟩
  have hb24 : Below w2.heap.size w2 w4 := hb23.trans hb4
  have e1' := (hb24.cell (p := ⟨ge, 1, none⟩) hge).trans e1
  have e2' := (hb24.cell (p := ⟨ge, 2, none⟩) hge).trans e2
  clear hb4 hb23 ho3' e3'
  obtain ⟨V2, hV2⟩ : ∃ V2, V2 = M + x10 * 65536 := ⟨_, rfl⟩
  have hor : bits .or .u32 (IntKind.u32.wrap M) (IntKind.u32.wrap (IntKind.u32.wrap x10 * 65536)) = V2 := by rw [hV2]; exact or_word M x10 hM0 hM1 l10 u10
  have hV20 : 0 ≤ V2 := by omega
  have hV21 : V2 < 4294967296 := by omega
  have HV2 : Hid _ := hV2
  clear hV2
  go_wp2_with fail
  go_region_held3 (fun w' => w'.cell? ⟨ge, 1, none⟩ = some (.int .u8 x10) ∧ w'.cell? ⟨ge, 2, none⟩ = some (.int .u16 M)) (go_keep)
    (first
      | (go_at_call 15; refine (zzu32_int w2.heap.size 8 V2 hV20 hV21 v4 ([x0, x1, 0, 0] ++ le4 V) _ (by exact ho4) (by exact hb24.size) (by omega)).mono ?_; rintro e w5 ⟨v5, rfl, ho5, hb5⟩; have k1 := (hb5.cell (p := ⟨ge, 1, none⟩) hge).trans e1'; have k2 := (hb5.cell (p := ⟨ge, 2, none⟩) hge).trans e2'))
  have hb45 : Below w2.heap.size w4 w5 := ⟨hb5.os, hb5.tape, hb5.output, hb5.size, hb5.block⟩
  have hb25 : Below w2.heap.size w2 w5 := hb24.trans hb45
  have hb15 : Below w1.heap.size w1 w5 := hb2.trans (hb25.mono hb2.size)
  have hB : Below w.heap.size w w5 := hb1.trans (hb15.mono hb1.size)
  have eV : le4 V = [x4, x5, x6, x7] := by rw [← HV.out]; exact le4_of x4 x5 x6 x7 l4 u4 l5 u5 l6 u6
  have eV2 : le4 V2 = [x8, x9, x10, 0] := by
    have e : V2 = x8 + x9 * 256 + x10 * 65536 + 0 * 16777216 := by rw [HV2.out, ← HM.out]; omega
    rw [e]; exact le4_of x8 x9 x10 0 l8 u8 l9 u9 l10 u10
  have ho6 : w5.ownsRow w2.heap.size 5 1 v5 12 (([x0, x1, 0, 0, x4, x5, x6, x7, x8, x9, x10, 0] : List Int).map (Value.int .u8)) := by
    have := ho5
    rw [eV, eV2] at this
    exact this
  clear hor eV eV2 ho5 hb5 hb45 hb24 hb1 k1 k2 ho4 e1' e2'
  obtain ⟨ar, cr, rfl⟩ := own_shape ho6
  obtain ⟨gr, rfl, -, hgr, hcr⟩ := own_at ho6 (by omega)
  have hcapr := own_cap ho6
  have HR : Hid (∀ j, j < 12 → w5.cell? ⟨gr, j, none⟩ = some (.int .u8 (([x0, x1, 0, 0, x4, x5, x6, x7, x8, x9, x10, 0] : List Int).getD j 0))) := hcr
  have r1 : w5.cell? ⟨gr, 1, none⟩ = some (.int .u8 x1) := hcr 1 (by omega)
  have s1 : w5.cell? ⟨gb, 1, none⟩ = some (.int .u8 x1) := (hb15.cell (p := ⟨gb, 1, none⟩) hgb).trans c1
  have n1 : (1 : Int) < (n : Int) := by omega
  clear hcr ho6 c0 c1 c0' n0
  go_wp2_with fail
  go_quiet (fail)
  go_wp2_with fail
  go_loopw [5] (fun i wr => ∃ k : Nat, 4 ≤ k ∧ k ≤ 11 ∧ i = .int .i64 k ∧ Below w5.heap.size w5 wr) (fun i _ => 11 - (intOf i).toNat)
  case atStart => exact ⟨4, by omega, by omega, rfl, below_drewN (Below.refl _ _) _⟩
  case round =>
    obtain ⟨k, hk0, hk, rfl, hbr⟩ := hrel
    by_cases hlt : k < 11
    · have hx : wr.cell? ⟨gb, k, none⟩ = some (.int .u8 (zs.getD k 0)) := by
        rw [hbr.cell (p := ⟨gb, k, none⟩) (by exact Nat.lt_of_lt_of_le hgb hb15.size), hb15.cell (p := ⟨gb, k, none⟩) hgb, HC.out k (by omega)]
      have hy : wr.cell? ⟨gr, k, none⟩ = some (.int .u8 (zs.getD k 0)) := by
        rw [hbr.cell (p := ⟨gr, k, none⟩) hgr, HR.out k (by omega), again zs x0 x1 x4 x5 x6 x7 x8 x9 x10 HX.out k hk0 hlt]
      clear r1 s1
      generalize zs.getD k 0 = z at hx hy
      have hlti : (k : Int) < (n : Int) := by omega
      have hltr : (k : Int) < 12 := by omega
      go_wp2_with fail
      go_quiet (fail)
      go_wp2
      go_roundw
      case rel => exact ⟨k + 1, by omega, by omega, by go_num, below_drewN hbr _⟩
      case measure => simp [intOf]; omega
    · have q1 : wr.cell? ⟨gr, 1, none⟩ = some (.int .u8 x1) := (hbr.cell (p := ⟨gr, 1, none⟩) hgr).trans (HR.out 1 (by omega))
      have q4 : wr.cell? ⟨gr, 4, none⟩ = some (.int .u8 x4) := (hbr.cell (p := ⟨gr, 4, none⟩) hgr).trans (HR.out 4 (by omega))
      have q5 : wr.cell? ⟨gr, 5, none⟩ = some (.int .u8 x5) := (hbr.cell (p := ⟨gr, 5, none⟩) hgr).trans (HR.out 5 (by omega))
      have q6 : wr.cell? ⟨gr, 6, none⟩ = some (.int .u8 x6) := (hbr.cell (p := ⟨gr, 6, none⟩) hgr).trans (HR.out 6 (by omega))
      have q7 : wr.cell? ⟨gr, 7, none⟩ = some (.int .u8 x7) := (hbr.cell (p := ⟨gr, 7, none⟩) hgr).trans (HR.out 7 (by omega))
      have q8 : wr.cell? ⟨gr, 8, none⟩ = some (.int .u8 x8) := (hbr.cell (p := ⟨gr, 8, none⟩) hgr).trans (HR.out 8 (by omega))
      have q9 : wr.cell? ⟨gr, 9, none⟩ = some (.int .u8 x9) := (hbr.cell (p := ⟨gr, 9, none⟩) hgr).trans (HR.out 9 (by omega))
      have q10 : wr.cell? ⟨gr, 10, none⟩ = some (.int .u8 x10) := (hbr.cell (p := ⟨gr, 10, none⟩) hgr).trans (HR.out 10 (by omega))
      have hd := zzdecode_any gr 12 cr x1 x4 x5 x6 x7 x8 x9 x10 l4 u4 l5 u5 l6 u6 l7 u7 l8 u8 l9 u9 wr (by omega) hcapr q1 q4 q5 q6 q7 q8 q9 q10
      rw [HM.out, HV.out] at hd
      have HD : Hid _ := hd
      clear hd q1 q4 q5 q6 q7 q8 q9 q10 r1 s1
      go_wp2_with fail
      refine Calls.mono HD.out ?_
      clear HD
      rintro e w6 ⟨g2, rfl, hg2, f0, f1, f2, f3, hb6⟩
      have hb56 : Below w5.heap.size w5 w6 := hbr.trans (hb6.mono hbr.size)
      have hb26 : Below w2.heap.size w2 w6 := hb25.trans (hb56.mono hb25.size)
      have g0 := (hb26.cell (p := ⟨ge, 0, none⟩) hge).trans e0
      have g1 := (hb26.cell (p := ⟨ge, 1, none⟩) hge).trans e1
      have g2' := (hb26.cell (p := ⟨ge, 2, none⟩) hge).trans e2
      have g3 := (hb26.cell (p := ⟨ge, 3, none⟩) hge).trans e3
      clear e0 e1 e2 e3
      go_wp2_with fail
      go_quiet (fail)
      go_wp2_with fail
      go_ret
      exact ⟨rfl, hB.trans ((below_drewN hb56 _).mono hB.size)⟩
end Go.Proofs.Qxb6613009a.fnDecodeErrorFieldsRewrittenGiveBackTheirBytes
