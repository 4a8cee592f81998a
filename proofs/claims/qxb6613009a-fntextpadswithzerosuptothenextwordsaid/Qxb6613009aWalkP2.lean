import Derived.Test.Qxb6613009aWalkP
import Derived.WalkKit
import Derived.Below
import Derived.Deep.QuietTactic
import Derived.BigQuiet
import Derived.WalkSmall
namespace Go.Proofs.Qxb6613009a.fnTextPadsWithZerosUpToTheNextWord
open Go.RowKit

theorem four_zeros (rs : List Int) (m : Nat) (h : rs.length = m) (i : Nat) (hi : m ≤ i) : (rs ++ [0, 0, 0, 0]).getD i 0 = 0 := by
  obtain ⟨d, rfl⟩ : ∃ d, i = m + d := ⟨i - m, by omega⟩
  rw [getD_right h]
  match d with
  | 0 => rfl
  | 1 => rfl
  | 2 => rfl
  | 3 => rfl
  | d + 4 => rfl

set_option maxHeartbeats 4000000 in
theorem walk_yes (a0 : Option Addr) (n cap : Nat) (z0 : List Int) (s : ByteArray) (q : Nat) (w : World) (w0 : IsRow .u8 w a0 n cap z0) (hn : n + s.size ≤ 1048576) (hq3 : q ≤ 3) :
    Calls Try.prog 4 #[.slice a0 n cap, .string s, .int .i64 q] w fun e w' => e = .returned (.bool true) ∧ Below w.heap.size w w' := by
  have hzl : (z0.take n).length = n := by
    rcases w0 with ⟨_, rfl, _, rfl⟩ | ⟨x, _, h1, _, h2, _⟩
    · rfl
    · rw [List.length_take]; omega
  have hcl := clone_row a0 n cap z0 w w0 (by omega)
  generalize z0.take n = zs at hcl hzl
  clear w0
  have HC : Hid _ := hcl
  clear hcl
  have hp3 : padOf s.size ≤ 3 := by unfold padOf; omega
  obtain ⟨T, hT, hT4, hT1, hT2⟩ := text_size s
  have HT : Hid _ := hT
  clear hT
  have hk0 : ¬ (q : Int) < 0 := by omega
  have hk3 : ¬ (3 : Int) < (q : Int) := by omega
  go_enter Try.func4, Try.ntmps4
  go_wp2_with (go_at_call 11; refine (zzb_yes _ _ _ _ _ hn _).mono ?_; rintro e w' ⟨rfl, rfl⟩)
  refine Calls.mono HC.out ?_
  clear HC
  rintro e w1 ⟨vb, rfl, hob, hb1⟩
  go_wp2_with fail
  go_loop [7, 8] (fun z i => ∃ k : Nat, k ≤ q ∧ i = .int .i64 k ∧ z = .string (zp s k)) (fun _ i => q - (intOf i).toNat)
  case atStart => exact ⟨0, Nat.zero_le _, rfl, rfl⟩
  case round =>
    obtain ⟨k, hk, rfl, rfl⟩ := hrel
    have hzs := zp_size s k
    by_cases hlt : k < q
    · go_wp2
      go_round
      case rel => exact ⟨k + 1, by omega, by go_num, rfl⟩
      case measure => simp [intOf]; omega
    · have e : k = q := by omega
      subst e
      clear hk hlt
      go_wp2_with fail
      go_loop [9] (fun m => ∃ j : Nat, j ≤ padOf s.size ∧ m = .int .i64 j) (fun m => padOf s.size - (intOf m).toNat)
      case atStart => exact ⟨0, Nat.zero_le _, rfl⟩
      case round =>
        obtain ⟨j, hj, rfl⟩ := hrel
        by_cases hlt : j < padOf s.size
        · have hne : ¬ ((s.size : Int) + (j : Int)) % 4 = 0 := by unfold padOf at hlt; omega
          go_wp2
          go_round
          case rel => exact ⟨j + 1, by omega, by go_num⟩
          case measure => simp [intOf]; omega
        · have hpe : j = padOf s.size := by omega
          have heq : ((s.size : Int) + (j : Int)) % 4 = 0 := by rw [hpe]; unfold padOf; omega
          have HP : Hid _ := hpe
          have hj3 : j ≤ 3 := by omega
          clear hpe hlt hj
          obtain ⟨T2, hT2e⟩ : ∃ T2, T2 = (zp s k).size + padOf (zp s k).size := ⟨_, rfl⟩
          have hT2b : T2 ≤ T + 4 := by rw [hT2e, HT.out, zp_size]; unfold padOf; omega
          have HT2 : Hid _ := hT2e
          clear hT2e
          go_wp2_with fail
          refine (clone_own _ n vb zs _ hob (by omega)).mono ?_
          rintro e w2 ⟨vc, rfl, hoc, hb2⟩
          go_wp2_with fail
          refine (zztext_ints w1.heap.size n s vc _ _ hoc hb2.size (by omega) (by omega) T HT.out).mono ?_
          rintro e w3 ⟨v1, rfl, ho1, hb3⟩
          have hb13 : Below w1.heap.size w1 w3 := hb2.trans hb3
          have hob3 := own_below hob hb13
          clear hob hoc hb2 hb3
          go_wp2_with fail
          refine (clone_own _ n vb zs _ hob3 (by omega)).mono ?_
          rintro e w4 ⟨vd, rfl, hod, hb4⟩
          go_wp2_with fail
          refine (zztext_ints w3.heap.size n (zp s k) vd _ _ hod hb4.size (by omega) (by omega) T2 HT2.out).mono ?_
          rintro e w5 ⟨v2, rfl, ho2, hb5⟩
          have hb35 : Below w3.heap.size w3 w5 := hb4.trans hb5
          have hb15 : Below w1.heap.size w1 w5 := hb13.trans (hb35.mono hb13.size)
          have hB : Below w.heap.size w w5 := hb1.trans (hb15.mono hb1.size)
          have hob5 := own_below hob3 hb35
          have ho15 := own_below ho1 hb35
          clear hob3 ho1 hod hb1 hb4 hb5 hb13 hb35 hb15
          have HZ : Hid (zs.length = n) := hzl
          clear hzl
          obtain ⟨ab, cb, rfl⟩ := own_shape hob5
          obtain ⟨a1, c1, rfl⟩ := own_shape ho15
          obtain ⟨a2, c2, rfl⟩ := own_shape ho2
          go_wp2_with fail
          go_loopw [12] (fun i wr => ∃ k : Nat, k ≤ n ∧ i = .int .i64 k ∧ Below w5.heap.size w5 wr) (fun i _ => n - (intOf i).toNat)
          case atStart => exact ⟨0, Nat.zero_le _, rfl, Below.refl _ _⟩
          case round =>
            obtain ⟨i, hi, rfl, hbr⟩ := hrel
            by_cases hlt : i < n
            · obtain ⟨gb, rfl, -, hgb, hcb⟩ := own_at hob5 (by omega)
              obtain ⟨g1, rfl, -, hg1, hc1⟩ := own_at ho15 (by omega)
              have hx : wr.cell? ⟨gb, i, none⟩ = some (.int .u8 (zs.getD i 0)) := (hbr.cell (p := ⟨gb, i, none⟩) hgb).trans (hcb i hlt)
              have hy : wr.cell? ⟨g1, i, none⟩ = some (.int .u8 (zs.getD i 0)) := by
                rw [hbr.cell (p := ⟨g1, i, none⟩) hg1, hc1 i (by omega), getD_left (by have := HZ.out; omega)]
              clear hcb hc1
              generalize zs.getD i 0 = z at hx hy
              have hlti : (i : Int) < (n : Int) := by omega
              have hltr : (i : Int) < (n : Int) + (T : Int) := by omega
              go_wp2_with fail
              go_quiet (fail)
              go_wp2
              go_roundw
              case rel => exact ⟨i + 1, by omega, by go_num, below_drewN hbr _⟩
              case measure => simp [intOf]; omega
            · clear hi
              go_wp2_with fail
              go_loopw [13] (fun i wr => ∃ k : Nat, k ≤ s.size ∧ i = .int .i64 k ∧ Below w5.heap.size w5 wr) (fun i _ => s.size - (intOf i).toNat)
              case atStart => exact ⟨0, Nat.zero_le _, rfl, hbr⟩
              case round =>
                clear hbr
                obtain ⟨i, hi, rfl, hbr⟩ := hrel
                by_cases hlt : i < s.size
                · obtain ⟨g1, rfl, -, hg1, hc1⟩ := own_at ho15 (by omega)
                  have hy : wr.cell? ⟨g1, n + i, none⟩ = some (.int .u8 ((s[i]'hlt).toNat)) := by
                    rw [hbr.cell (p := ⟨g1, n + i, none⟩) hg1, hc1 (n + i) (by omega), getD_right HZ.out, tx_low s i hlt]
                  clear hc1
                  have hlti : (i : Int) < (s.size : Int) := by omega
                  have hltr : (n : Int) + (i : Int) < (n : Int) + (T : Int) := by omega
                  go_wp2_with fail
                  go_quiet (fail)
                  go_wp2
                  go_roundw
                  case rel => exact ⟨i + 1, by omega, by go_num, below_drewN hbr _⟩
                  case measure => simp [intOf]; omega
                · clear hi
                  by_cases hq : k ≤ j
                  · have hqp : k ≤ padOf s.size := by have := HP.out; omega
                    have eT : T2 = T := by rw [HT2.out, HT.out]; exact (size_same s k hqp).symm
                    have o1 := own_below ho15 hbr
                    have o2 := own_below ho2 hbr
                    rw [tx_same s k hqp] at o2
                    have o2' : wr.ownsRow w3.heap.size 5 1 (Value.slice a2 (n + T2) c2) (n + T) ((zs ++ tx s).map (Value.int .u8)) := by rw [eT] at o2 ⊢; exact o2
                    clear eT o2
                    go_wp2_with fail
                    refine (same_own _ _ (n + T) _ _ _ _ o1 o2' (by omega)).mono ?_
                    rintro e w6 ⟨rfl, hb6⟩
                    go_wp2
                    go_ret
                    exact ⟨rfl, hB.trans ((hbr.trans (hb6.mono hbr.size)).mono hB.size)⟩
                  · have hqp : padOf s.size < k := by have := HP.out; omega
                    have eT : T2 = T + 4 := by rw [HT2.out, HT.out]; exact (size_more s k hqp hq3).symm
                    have h1T : T + 4 ≤ T2 := by omega
                    have htx := tx_more s k hqp hq3
                    rw [htx, ← List.append_assoc] at ho2
                    have HL : Hid ((zs ++ tx s).length = n + T) := by
                      show (zs ++ tx s).length = n + T
                      rw [List.length_append, HZ.out, tx_length, HT.out]
                    clear eT htx hqp
                    generalize zs ++ tx s = rs at ho15 ho2 HL
                    go_wp2_with fail
                    go_loopw [14] (fun i wr => ∃ k : Nat, k ≤ n + T ∧ i = .int .i64 k ∧ Below w5.heap.size w5 wr) (fun i _ => n + T - (intOf i).toNat)
                    case atStart => exact ⟨0, Nat.zero_le _, rfl, hbr⟩
                    case round =>
                      clear hbr
                      obtain ⟨i, hi, rfl, hbr⟩ := hrel
                      by_cases hlt : i < n + T
                      · obtain ⟨g1, rfl, -, hg1, hc1⟩ := own_at ho15 (by omega)
                        obtain ⟨g2, rfl, -, hg2, hc2⟩ := own_at ho2 (by omega)
                        have hx : wr.cell? ⟨g1, i, none⟩ = some (.int .u8 (rs.getD i 0)) := (hbr.cell (p := ⟨g1, i, none⟩) hg1).trans (hc1 i hlt)
                        have hy : wr.cell? ⟨g2, i, none⟩ = some (.int .u8 (rs.getD i 0)) := by
                          rw [hbr.cell (p := ⟨g2, i, none⟩) hg2, hc2 i (by omega), getD_left (by have := HL.out; omega)]
                        clear hc1 hc2
                        generalize rs.getD i 0 = z at hx hy
                        have hlti : (i : Int) < (n : Int) + (T : Int) := by omega
                        have hltr : (i : Int) < (n : Int) + (T2 : Int) := by omega
                        go_wp2_with fail
                        go_quiet (fail)
                        go_wp2
                        go_roundw
                        case rel => exact ⟨i + 1, by omega, by go_num, below_drewN hbr _⟩
                        case measure => simp [intOf]; omega
                      · clear hi
                        go_wp2_with fail
                        go_loopw [15] (fun i wr => ∃ k : Nat, n + T ≤ k ∧ k ≤ n + T2 ∧ i = .int .i64 k ∧ Below w5.heap.size w5 wr) (fun i _ => n + T2 - (intOf i).toNat)
                        case atStart => exact ⟨n + T, Nat.le_refl _, by omega, by go_num, hbr⟩
                        case round =>
                          clear hbr
                          obtain ⟨i, hi0, hi, rfl, hbr⟩ := hrel
                          by_cases hlt : i < n + T2
                          · obtain ⟨g2, rfl, -, hg2, hc2⟩ := own_at ho2 (by omega)
                            have hy : wr.cell? ⟨g2, i, none⟩ = some (.int .u8 0) := by
                              rw [hbr.cell (p := ⟨g2, i, none⟩) hg2, hc2 i (by omega), four_zeros rs (n + T) HL.out i hi0]
                            clear hc2
                            have hltr : (i : Int) < (n : Int) + (T2 : Int) := by omega
                            go_wp2
                            go_roundw
                            case rel => exact ⟨i + 1, by omega, by omega, by go_num, hbr⟩
                            case measure => simp [intOf]; omega
                          · go_wp2
                            go_ret
                            exact ⟨rfl, hB.trans (hbr.mono hB.size)⟩
end Go.Proofs.Qxb6613009a.fnTextPadsWithZerosUpToTheNextWord
