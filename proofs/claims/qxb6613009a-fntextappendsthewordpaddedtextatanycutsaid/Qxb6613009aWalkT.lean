import Derived.Test.Qxb6613009aText
import Derived.WalkKit
import Derived.Below
import Derived.Deep.QuietTactic
import Derived.BigQuiet
import Derived.WalkSmall
namespace Go.Proofs.Qxb6613009a.fnTextAppendsTheWordPaddedTextAtAnyCut
open Go.RowKit

set_option maxHeartbeats 400000 in
theorem walk_no (a0 : Option Addr) (n cap : Nat) (s : ByteArray) (w : World) (hm : s.size ≤ maxLen) (hn : 1048576 < n + s.size) :
    Calls Try.prog 3 #[.slice a0 n cap, .string s] w fun e w' => e = .returned (.bool true) ∧ Below w.heap.size w w' := by
  go_enter Try.func3, Try.ntmps3
  go_wp2_with (go_at_call 8; refine (zzbT_no _ _ _ _ hm hn _).mono ?_; rintro e w' ⟨rfl, rfl⟩)
  go_ret
  exact ⟨rfl, Below.refl _ _⟩

set_option maxHeartbeats 2000000 in
theorem walk_yes (a0 : Option Addr) (n cap : Nat) (z0 : List Int) (s : ByteArray) (w : World) (w0 : IsRow .u8 w a0 n cap z0) (hn : n + s.size ≤ 1048576) :
    Calls Try.prog 3 #[.slice a0 n cap, .string s] w fun e w' => e = .returned (.bool true) ∧ Below w.heap.size w w' := by
  have hzl : (z0.take n).length = n := by
    rcases w0 with ⟨_, rfl, _, rfl⟩ | ⟨x, _, h1, _, h2, _⟩
    · rfl
    · rw [List.length_take]; omega
  have hcl := clone_row a0 n cap z0 w w0 (by omega)
  generalize z0.take n = zs at hcl hzl
  clear w0
  have HC : Hid _ := hcl
  clear hcl
  obtain ⟨T, hT, hT4, hT1, hT2⟩ := text_size s
  have HT : Hid _ := hT
  clear hT
  go_enter Try.func3, Try.ntmps3
  go_wp2_with (go_at_call 8; refine (zzbT_yes _ _ _ _ hn _).mono ?_; rintro e w' ⟨rfl, rfl⟩)
  refine Calls.mono HC.out ?_
  clear HC
  rintro e w1 ⟨vb, rfl, hob, hb1⟩
  go_wp2_with fail
  refine (clone_own _ n vb zs _ hob (by omega)).mono ?_
  rintro e w2 ⟨vc, rfl, hoc, hb2⟩
  go_wp2_with fail
  refine (zztext_ints w1.heap.size n s vc _ _ hoc hb2.size (by omega) (by omega) T HT.out).mono ?_
  rintro e w3 ⟨vr, rfl, hor, hb3⟩
  go_wp2_with fail
  refine (zztext_ints w3.heap.size 0 s _ [] _ (World.ownsRow_nil _ _ _ _) (Nat.le_refl _) (by omega) (by omega) T HT.out).mono ?_
  rintro e w4 ⟨vp, rfl, hop, hb4⟩
  have hb14 : Below w1.heap.size w1 w4 := (hb2.trans hb3).trans (hb4.mono (by have := hb2.size; have := hb3.size; omega))
  have hB : Below w.heap.size w w4 := hb1.trans (hb14.mono hb1.size)
  have hob4 := own_below hob hb14
  have hor4 := own_below hor hb4
  clear hob hoc hor hb1 hb2 hb3 hb4 hb14
  simp only [List.nil_append, Nat.zero_add] at hop
  have HZ : Hid (zs.length = n) := hzl
  clear hzl
  obtain ⟨ab, cb, rfl⟩ := own_shape hob4
  obtain ⟨ar, cr, rfl⟩ := own_shape hor4
  obtain ⟨ap, cp, rfl⟩ := own_shape hop
  go_wp2_with fail
  go_loopw [7] (fun i wr => ∃ k : Nat, k ≤ s.size ∧ i = .int .i64 k ∧ Below w4.heap.size w4 wr) (fun i _ => s.size - (intOf i).toNat)
  case atStart => exact ⟨0, Nat.zero_le _, rfl, Below.refl _ _⟩
  case round =>
    obtain ⟨k, hk, rfl, hbr⟩ := hrel
    by_cases hlt : k < s.size
    · obtain ⟨gp, rfl, -, hgp, hcp⟩ := own_at hop (by omega)
      have hx : wr.cell? ⟨gp, k, none⟩ = some (.int .u8 ((s[k]'hlt).toNat)) := by
        rw [hbr.cell (p := ⟨gp, k, none⟩) hgp, hcp k (by omega), tx_low s k hlt]
      clear hcp
      have hltT : k < T := by omega
      have hlti : (k : Int) < (s.size : Int) := by omega
      have hltTi : (k : Int) < (T : Int) := by omega
      go_wp2_with fail
      go_quiet (fail)
      go_wp2
      go_roundw
      case rel => exact ⟨k + 1, by omega, by go_num, below_drewN hbr _⟩
      case measure => simp [intOf]; omega
    · clear hk
      go_wp2_with fail
      go_loopw [8] (fun i wr => ∃ k : Nat, s.size ≤ k ∧ k ≤ T ∧ i = .int .i64 k ∧ Below w4.heap.size w4 wr) (fun i _ => T - (intOf i).toNat)
      case atStart => exact ⟨s.size, Nat.le_refl _, hT1, rfl, hbr⟩
      case round =>
        clear hbr
        obtain ⟨k, hk0, hk, rfl, hbr⟩ := hrel
        by_cases hlt : k < T
        · obtain ⟨gp, rfl, -, hgp, hcp⟩ := own_at hop (by omega)
          have hx : wr.cell? ⟨gp, k, none⟩ = some (.int .u8 0) := by
            rw [hbr.cell (p := ⟨gp, k, none⟩) hgp, hcp k (by omega), tx_high s k hk0]
          clear hcp
          have hltTi : (k : Int) < (T : Int) := by omega
          go_wp2
          go_roundw
          case rel => exact ⟨k + 1, by omega, by omega, by go_num, hbr⟩
          case measure => simp [intOf]; omega
        · clear hk hk0
          go_wp2_with fail
          go_loopw [9] (fun i wr => ∃ k : Nat, k ≤ n ∧ i = .int .i64 k ∧ Below w4.heap.size w4 wr) (fun i _ => n - (intOf i).toNat)
          case atStart => exact ⟨0, Nat.zero_le _, rfl, hbr⟩
          case round =>
            clear hbr
            obtain ⟨k, hk, rfl, hbr⟩ := hrel
            by_cases hlt : k < n
            · obtain ⟨gb, rfl, -, hgb, hcb⟩ := own_at hob4 (by omega)
              obtain ⟨gr, rfl, -, hgr, hcr⟩ := own_at hor4 (by omega)
              have hx : wr.cell? ⟨gb, k, none⟩ = some (.int .u8 (zs.getD k 0)) := (hbr.cell (p := ⟨gb, k, none⟩) hgb).trans (hcb k hlt)
              have hy : wr.cell? ⟨gr, k, none⟩ = some (.int .u8 (zs.getD k 0)) := by
                rw [hbr.cell (p := ⟨gr, k, none⟩) hgr, hcr k (by omega), getD_left (by have := HZ.out; omega)]
              clear hcb hcr
              generalize zs.getD k 0 = z at hx hy
              have hlti : (k : Int) < (n : Int) := by omega
              have hltr : (k : Int) < (n : Int) + (T : Int) := by omega
              go_wp2_with fail
              go_quiet (fail)
              go_wp2
              go_roundw
              case rel => exact ⟨k + 1, by omega, by go_num, below_drewN hbr _⟩
              case measure => simp [intOf]; omega
            · clear hk
              go_wp2_with fail
              go_loopw [10] (fun i wr => ∃ k : Nat, k ≤ T ∧ i = .int .i64 k ∧ Below w4.heap.size w4 wr) (fun i _ => T - (intOf i).toNat)
              case atStart => exact ⟨0, Nat.zero_le _, rfl, hbr⟩
              case round =>
                clear hbr
                obtain ⟨k, hk, rfl, hbr⟩ := hrel
                by_cases hlt : k < T
                · obtain ⟨gp, rfl, -, hgp, hcp⟩ := own_at hop (by omega)
                  obtain ⟨gr, rfl, -, hgr, hcr⟩ := own_at hor4 (by omega)
                  have hx : wr.cell? ⟨gp, k, none⟩ = some (.int .u8 ((tx s).getD k 0)) := (hbr.cell (p := ⟨gp, k, none⟩) hgp).trans (hcp k hlt)
                  have hy : wr.cell? ⟨gr, n + k, none⟩ = some (.int .u8 ((tx s).getD k 0)) := by
                    rw [hbr.cell (p := ⟨gr, n + k, none⟩) hgr, hcr (n + k) (by omega), getD_right HZ.out]
                  clear hcp hcr
                  generalize (tx s).getD k 0 = z at hx hy
                  have hlti : (k : Int) < (T : Int) := by omega
                  have hltr : (n : Int) + (k : Int) < (n : Int) + (T : Int) := by omega
                  go_wp2_with fail
                  go_quiet (fail)
                  go_wp2
                  go_roundw
                  case rel => exact ⟨k + 1, by omega, by go_num, below_drewN hbr _⟩
                  case measure => simp [intOf]; omega
                · go_wp2
                  go_ret
                  exact ⟨rfl, hB.trans (hbr.mono hB.size)⟩
end Go.Proofs.Qxb6613009a.fnTextAppendsTheWordPaddedTextAtAnyCut
