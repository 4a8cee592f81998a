import Derived.Test.Qxb6613009aBase
import Derived.WalkKit
import Derived.Below
import Derived.Deep.QuietTactic
import Derived.BigQuiet
import Derived.WalkSmall
namespace Go.Proofs.Qxb6613009a.fnU32AppendsLittleEndianAtAnyCut
open Go.RowKit

set_option maxHeartbeats 400000 in
theorem walk_no (a0 : Option Addr) (n cap : Nat) (v : Int) (w : World) (hn : 1048576 < n) :
    Calls Try.prog 7 #[.slice a0 n cap, .int .u32 v] w fun e w' => e = .returned (.bool true) ∧ Below w.heap.size w w' := by
  go_enter Try.func7, Try.ntmps7
  go_wp2_with (go_at_call 18; refine (zzb32_no _ _ _ _ hn _).mono ?_; rintro e w' ⟨rfl, rfl⟩)
  go_ret
  exact ⟨rfl, Below.refl _ _⟩


/-- The four bytes: each within a byte; together they spell v. -/
theorem le4_facts (v : Nat) (hv : v < 4294967296) : ∃ b0 b1 b2 b3 : Int, le4 v = [b0, b1, b2, b3] ∧ 0 ≤ b0 ∧ b0 ≤ 255 ∧ 0 ≤ b1 ∧ b1 ≤ 255 ∧ 0 ≤ b2 ∧ b2 ≤ 255 ∧ 0 ≤ b3 ∧ b3 ≤ 255 ∧ b0 + b1 * 256 + b2 * 65536 + b3 * 16777216 = v :=
  ⟨_, _, _, _, rfl, by omega, by omega, by omega, by omega, by omega, by omega, by omega, by omega, by omega⟩

set_option maxHeartbeats 2000000 in
theorem walk_yes (a0 : Option Addr) (n cap : Nat) (z0 : List Int) (v : Nat) (w : World) (w0 : IsRow .u8 w a0 n cap z0) (hv : v < 4294967296) (hn : n ≤ 1048576) :
    Calls Try.prog 7 #[.slice a0 n cap, .int .u32 v] w fun e w' => e = .returned (.bool true) ∧ Below w.heap.size w w' := by
  have hzl : (z0.take n).length = n := by
    rcases w0 with ⟨_, rfl, _, rfl⟩ | ⟨x, _, h1, _, h2, _⟩
    · rfl
    · rw [List.length_take]; omega
  have hcl := clone_row a0 n cap z0 w w0 hn
  generalize z0.take n = zs at hcl hzl
  clear w0
  have HC : Hid _ := hcl
  clear hcl
  go_enter Try.func7, Try.ntmps7
  go_wp2_with (go_at_call 18; refine (zzb32_yes _ _ _ _ hn _).mono ?_; rintro e w' ⟨rfl, rfl⟩)
  refine Calls.mono HC.out ?_
  clear HC
  rintro e w1 ⟨vb, rfl, hob, hb1⟩
  go_wp2_with fail
  refine (clone_own _ n vb zs _ hob hn).mono ?_
  rintro e w2 ⟨vc, rfl, hoc, hb2⟩
  go_wp2_with fail
  refine (zzu32_own w1.heap.size n v hv vc _ _ hoc hb2.size (by omega)).mono ?_
  rintro e w3 ⟨vr, rfl, hor, hb3⟩
  go_wp2_with fail
  refine (zzu32_own w3.heap.size 0 v hv _ _ _ (World.ownsRow_nil _ _ _ _) (Nat.le_refl _) (by omega)).mono ?_
  rintro e w4 ⟨vp, rfl, hop, hb4⟩
  have hb14 : Below w1.heap.size w1 w4 := (hb2.trans hb3).trans (hb4.mono (by have := hb2.size; have := hb3.size; omega))
  have hB : Below w.heap.size w w4 := hb1.trans (hb14.mono hb1.size)
  have hob4 := own_below hob hb14
  have hor4 := own_below hor hb4
  clear hob hoc hor hb1 hb2 hb3 hb4 hb14
  rw [← List.map_append] at hor4
  simp only [List.nil_append, Nat.zero_add] at hop
  obtain ⟨ab, cb, rfl⟩ := own_shape hob4
  obtain ⟨ar, cr, rfl⟩ := own_shape hor4
  obtain ⟨ap, cp, rfl⟩ := own_shape hop
  obtain ⟨gr, rfl, -, hgr, hcr⟩ := own_at hor4 (by omega)
  obtain ⟨gp, rfl, -, hgp, hcp⟩ := own_at hop (by omega)
  have HR : Hid (∀ j, j < n + 4 → w4.cell? ⟨gr, j, none⟩ = some (.int .u8 ((zs ++ le4 v).getD j 0))) := hcr
  have HP : Hid (∀ j, j < 4 → w4.cell? ⟨gp, j, none⟩ = some (.int .u8 ((le4 v).getD j 0))) := hcp
  have HZ : Hid (zs.length = n) := hzl
  clear hcr hcp hzl hor4 hop
  go_wp2_with fail
  go_loopw [7] (fun i wr => ∃ k : Nat, k ≤ n ∧ i = .int .i64 k ∧ Below w4.heap.size w4 wr) (fun i _ => n - (intOf i).toNat)
  case atStart => exact ⟨0, Nat.zero_le _, rfl, Below.refl _ _⟩
  case round =>
    obtain ⟨k, hk, rfl, hbr⟩ := hrel
    by_cases hlt : k < n
    · obtain ⟨gb, rfl, -, hgb, hcb⟩ := own_at hob4 (by omega)
      have hx : wr.cell? ⟨gb, k, none⟩ = some (.int .u8 (zs.getD k 0)) := (hbr.cell (p := ⟨gb, k, none⟩) hgb).trans (hcb k hlt)
      have hy : wr.cell? ⟨gr, k, none⟩ = some (.int .u8 (zs.getD k 0)) := by
        rw [hbr.cell (p := ⟨gr, k, none⟩) hgr, HR.out k (by omega), getD_left (by have := HZ.out; omega)]
      clear hcb
      generalize zs.getD k 0 = z at hx hy
      have hlti : (k : Int) < (n : Int) := by omega
      go_wp2_with fail
      go_quiet (fail)
      go_wp2
      go_roundw
      case rel => exact ⟨k + 1, by omega, by go_num, below_drewN hbr _⟩
      case measure => simp [intOf]; omega
    · go_wp2_with fail
      clear hlt hk
      go_loopw [8] (fun i wr => ∃ k : Nat, k ≤ 4 ∧ i = .int .i64 k ∧ Below w4.heap.size w4 wr) (fun i _ => 4 - (intOf i).toNat)
      case atStart => exact ⟨0, Nat.zero_le _, rfl, hbr⟩
      case round =>
        obtain ⟨j, hj, rfl, hbq⟩ := hrel
        by_cases hlt : j < 4
        · have hy : wr.cell? ⟨gp, j, none⟩ = some (.int .u8 ((le4 v).getD j 0)) := (hbq.cell (p := ⟨gp, j, none⟩) hgp).trans (HP.out j hlt)
          have hx : wr.cell? ⟨gr, n + j, none⟩ = some (.int .u8 ((le4 v).getD j 0)) := by
            rw [hbq.cell (p := ⟨gr, n + j, none⟩) hgr, HR.out (n + j) (by omega), getD_right HZ.out]
          generalize (le4 v).getD j 0 = z at hx hy
          have hlti : (j : Int) < 4 := by omega
          have hltn : (n : Int) + (j : Int) < (n : Int) + 4 := by omega
          go_wp2_with fail
          go_quiet (fail)
          go_wp2
          go_roundw
          case rel => exact ⟨j + 1, by omega, by go_num, below_drewN hbq _⟩
          case measure => simp [intOf]; omega
        · obtain ⟨b0, b1, b2, b3, e4, l0, u0, l1, u1, l2, u2, l3, u3, hsum⟩ := le4_facts v hv
          have g0 := (hbq.cell (p := ⟨gp, 0, none⟩) hgp).trans (HP.out 0 (by omega))
          have g1 := (hbq.cell (p := ⟨gp, 1, none⟩) hgp).trans (HP.out 1 (by omega))
          have g2 := (hbq.cell (p := ⟨gp, 2, none⟩) hgp).trans (HP.out 2 (by omega))
          have g3 := (hbq.cell (p := ⟨gp, 3, none⟩) hgp).trans (HP.out 3 (by omega))
          rw [e4] at g0 g1 g2 g3
          simp only [List.getD_cons_zero, List.getD_cons_succ] at g0 g1 g2 g3
          have HS : Hid _ := hsum
          clear hsum e4
          go_wp2_with fail
          go_quiet (fail)
          go_wp2_with fail
          go_ret
          exact ⟨ret_true (by rw [HS.out]; exact beq_self_eq_true _), hB.trans ((below_drewN hbq _).mono hB.size)⟩
end Go.Proofs.Qxb6613009a.fnU32AppendsLittleEndianAtAnyCut
