import Derived.Test.Qxb6613009aWalkF
import Derived.WalkKit
import Derived.Below
import Derived.Deep.QuietTactic
import Derived.BigQuiet
import Derived.WalkSmall
import Derived.Deep.RegionHeld3
namespace Go.Proofs.Qxb6613009a.fnDecodeErrorReadsThePacketThatBuilderWrote
open Go.RowKit

set_option maxHeartbeats 400000 in
theorem zzb_yes (a b c d e : Int) (s : ByteArray) (hn : s.size ≤ 1048576) (w : World) :
    Calls Try.prog 13 #[.int .u8 a, .int .u8 b, .int .u8 c, .int .u16 d, .int .u32 e, .string s] w fun e w' => e = .returned (.bool true) ∧ w = w' := by
  go_enter Try.func13, Try.ntmps13
  go_wp2
  go_ret
  exact ⟨rfl, rfl⟩

set_option maxHeartbeats 400000 in
theorem zzb_no (a b c d e : Int) (s : ByteArray) (hn : 1048576 < s.size) (w : World) :
    Calls Try.prog 13 #[.int .u8 a, .int .u8 b, .int .u8 c, .int .u16 d, .int .u32 e, .string s] w fun e w' => e = .returned (.bool false) ∧ w = w' := by
  go_enter Try.func13, Try.ntmps13
  go_wp2
  go_ret
  exact ⟨rfl, rfl⟩

set_option maxHeartbeats 400000 in
theorem walk_no (a b c d e : Int) (s : ByteArray) (hn : 1048576 < s.size) (w : World) :
    Calls Try.prog 5 #[.int .u8 a, .int .u8 b, .int .u8 c, .int .u16 d, .int .u32 e, .string s] w fun e w' => e = .returned (.bool true) ∧ Below w.heap.size w w' := by
  go_enter Try.func5, Try.ntmps5
  go_wp2_with (go_at_call 13; refine (zzb_no _ _ _ _ _ _ hn _).mono ?_; rintro e w' ⟨rfl, rfl⟩)
  go_ret
  exact ⟨rfl, Below.refl _ _⟩

/-- v's bytes, and what they spell. -/
theorem spell (v : Int) (h0 : 0 ≤ v) (h1 : v < 4294967296) : ∃ b0 b1 b2 b3 : Int, le4 v = [b0, b1, b2, b3] ∧ 0 ≤ b0 ∧ b0 ≤ 255 ∧ 0 ≤ b1 ∧ b1 ≤ 255 ∧ 0 ≤ b2 ∧ b2 ≤ 255 ∧ 0 ≤ b3 ∧ b3 ≤ 255 ∧ b0 + b1 * 256 + b2 * 65536 + b3 * 16777216 = v :=
  ⟨_, _, _, _, rfl, by omega, by omega, by omega, by omega, by omega, by omega, by omega, by omega, by omega⟩

set_option maxHeartbeats 4000000 in
theorem walk_yes (kind code major minor value : Int) (s : ByteArray) (j0 : 0 ≤ major) (j1 : major ≤ 255) (m0 : 0 ≤ minor) (m1 : minor ≤ 65535) (v0 : 0 ≤ value) (v1 : value ≤ 4294967295) (hn : s.size ≤ 1048576) (w : World) :
    Calls Try.prog 5 #[.int .u8 kind, .int .u8 code, .int .u8 major, .int .u16 minor, .int .u32 value, .string s] w fun e w' => e = .returned (.bool true) ∧ Below w.heap.size w w' := by
  obtain ⟨T, hT, hT4, hT1, hT2⟩ := text_size s
  have HT : Hid _ := hT
  clear hT
  obtain ⟨V2, hV2⟩ : ∃ V2, V2 = minor + major * 65536 := ⟨_, rfl⟩
  have hV20 : 0 ≤ V2 := by omega
  have hV21 : V2 < 4294967296 := by omega
  have hor : bits .or .u32 minor (major * 65536) = V2 := by rw [hV2]; exact u32_or16 _ _ m0 (by omega) (by omega) (by omega) (by omega)
  have HV2 : Hid _ := hV2
  clear hV2
  go_enter Try.func5, Try.ntmps5
  go_wp2_with (go_at_call 13; refine (zzb_yes _ _ _ _ _ _ hn _).mono ?_; rintro e w' ⟨rfl, rfl⟩)
  refine (zzrequest_any kind code _).mono ?_
  rintro e w1 ⟨r1, rfl, ho1, hb1⟩
  go_wp2_with fail
  refine (zzu32_int w.heap.size 4 value v0 (by omega) r1 _ _ ho1 hb1.size (by omega)).mono ?_
  rintro e w2 ⟨r2, rfl, ho2, hb2⟩
  have hb02 : Below w.heap.size w w2 := hb1.trans hb2
  clear ho1 hb1 hb2
  go_wp2_with fail
  refine (zzu32_int w.heap.size 8 V2 hV20 hV21 r2 _ _ ho2 hb02.size (by omega)).mono ?_
  rintro e w3 ⟨r3, rfl, ho3, hb3⟩
  have hb03 : Below w.heap.size w w3 := hb02.trans hb3
  clear ho2 hb02 hb3
  go_wp2_with fail
  refine (zztext_ints w.heap.size 12 s r3 _ _ ho3 hb03.size (by omega) (by omega) T HT.out).mono ?_
  rintro e w4 ⟨r4, rfl, ho4, hb4⟩
  have hB : Below w.heap.size w w4 := hb03.trans hb4
  clear ho3 hb03 hb4
  obtain ⟨a4, a5, a6, a7, eV, l4, u4, l5, u5, l6, u6, l7, u7, hV⟩ := spell value v0 (by omega)
  have eV2 : le4 V2 = [minor % 256, minor / 256, major, 0] := by
    have e : V2 = minor % 256 + minor / 256 * 256 + major * 65536 + 0 * 16777216 := by rw [HV2.out]; omega
    rw [e]; exact le4_of _ _ _ _ (by omega) (by omega) (by omega) (by omega) j0 j1
  have ho5 : w4.ownsRow w.heap.size 5 1 r4 (12 + T) ((([kind, code, 0, 0, a4, a5, a6, a7, minor % 256, minor / 256, major, 0] : List Int) ++ tx s).map (Value.int .u8)) := by
    have := ho4
    rw [eV, eV2] at this
    exact this
  clear ho4 eV eV2
  obtain ⟨ar, cr, rfl⟩ := own_shape ho5
  obtain ⟨gr, rfl, -, hgr, hcr⟩ := own_at ho5 (by omega)
  have hcapr := own_cap ho5
  have hd := zzdecode_any gr (12 + T) cr code a4 a5 a6 a7 (minor % 256) (minor / 256) major l4 u4 l5 u5 l6 u6 l7 u7 (by omega) (by omega) (by omega) (by omega) w4 (by omega) hcapr (hcr 1 (by omega)) (hcr 4 (by omega)) (hcr 5 (by omega)) (hcr 6 (by omega)) (hcr 7 (by omega)) (hcr 8 (by omega)) (hcr 9 (by omega)) (hcr 10 (by omega))
  have eM : minor % 256 + minor / 256 * 256 = minor := by omega
  rw [hV, eM] at hd
  have HD : Hid _ := hd
  clear hd hcr ho5 hV eM hor
  go_wp2_with fail
  refine Calls.mono HD.out ?_
  clear HD
  rintro e w5 ⟨ge, rfl, hge, e0, e1, e2, e3, hb5⟩
  go_wp2_with fail
  go_ret
  exact ⟨rfl, hB.trans (hb5.mono hB.size)⟩
end Go.Proofs.Qxb6613009a.fnDecodeErrorReadsThePacketThatBuilderWrote
