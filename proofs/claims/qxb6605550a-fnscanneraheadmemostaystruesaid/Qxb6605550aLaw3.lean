/- Seat b6605550a: the law FnScannerAheadMemoStaysTrue. -/
import Derived.Test.Qxb6605550aGuard
namespace Go.Proofs.Qxb6605550a
open Go.RowKit AP

set_option maxRecDepth 100000 in
set_option maxHeartbeats 2000000 in
theorem law3 (a0 a4 a5 : Option Addr) (n c0 m4 c4 m5 c5 : Nat) (z0 z4 z5 : List Int) (pos q b c last pos2 : Int) (w : World)
    (k0 : 0 ≤ c) (k1 : c < 256) (hzr : ∀ j, 0 ≤ z0.getD j 0 ∧ z0.getD j 0 < 256) (r0 : Row .u8 w a0 n c0 z0) (r4 : Row .i64 w a4 m4 c4 z4) (r5 : Row .i64 w a5 m5 c5 z5) :
    Calls Try.prog 7 #[.slice a0 n c0, .int .i64 pos, .int .i64 q, .int .i64 b, .slice a4 m4 c4, .slice a5 m5 c5, .int .u8 c, .int .i64 last, .int .i64 pos2] w fun e w' => e = .returned (.bool true) ∧ Below w.heap.size w w' := by
  have R0 : Hid (Row .u8 w a0 n c0 z0) := r0
  have R4 : Hid (Row .i64 w a4 m4 c4 z4) := r4
  have R5 : Hid (Row .i64 w a5 m5 c5 z5) := r5
  obtain ⟨f, hf⟩ : ∃ f : Nat → Int, f = fun t => z0.getD t 0 := ⟨_, rfl⟩
  obtain ⟨h, hh⟩ : ∃ h : Nat → Int, h = fun t => z4.getD t 0 := ⟨_, rfl⟩
  obtain ⟨k, hk⟩ : ∃ k : Nat → Int, k = fun t => z5.getD t 0 := ⟨_, rfl⟩
  have HFR : Hid (∀ t, 0 ≤ f t ∧ f t < 256) := by rw [hf]; exact hzr
  have HFE : Hid (f = fun t => z0.getD t 0) := hf
  have HHE : Hid (h = fun t => z4.getD t 0) := hh
  have HKE : Hid (k = fun t => z5.getD t 0) := hk
  have L0 : Hid (n ≤ maxLen) := r0.len_le
  have L4 : Hid (m4 ≤ maxLen) := r4.len_le
  have L5 : Hid (m5 ≤ maxLen) := r5.len_le
  have HX4 : Hid (0 < m4 → ∃ b o, a4 = some ⟨b, o, none⟩ ∧ w.cell? ⟨b, o, none⟩ = some (.int .i64 (h 0))) := by rw [hh]; exact r4.first
  clear r0 r4 r5 hf hh hk hzr
  go_enter Try.func7, Try.ntmps7
  go_wp2_with fail
  refine (bytes22 a0 a4 a5 n c0 m4 c4 m5 c5 _ _ _ _ _ _ w L0.out L4.out L5.out).mono ?_
  rintro e w1 ⟨B, rfl, hs, hw⟩
  obtain rfl := hw.symm
  clear hw
  cases B with
  | false =>
    clear hs
    go_wp2_with fail
    go_ret
    exact ⟨rfl, Below.refl _ _⟩
  | true =>
    replace hs := hs rfl
    by_cases g4 : m4 ≤ 65536
    case neg =>
      go_wp2_with fail
      go_ret
      exact ⟨rfl, Below.refl _ _⟩
    by_cases g5 : m5 ≤ 65536
    case neg =>
      go_wp2_with fail
      go_ret
      exact ⟨rfl, Below.refl _ _⟩
    by_cases g : n + 8 * m4 + 8 * m5 ≤ 1048576
    case neg =>
      go_wp2_with fail
      go_ret
      exact ⟨rfl, Below.refl _ _⟩
    go_wp2_with fail
    refine (outside_at a0 a4 a5 n c0 m4 c4 m5 c5 pos last (h 0) w (by omega) (by omega) HX4.out).mono ?_
    rintro e w1 ⟨⟨B, rfl, ho⟩, hw⟩
    obtain rfl := hw.symm
    clear hw
    cases B with
    | true =>
      clear ho
      go_wp2_with fail
      go_ret
      exact ⟨rfl, Below.refl _ _⟩
    | false =>
      obtain ⟨rfl, hd⟩ := ho rfl
      have HD : Hid (last ≤ pos → 0 ≤ pos ∧ pos ≤ (n : Int) ∧ (0 < m4 → pos ≤ h 0)) := hd
      clear ho hd
      by_cases p0 : pos2 < 0
      case pos =>
        go_wp2_with fail
        go_ret
        exact ⟨rfl, Below.refl _ _⟩
      by_cases pn : (n : Int) < pos2
      case pos =>
        go_wp2_with fail
        go_ret
        exact ⟨rfl, Below.refl _ _⟩
      go_upto_region 11 with fail
      go_cut [80] from 22 (fun x w2 => w2 = w ∧ ((x = .bool true) ∨ (x = .bool false ∧ Hid (0 < m4 → pos2 ≤ h 0))))
      case first =>
        by_cases hm : 0 < m4
        · obtain ⟨b4, o4, rfl, hx⟩ := HX4.out hm
          have hmz : (0 : Int) < (m4 : Int) := by omega
          by_cases hc2 : h 0 < pos2
          · go_wp2_with fail
            go_meet
            case rel => exact ⟨rfl, .inl rfl⟩
          · have HP2 : Hid (0 < m4 → pos2 ≤ h 0) := fun _ => by omega
            go_wp2_with fail
            go_meet
            case rel => exact ⟨rfl, .inr ⟨rfl, HP2⟩⟩
        · obtain rfl : m4 = 0 := by omega
          go_wp2_with fail
          go_meet
          case rel => exact ⟨rfl, .inr ⟨rfl, fun h => absurd h (Nat.lt_irrefl _)⟩⟩
      case rest =>
       obtain ⟨hw, hcase⟩ := hcut
       obtain rfl := hw.symm
       clear hw HX4
       rcases hcase with rfl | ⟨rfl, HP2⟩
       · go_wp2_with fail
         go_ret
         exact ⟨rfl, Below.refl _ _⟩
       · go_wp2_with fail
         refine (bclone_any a0 n c0 z0 w R0.out (by omega)).mono ?_
         rintro e w1 ⟨b0, rfl, hb1, hv1⟩
         have HB1 : Hid (Below w.heap.size w w1) := hb1
         have HV1 : Hid (BV w1 b0 n f) := by rw [HFE.out]; exact hv1
         have R41 : Hid (Row .i64 w1 a4 m4 c4 z4) := R4.out.below hb1 (Nat.le_refl _)
         have R51 : Hid (Row .i64 w1 a5 m4 c5 z5) := R5.out.below hb1 (Nat.le_refl _)
         clear hb1 hv1 R4 R5 R0 L0 L4 L5
         go_wp2_with fail
         refine (iclone_any a4 m4 c4 z4 w1 R41.out (by omega)).mono ?_
         rintro e w2 ⟨b4, rfl, hb2, hv2⟩
         have HB2 : Hid (Below w.heap.size w w2) := HB1.out.trans (hb2.mono HB1.out.size)
         have HS2 : Hid (w.heap.size ≤ w2.heap.size) := HB2.out.size
         have HV2 : Hid (BV w2 b0 n f) := HV1.out.below hb2 (Nat.le_refl _)
         have HI2 : Hid (IV w2 b4 m4 h) := by rw [HHE.out]; exact hv2
         have R52 : Hid (Row .i64 w2 a5 m4 c5 z5) := R51.out.below hb2 (Nat.le_refl _)
         clear hb2 hv2 HV1 R41 R51 HB1
         go_wp2_with fail
         refine (iclone_any a5 m4 c5 z5 w2 R52.out (by omega)).mono ?_
         rintro e w3 ⟨b5, rfl, hb3, hv3⟩
         have HB3 : Hid (Below w.heap.size w w3) := HB2.out.trans (hb3.mono HB2.out.size)
         have HV3 : Hid (BV w3 b0 n f) := HV2.out.below hb3 (Nat.le_refl _)
         have HI3 : Hid (IV w3 b4 m4 h) := HI2.out.below hb3 (Nat.le_refl _)
         have HK3 : Hid (IV w3 b5 m4 k) := by rw [HKE.out]; exact hv3
         clear hb3 hv3 HV2 HI2 R52 HB2 HS2
         go_wp2_with fail
         refine (zahead_any b0 b4 b5 n m4 f h k pos q b c last w3 (by omega) (by omega) HFR.out k0 k1 HD.out HV3.out HI3.out HK3.out).mono ?_
         rintro e w4 ⟨r, rfl, hah, hb4⟩
         have HAH : Hid (Ah f n m4 (h 0) c pos last r) := hah
         have HB4 : Hid (Below w.heap.size w w4) := HB3.out.trans (hb4.mono HB3.out.size)
         have HV4 : Hid (BV w4 b0 n f) := HV3.out.below hb4 (Nat.le_refl _)
         have HI4 : Hid (IV w4 b4 m4 h) := HI3.out.below hb4 (Nat.le_refl _)
         have HK4 : Hid (IV w4 b5 m4 k) := HK3.out.below hb4 (Nat.le_refl _)
         clear hb4 hah HV3 HI3 HK3 HB3
         go_wp2_with fail
         refine (zahead_any b0 b4 b5 n m4 f h k pos2 q b c r w4 (by omega) (by omega) HFR.out k0 k1 (fun _ => ⟨by omega, by omega, HP2.out⟩) HV4.out HI4.out HK4.out).mono ?_
         rintro e w5 ⟨me, rfl, hah, hb5⟩
         have HME : Hid (Ah f n m4 (h 0) c pos2 r me) := hah
         have HB5 : Hid (Below w.heap.size w w5) := HB4.out.trans (hb5.mono HB4.out.size)
         have HV5 : Hid (BV w5 b0 n f) := HV4.out.below hb5 (Nat.le_refl _)
         have HI5 : Hid (IV w5 b4 m4 h) := HI4.out.below hb5 (Nat.le_refl _)
         have HK5 : Hid (IV w5 b5 m4 k) := HK4.out.below hb5 (Nat.le_refl _)
         clear hb5 hah HV4 HI4 HK4 HB4
         go_wp2_with fail
         refine (zahead_any b0 b4 b5 n m4 f h k pos2 q b c (pos2 - 1) w5 (by omega) (by omega) HFR.out k0 k1 (fun _ => ⟨by omega, by omega, HP2.out⟩) HV5.out HI5.out HK5.out).mono ?_
         rintro e w6 ⟨fr, rfl, hah, hb6⟩
         have HRE : Hid (Ah f n m4 (h 0) c pos2 (pos2 - 1) fr) := hah
         have HB6 : Hid (Below w.heap.size w w6) := HB5.out.trans (hb6.mono HB5.out.size)
         have HV6 : Hid (BV w6 b0 n f) := HV5.out.below hb6 (Nat.le_refl _)
         have HI6 : Hid (IV w6 b4 m4 h) := HI5.out.below hb6 (Nat.le_refl _)
         clear hb6 hah HV5 HI5 HK5 HB5
         go_wp2_with fail
         refine (model_any f h n m4 b0 b4 c pos last w6 (by omega) (by omega) HD.out HV6.out HI6.out).mono ?_
         rintro e w7 ⟨r', rfl, hah', hw⟩
         obtain rfl := hw.symm
         obtain rfl := HAH.out.unique hah'
         clear hah' hw
         go_wp2_with fail
         refine (model_any f h n m4 b0 b4 c pos2 r w6 (by omega) (by omega) (fun _ => ⟨by omega, by omega, HP2.out⟩) HV6.out HI6.out).mono ?_
         rintro e w7 ⟨r', rfl, hah', hw⟩
         obtain rfl := hw.symm
         obtain rfl := HME.out.unique hah'
         clear hah' hw
         go_wp2_with fail
         refine (model_any f h n m4 b0 b4 c pos2 (pos2 - 1) w6 (by omega) (by omega) (fun _ => ⟨by omega, by omega, HP2.out⟩) HV6.out HI6.out).mono ?_
         rintro e w7 ⟨r', rfl, hah', hw⟩
         obtain rfl := hw.symm
         obtain rfl := HRE.out.unique hah'
         clear hah' hw
         go_upto_region 25 with fail
         go_cut [166] from 22 (fun x w2 => w2 = w6 ∧ ((x = .bool false) ∨ (x = .bool true ∧ Hid (me = fr))))
         case first =>
           by_cases t1 : last ≤ pos
           case neg =>
             go_wp2_with fail
             go_meet
             case rel => exact ⟨rfl, .inl rfl⟩
           by_cases t2 : pos ≤ pos2
           case neg =>
             go_wp2_with fail
             go_meet
             case rel => exact ⟨rfl, .inl rfl⟩
           by_cases t3 : pos2 ≤ r
           case neg =>
             go_wp2_with fail
             go_meet
             case rel => exact ⟨rfl, .inl rfl⟩
           by_cases t4 : r < (n : Int)
           case neg =>
             go_wp2_with fail
             go_meet
             case rel => exact ⟨rfl, .inl rfl⟩
           obtain ⟨j, rfl⟩ : ∃ j : Nat, r = (j : Int) := ⟨r.toNat, by omega⟩
           rcases HV6.out with ⟨rfl, rfl⟩ | ⟨g0, rfl, hc0⟩
           · omega
           have hx := hc0 j (by omega)
           clear hc0
           by_cases t5 : f j = c
           case neg =>
             have t5' : (f j == c) = false := by simpa using t5
             clear t5
             go_wp2_with fail
             go_meet
             case rel => exact ⟨rfl, .inl rfl⟩
           have HEQ : Hid (me = fr) := HAH.out.memo t1 t2 t3 t4 t5 HME.out HRE.out (by omega)
           go_wp2_with fail
           go_meet
           case rel => exact ⟨rfl, .inr ⟨rfl, HEQ⟩⟩
         case rest =>
           obtain ⟨hw, hcase⟩ := hcut
           obtain rfl := hw.symm
           clear hw
           rcases hcase with rfl | ⟨rfl, HEQ⟩
           · go_wp2_with fail
             go_ret
             exact ⟨rfl, HB6.out⟩
           · obtain rfl := HEQ.out
             go_wp2_with fail
             go_ret
             exact ⟨rfl, HB6.out⟩
end Go.Proofs.Qxb6605550a
