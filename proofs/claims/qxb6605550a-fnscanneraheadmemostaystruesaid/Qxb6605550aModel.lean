/- Seat b6605550a: zzAheadModel. -/
import Derived.Test.Qxb6605550aZany
namespace Go.Proofs.Qxb6605550a
open Go.RowKit AP

set_option maxRecDepth 100000 in
set_option maxHeartbeats 1000000 in
theorem model_last (va v4 : Value) (pos c last : Int) (w : World) (hl : pos < last) :
    Calls Try.prog 21 #[va, .int .i64 pos, v4, .int .u8 c, .int .i64 last] w fun e w' => e = .returned (.int .i64 last) ∧ w' = w := by
  go_enter Try.func21, Try.ntmps21
  go_wp2_with fail
  go_ret
  exact ⟨rfl, rfl⟩

set_option maxRecDepth 100000 in
set_option maxHeartbeats 2000000 in
theorem model_look (f h : Nat → Int) (n p m : Nat) (a a4 : Option Addr) (c last : Int) (w : World) (hn : n ≤ 1048576) (hm : m ≤ 1048576) (hpn : p ≤ n) (hcs : 0 < m → (p : Int) ≤ h 0) (hl : last ≤ (p : Int))
    (ha : BV w a n f) (h4 : IV w a4 m h) :
    Calls Try.prog 21 #[.slice a n n, .int .i64 p, .slice a4 m m, .int .u8 c, .int .i64 last] w fun e w' => ∃ r : Nat, e = .returned (.int .i64 r) ∧ Look f c p (lim n p m (h 0)) r ∧ w' = w := by
  have HA : Hid (BV w a n f) := ha
  have H4 : Hid (IV w a4 m h) := h4
  have HCS : Hid (0 < m → (p : Int) ≤ h 0) := hcs
  have hbd := lim_bd n p m (h 0) hpn hcs
  have htbd := top_bd n p hpn
  obtain ⟨L, hL⟩ : ∃ L, L = lim n p m (h 0) := ⟨_, rfl⟩
  obtain ⟨T, hT⟩ : ∃ T, T = top n p := ⟨_, rfl⟩
  have HL : Hid (L = if 0 < m ∧ h 0 < (T : Int) then (h 0).toNat else T) := by rw [hL, hT]; rfl
  have HT : Hid (T = if n ≤ p + 16384 then n else p + 16384) := by rw [hT]; rfl
  rw [← hL] at hbd ⊢
  rw [← hT] at htbd
  clear hL hT ha h4 hcs
  have hll : ¬ (p : Int) < last := by omega
  go_enter Try.func21, Try.ntmps21
  go_upto_if 23 with fail
  go_cut [11] from 14 (fun x w2 => w2 = w ∧ x = .int .i64 (T : Int))
  case first =>
    by_cases htop : n ≤ p + 16384
    · have HT2 : Hid (T = n) := HT.out.trans (if_pos htop)
      go_wp2_with fail
      go_meet
      case rel => exact ⟨rfl, by rw [HT2.out]⟩
    · have HT2 : Hid (T = p + 16384) := HT.out.trans (if_neg htop)
      go_wp2_with fail
      go_meet
      case rel => exact ⟨rfl, by rw [HT2.out]; push_cast; rfl⟩
  case rest =>
    obtain ⟨hw2, rfl⟩ := hcut
    obtain rfl := hw2.symm
    clear hw2
    go_upto_region 6 with fail
    go_cut [35] from 14 (fun x w2 => w2 = w ∧ ∃ B, x = .bool B ∧ Hid (B = true ↔ 0 < m ∧ h 0 < (T : Int)))
    case first =>
      rcases H4.out with ⟨rfl, rfl⟩ | ⟨g4, rfl, hg4⟩
      · go_wp2_with fail
        go_meet
        case rel => exact ⟨rfl, false, rfl, ⟨fun h => (by cases h), fun h => by omega⟩⟩
      · by_cases hm0 : 0 < m
        · have hx := hg4 0 hm0
          have hmz : (0 : Int) < (m : Int) := by omega
          clear hg4
          by_cases hct : h 0 < (T : Int)
          · have HX : Hid (0 < m ∧ h 0 < (T : Int)) := ⟨hm0, hct⟩
            go_wp2_with fail
            go_meet
            case rel => exact ⟨rfl, true, rfl, ⟨fun _ => HX.out, fun _ => rfl⟩⟩
          · have HX : Hid ((T : Int) ≤ h 0) := Int.not_lt.mp hct
            go_wp2_with fail
            go_meet
            case rel => exact ⟨rfl, false, rfl, ⟨fun h => (by cases h), fun h => absurd h.2 (Int.not_lt.mpr HX.out)⟩⟩
        · clear hg4
          obtain rfl : m = 0 := by omega
          go_wp2_with fail
          go_meet
          case rel => exact ⟨rfl, false, rfl, ⟨fun h => (by cases h), fun h => by omega⟩⟩
    case rest =>
     obtain ⟨hw2, B, rfl, HBI⟩ := hcut
     obtain rfl := hw2.symm
     clear hw2
     go_upto_if 35 with fail
     go_cut [11] from 14 (fun x w2 => w2 = w ∧ x = .int .i64 (L : Int))
     case first =>
      by_cases hB : B = true
      · obtain ⟨hm0, hct⟩ := HBI.out.mp hB
        have hp := HCS.out hm0
        have HL2 : Hid ((L : Int) = h 0) := by
          have := HL.out.trans (if_pos ⟨hm0, hct⟩)
          show (L : Int) = h 0
          omega
        rcases H4.out with ⟨rfl, rfl⟩ | ⟨g4, rfl, hg4⟩
        · omega
        · have hx := hg4 0 hm0
          have hmz : (0 : Int) < (m : Int) := by omega
          clear hg4
          subst hB
          go_wp2_with fail
          go_meet
          case rel => exact ⟨rfl, by rw [HL2.out]⟩
      · have HL2 : Hid (L = T) := HL.out.trans (if_neg (fun x => hB (HBI.out.mpr x)))
        obtain rfl : B = false := by simpa using hB
        clear hB
        go_wp2_with fail
        go_meet
        case rel => exact ⟨rfl, by rw [HL2.out]⟩
     case rest =>
      obtain ⟨hw2, rfl⟩ := hcut
      obtain rfl := hw2.symm
      clear hw2
      obtain ⟨hb1, hb2⟩ := hbd
      go_wp2_with fail
      go_loopg [12, 13] (L - p) (fun gk x12 x13 wx => ∃ r : Nat, wx = w ∧ gk ≤ L - p ∧ x12 = .int .i64 r ∧ x13 = .int .i64 ((p : Int) + (gk : Int) - 1) ∧ Hid (Look f c (p + gk) L r))
      case atStart => exact ⟨L, rfl, Nat.le_refl _, rfl, by congr 1; omega, by omega, Nat.le_refl _, fun t a b => by omega, .inl rfl⟩
      case round =>
        obtain ⟨r, hw2, hgk, rfl, rfl, HLK⟩ := hrel
        obtain rfl := hw2.symm
        clear hw2
        by_cases hg0 : gk = 0
        · subst hg0
          rw [show (p : Int) + ((0 : Nat) : Int) - 1 = (p : Int) - 1 from by omega]
          go_wp2_with fail
          go_ret
          exact ⟨r, rfl, HLK.out, rfl⟩
        · obtain ⟨g, rfl⟩ : ∃ g, gk = g + 1 := ⟨gk - 1, by omega⟩
          rw [show (p : Int) + ((g + 1 : Nat) : Int) - 1 = ((p + g : Nat) : Int) from by push_cast; omega]
          rcases HA.out with ⟨rfl, rfl⟩ | ⟨b, rfl, hc⟩
          · omega
          · have hx := hc (p + g) (by omega)
            clear hc
            by_cases hfc : f (p + g) = c
            · have HLK2 : Hid (Look f c (p + g) L (p + g)) := ⟨Nat.le_refl _, by omega, fun t a b => by omega, .inr hfc⟩
              go_wp2_with fail
              go_roundg g
              case measure => omega
              case rel => exact ⟨p + g, rfl, by omega, rfl, by congr 1, HLK2⟩
            · have hfc2 : (f (p + g) == c) = false := by simpa using hfc
              have HLK2 : Hid (Look f c (p + g) L r) := by
                obtain ⟨l1, l2, l3, l4⟩ := HLK.out
                refine ⟨by omega, l2, fun t a b => ?_, l4⟩
                by_cases e : t = p + g
                · subst e; exact hfc
                · exact l3 t (by omega) b
              clear hfc
              go_wp2_with fail
              go_roundg g
              case measure => omega
              case rel => exact ⟨r, rfl, by omega, rfl, by congr 1, HLK2⟩

theorem model_any (f h : Nat → Int) (n m : Nat) (a a4 : Option Addr) (c pos last : Int) (w : World) (hn : n ≤ 1048576) (hm : m ≤ 1048576) (hd : last ≤ pos → 0 ≤ pos ∧ pos ≤ (n : Int) ∧ (0 < m → pos ≤ h 0)) (ha : BV w a n f) (h4 : IV w a4 m h) :
    Calls Try.prog 21 #[.slice a n n, .int .i64 pos, .slice a4 m m, .int .u8 c, .int .i64 last] w fun e w' => ∃ r : Int, e = .returned (.int .i64 r) ∧ Ah f n m (h 0) c pos last r ∧ w' = w := by
  by_cases hl : pos < last
  · exact (model_last _ _ pos c last w hl).mono fun e w' ⟨e1, e2⟩ => ⟨last, e1, .inl ⟨hl, rfl⟩, e2⟩
  · have hl2 : last ≤ pos := by omega
    obtain ⟨d1, d2, d3⟩ := hd hl2
    obtain ⟨p, rfl⟩ : ∃ p : Nat, pos = (p : Int) := ⟨pos.toNat, by omega⟩
    exact (model_look f h n p m a a4 c last w hn hm (by omega) d3 hl2 ha h4).mono fun e w' ⟨r, e1, e2, e3⟩ => ⟨r, e1, .inr ⟨hl2, p, r, rfl, rfl, e2⟩, e3⟩
end Go.Proofs.Qxb6605550a
