/- Seat b6605550a: (*scanner).ahead. -/
import Derived.Test.Qxb6605550aAheadPlain
import Derived.Test.Qxb6605550aIndex
import Derived.WalkSpells
import Derived.WalkLawsBesides
import Derived.Deep.Cut
import Derived.Deep.QuietTactic
import Derived.BigQuiet
import Derived.RegionTactic
namespace Go.Proofs.Qxb6605550a
open Go.RowKit AP

/-- A slice of n bytes: nil, or at the head of a block. -/
def BV (w : World) (a : Option Addr) (n : Nat) (f : Nat → Int) : Prop := (a = none ∧ n = 0) ∨ ∃ g, a = some ⟨g, 0, none⟩ ∧ ∀ t, t < n → w.cell? ⟨g, t, none⟩ = some (.int .u8 (f t))
/-- A slice of m spans: nil, or at the head of a block, the first one's start cs. -/
def SV (w : World) (a : Option Addr) (m : Nat) (cs : Int) : Prop := (a = none ∧ m = 0) ∨ ∃ g, a = some ⟨g, 0, none⟩ ∧ (0 < m → w.cell? ⟨g, 0, none⟩ = some (.int .i64 cs))

theorem index_exact (f : Nat → Int) (hf : ∀ t, 0 ≤ f t ∧ f t < 256) (o m cp : Nat) (c : Int) (k0 : 0 ≤ c) (k1 : c < 256) :
    ∃ R, First f o m c R ∧ ∀ (b : Nat) (w : World), (∀ t, t < m → w.cell? ⟨b, o + t, none⟩ = some (.int .u8 (f (o + t)))) → Calls Try.prog 27 #[.slice (some ⟨b, o, none⟩) m cp, .int .u8 c] w fun e w' => e = .returned (.int .i64 R) ∧ w' = w := by
  refine ⟨_, first_of f hf c k0 k1 m o, fun b w hc => ?_⟩
  have hrun := Lib.run_indexByteSlice (P := Try.prog) w b o m cp ((List.range m).map fun t => f (o + t)) (by simp) (fun i hi => by rw [hc i hi]; simp [hi]) c
  clear hc hf
  go_enter Try.func27, Try.ntmps27
  go_wp2
  rw [run_callFunc_extern Try.func28 (by kernel_rfl) (by kernel_rfl) (by kernel_rfl) (e := Extern.BytealgIndexByte.indexByte) (by kernel_rfl), hrun]
  simp only [Result.andThen]
  rw [Oper.upon_value]
  go_wp2
  go_ret
  exact ⟨rfl, rfl⟩

set_option maxRecDepth 100000 in
set_option maxHeartbeats 1000000 in
theorem ahead_last (s : Nat) (pos c last : Int) (w : World) (h1 : w.cell? ⟨s, 1, none⟩ = some (.int .i64 pos)) (hl : pos < last) :
    Calls Try.prog 26 #[.pointer (some ⟨s, 0, none⟩), .int .u8 c, .int .i64 last] w fun e w' => e = .returned (.int .i64 last) ∧ w' = w := by
  go_enter Try.func26, Try.ntmps26
  go_wp2_with fail
  go_ret
  exact ⟨rfl, rfl⟩

set_option maxRecDepth 100000 in
set_option maxHeartbeats 2000000 in
theorem ahead_some (f : Nat → Int) (hf : ∀ t, 0 ≤ f t ∧ f t < 256) (s g n p m : Nat) (a4 : Option Addr) (cs c last : Int) (k0 : 0 ≤ c) (k1 : c < 256) (w : World) (hn : n ≤ 1048576) (hpn : p ≤ n) (hm : m ≤ 1048576) (hcs : 0 < m → (p : Int) ≤ cs) (hl : last ≤ (p : Int))
    (h0 : w.cell? ⟨s, 0, none⟩ = some (.slice (some ⟨g, 0, none⟩) n n)) (h1 : w.cell? ⟨s, 1, none⟩ = some (.int .i64 p)) (h4 : w.cell? ⟨s, 4, none⟩ = some (.slice a4 m m)) (hc : ∀ t, t < n → w.cell? ⟨g, t, none⟩ = some (.int .u8 (f t))) (hsv : SV w a4 m cs) :
    Calls Try.prog 26 #[.pointer (some ⟨s, 0, none⟩), .int .u8 c, .int .i64 last] w fun e w' => ∃ (r : Nat) (d : Nat), e = .returned (.int .i64 r) ∧ Look f c p (lim n p m cs) r ∧ w' = w.drewN d := by
  have HC : Hid (∀ t, t < n → w.cell? ⟨g, t, none⟩ = some (.int .u8 (f t))) := hc
  have HSV : Hid (SV w a4 m cs) := hsv
  have HCS : Hid (0 < m → (p : Int) ≤ cs) := hcs
  have hbd := lim_bd n p m cs hpn hcs
  have htbd := top_bd n p hpn
  obtain ⟨L, hL⟩ : ∃ L, L = lim n p m cs := ⟨_, rfl⟩
  obtain ⟨T, hT⟩ : ∃ T, T = top n p := ⟨_, rfl⟩
  have HL : Hid (L = if 0 < m ∧ cs < (T : Int) then cs.toNat else T) := by rw [hL, hT]; rfl
  have HT : Hid (T = if n ≤ p + 16384 then n else p + 16384) := by rw [hT]; rfl
  rw [← hL] at hbd ⊢
  rw [← hT] at htbd
  clear hL hT
  have HCALL0 : Hid (∀ (w : World), Calls Try.prog 27 #[.slice (some ⟨g, 0, none⟩) 0 0, .int .u8 c] w fun e w' => e = .returned (.int .i64 (-1)) ∧ w' = w) := fun w => by
    obtain ⟨R0, hR0, hcall0⟩ := index_exact f hf 0 0 0 c k0 k1
    obtain rfl : R0 = -1 := by
      rcases hR0 with ⟨k, _, hk, _⟩ | ⟨h, _⟩
      · omega
      · exact h
    exact hcall0 g w (fun t ht => by omega)
  obtain ⟨R, hR, hcall⟩ := index_exact f hf p (L - p) (n - p) c k0 k1
  have HR : Hid (First f p (L - p) c R) := hR
  have HCALL : Hid (∀ (b : Nat) (w : World), (∀ t, t < L - p → w.cell? ⟨b, p + t, none⟩ = some (.int .u8 (f (p + t)))) → Calls Try.prog 27 #[.slice (some ⟨b, p, none⟩) (L - p) (n - p), .int .u8 c] w fun e w' => e = .returned (.int .i64 R) ∧ w' = w) := hcall
  clear hc hsv hcs hf hR hcall
  by_cases hE1 : last = (p : Int) ∧ p = n
  · obtain ⟨rfl, rfl⟩ := hE1
    go_enter Try.func26, Try.ntmps26
    go_wp2_with fail
    go_ret
    exact ⟨p, 0, rfl, ⟨Nat.le_refl _, hbd.1, fun t a b => by omega, .inl (by omega)⟩, rfl⟩
  · by_cases hE2 : last = (p : Int) ∧ f p = c
    · obtain ⟨rfl, hfc⟩ := hE2
      have HFC : Hid (f p = c) := hfc
      have hpl : p < n := by
        by_cases e : p = n
        · exact absurd ⟨rfl, e⟩ hE1
        · omega
      have hx := HC.out p hpl
      have hne : ((p : Int) == (n : Int)) = false := by simp; omega
      have hlz : (p : Int) < (n : Int) := by omega
      clear hE1
      go_enter Try.func26, Try.ntmps26
      go_wp2_with fail
      go_ret
      exact ⟨p, 0, rfl, ⟨Nat.le_refl _, hbd.1, fun t a b => by omega, .inr HFC.out⟩, rfl⟩
    · go_enter Try.func26, Try.ntmps26
      go_upto_region 1 with fail
      go_cut [42] from 9 (fun x w2 => w2 = w ∧ x = .bool false)
      case first =>
        by_cases hlp : last = (p : Int)
        · subst hlp
          have hpl : p < n := by
            by_cases e : p = n
            · exact absurd ⟨rfl, e⟩ hE1
            · omega
          have hx := HC.out p hpl
          have hne : ((p : Int) == (n : Int)) = false := by simp; omega
          have hlz : (p : Int) < (n : Int) := by omega
          have hfc : (f p == c) = false := by simp; intro e; exact hE2 ⟨rfl, e⟩
          clear hE1 hE2
          go_wp2_with fail
          go_meet
          case rel => exact ⟨rfl, rfl⟩
        · have hne : (last == (p : Int)) = false := by simpa using hlp
          clear hE1 hE2 hlp
          go_wp2_with fail
          go_meet
          case rel => exact ⟨rfl, congrArg Value.bool (decide_eq_false (by omega))⟩
      case rest =>
        obtain ⟨hw2, rfl⟩ := hcut
        obtain rfl := hw2.symm
        clear hw2 hE1 hE2
        go_upto_region 3 with fail
        go_cut [7] from 9 (fun x w2 => ∃ d, w2 = w.drewN d ∧ x = .int .i64 (T : Int))
        case first =>
          by_cases htop : n ≤ p + 16384
          · have HT2 : Hid (T = n) := HT.out.trans (if_pos htop)
            go_wp2_with fail
            go_quiet (fail)
            go_wp2_with fail
            go_meet
            case rel => exact ⟨_, rfl, by rw [HT2.out]⟩
          · have HT2 : Hid (T = p + 16384) := HT.out.trans (if_neg htop)
            go_wp2_with fail
            go_quiet (fail)
            go_wp2_with fail
            go_meet
            case rel => exact ⟨_, rfl, by rw [HT2.out]; push_cast; rfl⟩
        case rest =>
          obtain ⟨d, rfl, rfl⟩ := hcut
          go_upto_if 60 with fail
          go_cut [7] from 9 (fun x w2 => w2 = w.drewN d ∧ x = .int .i64 (L : Int))
          case first =>
            rcases HSV.out with ⟨rfl, rfl⟩ | ⟨g4, rfl, hg4⟩
            · have HL2 : Hid (L = T) := HL.out.trans (if_neg (by omega))
              go_wp2_with fail
              go_meet
              case rel => exact ⟨rfl, by rw [HL2.out]⟩
            · by_cases hm0 : 0 < m
              · have hx := hg4 hm0
                have hp := HCS.out hm0
                have hmz : (0 : Int) < (m : Int) := by omega
                clear hg4
                by_cases hct : cs < (T : Int)
                · have HL2 : Hid ((L : Int) = cs) := by
                    have := HL.out.trans (if_pos ⟨hm0, hct⟩)
                    show (L : Int) = cs
                    omega
                  go_wp2_with fail
                  go_meet
                  case rel => exact ⟨rfl, by rw [HL2.out]⟩
                · have HL2 : Hid (L = T) := HL.out.trans (if_neg (fun x => hct x.2))
                  go_wp2_with fail
                  go_meet
                  case rel => exact ⟨rfl, by rw [HL2.out]⟩
              · clear hg4
                obtain rfl : m = 0 := by omega
                have HL2 : Hid (L = T) := HL.out.trans (if_neg (by omega))
                go_wp2_with fail
                go_meet
                case rel => exact ⟨rfl, by rw [HL2.out]⟩
          case rest =>
            obtain ⟨hw2, rfl⟩ := hcut
            obtain rfl := hw2
            obtain ⟨hb1, hb2⟩ := hbd
            have hz1 : (p : Int) ≤ (L : Int) := by omega
            have hz2 : (L : Int) ≤ (n : Int) := by omega
            by_cases hpe : n = p
            · subst hpe
              obtain rfl : L = n := by omega
              have HLK : Hid (Look f c L L L) := ⟨Nat.le_refl _, Nat.le_refl _, fun t a b => by omega, .inl rfl⟩
              go_wp2_with fail
              go_quiet ((go_at_call 27; exact (HCALL0.out _).mono fun _ _ h => ⟨h.1, _, h.2⟩))
              go_wp2_with fail
              go_ret
              exact ⟨L, _, rfl, HLK.out, by first | rfl | exact World.drewN_drewN _ _ _⟩
            · have HCALL2 : Hid (∀ d, Calls Try.prog 27 #[.slice (some ⟨g, p, none⟩) (L - p) (n - p), .int .u8 c] (w.drewN d) fun e w' => e = .returned (.int .i64 R) ∧ w' = w.drewN d) := fun d => HCALL.out g (w.drewN d) (fun t ht => by show w.cell? _ = _; exact HC.out _ (by omega))
              go_wp2_with fail
              go_quiet ((go_at_call 27; exact (HCALL2.out _).mono fun _ _ h => ⟨h.1, _, h.2⟩))
              rcases HR.out with ⟨k, rfl, hk, hfk, hno⟩ | ⟨rfl, hno⟩
              · have HLK : Hid (Look f c p L (p + k)) := ⟨by omega, by omega, fun t a b => by have := hno (t - p) (by omega); rwa [show p + (t - p) = t from by omega] at this, .inr hfk⟩
                clear hno hfk
                go_wp2_with fail
                go_ret
                exact ⟨p + k, _, by first | rfl | (push_cast; rfl), HLK.out, by first | rfl | exact World.drewN_drewN _ _ _⟩
              · have HLK : Hid (Look f c p L L) := ⟨by omega, Nat.le_refl _, fun t a b => by have := hno (t - p) (by omega); rwa [show p + (t - p) = t from by omega] at this, .inl rfl⟩
                clear hno
                go_wp2_with fail
                go_ret
                exact ⟨L, _, rfl, HLK.out, by first | rfl | exact World.drewN_drewN _ _ _⟩
end Go.Proofs.Qxb6605550a
