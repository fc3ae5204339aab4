/- Seat b6605550a: the two searches for a string's end. -/
import Derived.Test.Qxb6605550aPlain
import Derived.Test.Qxb6605550aIndex
import Derived.WalkSpells
namespace Go.Proofs.Qxb6605550a
open Go.RowKit Plain

theorem ret_int {k : IntKind} {a b : Int} (h : a = b) : Ending.returned (.int k a) = .returned (.int k b) := by rw [h]

set_option maxRecDepth 100000 in
set_option maxHeartbeats 1000000 in
theorem scan_any (f : Nat → Int) (b n i : Nat) (w : World) (hn : n ≤ 1048576) (hi : i ≤ n) (hc : ∀ t, t < n → w.cell? ⟨b, t, none⟩ = some (.int .u8 (f t))) :
    Calls Try.prog 11 #[.slice (some ⟨b, 0, none⟩) n n, .int .i64 i] w fun e w' => ∃ r, e = .returned (.int .i64 r) ∧ Ans f n i r ∧ w' = w := by
  have HC : Hid (∀ t, t < n → w.cell? ⟨b, t, none⟩ = some (.int .u8 (f t))) := hc
  clear hc
  go_enter Try.func11, Try.ntmps11
  go_wp2_with fail
  go_loop [5] (fun x => ∃ p : Nat, x = .int .i64 p ∧ p ≤ n + 1 ∧ Hid (Rd f n i p)) (fun x => n + 1 - (intOf x).toNat)
  case atStart => exact ⟨i, rfl, by omega, Rd.refl _ _ _⟩
  case round =>
    obtain ⟨p, rfl, hp, HR⟩ := hrel
    by_cases hlt : p < n
    · have hx := HC.out p hlt
      by_cases h92 : f p = 92
      · have HR2 : Hid (Rd f n i (p + 2)) := HR.out.two hlt h92
        go_wp2_with fail
        go_round
        case rel => exact ⟨p + 2, by go_num, by omega, HR2⟩
        case measure => simp [intOf]; omega
      · have h92' : (f p == 92) = false := by simpa using h92
        by_cases h34 : f p = 34
        · have H34 : Hid (f p = 34) := h34
          clear h92 h92'
          go_wp2_with fail
          go_ret
          exact ⟨p, rfl, ⟨p, HR.out, .inl ⟨hlt, H34.out, rfl⟩⟩, rfl⟩
        · have h34' : (f p == 34) = false := by simpa using h34
          have HR2 : Hid (Rd f n i (p + 1)) := HR.out.one hlt h34 h92
          clear h92 h34
          go_wp2_with fail
          go_round
          case rel => exact ⟨p + 1, by go_num, by omega, HR2⟩
          case measure => simp [intOf]; omega
    · go_wp2_with fail
      go_ret
      exact ⟨-1, rfl, ⟨p, HR.out, .inr ⟨by omega, rfl⟩⟩, rfl⟩

set_option maxRecDepth 100000 in
set_option maxHeartbeats 1000000 in
theorem end_any (f : Nat → Int) (hf : ∀ t, 0 ≤ f t ∧ f t < 256) (b n i : Nat) (w : World) (hn : n ≤ 1048576) (hi : i ≤ n) (hc : ∀ t, t < n → w.cell? ⟨b, t, none⟩ = some (.int .u8 (f t))) :
    Calls Try.prog 23 #[.slice (some ⟨b, 0, none⟩) n n, .int .i64 i] w fun e w' => ∃ r, e = .returned (.int .i64 r) ∧ Ans f n i r ∧ w' = w := by
  have HF : Hid (∀ t, 0 ≤ f t ∧ f t < 256) := hf
  have HC : Hid (∀ t, t < n → w.cell? ⟨b, t, none⟩ = some (.int .u8 (f t))) := hc
  obtain ⟨q, hrd, htm⟩ := ans_exists f n (n - i) i (Nat.le_refl _)
  have HRD : Hid (Rd f n i q) := hrd
  have HTM : Hid (Tm f n q) := htm
  clear hc hf hrd htm
  go_enter Try.func23, Try.ntmps23
  go_wp2_with fail
  go_loop [5] (fun x => ∃ p : Nat, x = .int .i64 p ∧ i ≤ p ∧ p ≤ n ∧ Hid ((p = i ∨ f (p - 1) = 34) ∧ Rd f n p q)) (fun x => n - (intOf x).toNat)
  case atStart => exact ⟨i, rfl, Nat.le_refl _, hi, .inl rfl, HRD.out⟩
  case round =>
    obtain ⟨p, rfl, hip, hpn, HP⟩ := hrel
    by_cases hlt : n = p
    · subst hlt
      go_wp2_with fail
      refine (index_any f HF.out b 0 0 0 34 (by omega) (by omega) _ (fun t ht => by omega)).mono ?_
      rintro e w' ⟨hw', r, rfl, hr⟩
      obtain rfl := hw'.symm
      clear hw'
      obtain rfl : r = -1 := by
        rcases hr with ⟨k, _, hk, _⟩ | ⟨h, _⟩
        · omega
        · exact h
      have HA : Hid (Ans f n i (-1)) := ⟨q, HRD.out, .inr ⟨HP.out.2.le, rfl⟩⟩
      clear hr
      go_wp2_with fail
      go_ret
      exact ⟨-1, rfl, HA.out, rfl⟩
    · go_wp2_with fail
      refine (index_any f HF.out b p (n - p) (n - p) 34 (by omega) (by omega) _ (fun t ht => HC.out _ (by omega))).mono ?_
      rintro e w' ⟨hw', r, rfl, hr⟩
      obtain rfl := hw'.symm
      clear hw'
      rcases hr with ⟨k, rfl, hk, hfk, hno⟩ | ⟨rfl, hno⟩
      · have H1 : Hid (f (p + k) = 34) := hfk
        have HNO : Hid (∀ t, p ≤ t → t < p + k → f t ≠ 34) := fun t a b => by have := hno (t - p) (by omega); rwa [show p + (t - p) = t from by omega] at this
        clear hfk hno
        go_wp2_with fail
        go_loop [7, 8] (fun x7 x8 => ∃ m : Nat, x7 = .int .i64 m ∧ x8 = .int .i64 ((k : Int) + (p : Int) - 1 - (m : Int)) ∧ m ≤ k ∧ Hid (∀ t, p + k - m ≤ t → t < p + k → f t = 92)) (fun x7 _ => k + 1 - (intOf x7).toNat)
        case atStart => exact ⟨0, rfl, by simp, Nat.zero_le _, fun t a b => by omega⟩
        case round =>
          obtain ⟨m, rfl, rfl, hmk, HM⟩ := hrel
          by_cases hm : m < k
          · have hx := HC.out (p + k - 1 - m) (by omega)
            have ei : ((k : Int) + (p : Int) - 1 - (m : Int)).toNat = p + k - 1 - m := by omega
            by_cases hb : f (p + k - 1 - m) = 92
            · have HM2 : Hid (∀ t, p + k - (m + 1) ≤ t → t < p + k → f t = 92) := fun t a b => by
                by_cases e : t = p + k - 1 - m
                · rw [e]; exact hb
                · exact HM.out t (by omega) b
              go_wp2_with fail
              go_round
              case rel => exact ⟨m + 1, by go_num, by congr 1; push_cast; omega, by omega, HM2⟩
              case measure => simp [intOf]; omega
            · have hb' : (f (p + k - 1 - m) == 92) = false := by simpa using hb
              have HX : Hid (p + k - m = p ∨ f (p + k - m - 1) ≠ 92) := .inr (by rw [show p + k - m - 1 = p + k - 1 - m from by omega]; exact hb)
              clear hb
              by_cases hpar : m % 2 = 0
              · have HA : Hid (Ans f n i ((k : Int) + (p : Int))) := by
                  have hpq := round_even HP.out.2 HTM.out (by omega) H1.out (by omega) HM.out (by omega) HX.out HNO.out (by omega)
                  refine ⟨q, HRD.out, .inl ⟨by omega, by rw [← hpq]; exact H1.out, by omega⟩⟩
                have hpar' : ((m : Int) % 2 == 0) = true := by simp; omega
                clear hpar
                go_wp2_with fail
                go_ret
                exact ⟨_, rfl, HA.out, rfl⟩
              · have HA : Hid (p + k < q ∧ Rd f n (p + k + 1) q) := round_odd HP.out.2 HTM.out (by omega) H1.out (by omega) HM.out (by omega) HX.out HNO.out (by omega)
                have hpar' : ((m : Int) % 2 == 0) = false := by simp; omega
                clear hpar
                go_wp2_with fail
                go_round
                case rel => exact ⟨p + k + 1, by go_num, by omega, by omega, .inr H1.out, HA.out.2⟩
                case measure => simp [intOf]; omega
          · obtain rfl : m = k := by omega
            have HX : Hid (p + m - m = p ∨ f (p + m - m - 1) ≠ 92) := .inl (by omega)
            have e0 : (m : Int) + (p : Int) - 1 - (m : Int) = (p : Int) - 1 := by omega
            by_cases hpi : p = i
            · subst hpi
              by_cases hpar : m % 2 = 0
              · have HA : Hid (Ans f n p ((m : Int) + (p : Int))) := by
                  have hpq := round_even HP.out.2 HTM.out (by omega) H1.out (by omega) HM.out (by omega) HX.out HNO.out (by omega)
                  refine ⟨q, HRD.out, .inl ⟨by omega, by rw [← hpq]; exact H1.out, by omega⟩⟩
                have hpar' : ((m : Int) % 2 == 0) = true := by simp; omega
                clear hpar
                go_wp2_with fail
                go_ret
                exact ⟨_, rfl, HA.out, rfl⟩
              · have HA : Hid (p + m < q ∧ Rd f n (p + m + 1) q) := round_odd HP.out.2 HTM.out (by omega) H1.out (by omega) HM.out (by omega) HX.out HNO.out (by omega)
                have hpar' : ((m : Int) % 2 == 0) = false := by simp; omega
                clear hpar
                go_wp2_with fail
                go_round
                case rel => exact ⟨p + m + 1, by go_num, by omega, by omega, .inr H1.out, HA.out.2⟩
                case measure => simp [intOf]; omega
            · have hx := HC.out (p - 1) (by omega)
              have ei : ((p : Int) - 1).toNat = p - 1 := by omega
              have hq : f (p - 1) = 34 := HP.out.1.elim (fun h => absurd h hpi) id
              rw [hq] at hx
              clear hq
              by_cases hpar : m % 2 = 0
              · have HA : Hid (Ans f n i ((m : Int) + (p : Int))) := by
                  have hpq := round_even HP.out.2 HTM.out (by omega) H1.out (by omega) HM.out (by omega) HX.out HNO.out (by omega)
                  refine ⟨q, HRD.out, .inl ⟨by omega, by rw [← hpq]; exact H1.out, by omega⟩⟩
                have hpar' : ((m : Int) % 2 == 0) = true := by simp; omega
                clear hpar
                go_wp2_with fail
                go_ret
                exact ⟨_, rfl, HA.out, rfl⟩
              · have HA : Hid (p + m < q ∧ Rd f n (p + m + 1) q) := round_odd HP.out.2 HTM.out (by omega) H1.out (by omega) HM.out (by omega) HX.out HNO.out (by omega)
                have hpar' : ((m : Int) % 2 == 0) = false := by simp; omega
                clear hpar
                go_wp2_with fail
                go_round
                case rel => exact ⟨p + m + 1, by go_num, by omega, by omega, .inr H1.out, HA.out.2⟩
                case measure => simp [intOf]; omega
      · have HA : Hid (Ans f n i (-1)) := ⟨q, HRD.out, .inr ⟨by
          rcases HTM.out with ⟨h1, h2⟩ | h
          · have := HP.out.2.le
            exact absurd h2 (by have := hno (q - p) (by omega); rwa [show p + (q - p) = q from by omega] at this)
          · exact h, rfl⟩⟩
        clear hno
        go_wp2_with fail
        go_ret
        exact ⟨-1, rfl, HA.out, rfl⟩
end Go.Proofs.Qxb6605550a
