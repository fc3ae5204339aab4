/- Seat b6605477a: headAutomaton computes 'auto'. -/
import Derived.Test.Qxb6605477aPlain
import Derived.Test.Qxb6605477aProg
import Derived.WalkKit
import Derived.WalkSpells
namespace Go.Proofs.Qxb6605477a
open Go.RowKit Plain

def val7 (r : St) : Value := .tuple #[.int .i64 r.start, .int .i64 r.taken, .int .i64 r.size, .int .i64 r.line, .bool r.cr, .bool r.st, .bool r.en]

set_option maxRecDepth 100000 in
set_option maxHeartbeats 2000000 in
theorem auto_any (f : Nat → Int) (b n : Nat) (size line : Int) (cr st en : Bool) (w : World) (hn : n ≤ 1048576) (hc : ∀ t, t < n → w.cell? ⟨b, t, none⟩ = some (.int .u8 (f t))) :
    Calls Try.prog 13 #[.int .i64 size, .int .i64 line, .bool cr, .bool st, .bool en, .slice (some ⟨b, 0, none⟩) n n] w fun e w' => e = .returned (val7 (auto f n 0 0 size line cr st en)) ∧ w' = w := by
  have HC : Hid (∀ t, t < n → w.cell? ⟨b, t, none⟩ = some (.int .u8 (f t))) := hc
  clear hc
  obtain ⟨R, hR⟩ : ∃ R, R = auto f n 0 0 size line cr st en := ⟨_, rfl⟩
  have HR : Hid (auto f (n - 0) 0 0 size line cr st en = R) := hR.symm
  rw [← hR]
  clear hR
  go_enter Try.func13, Try.ntmps13
  go_wp2_with fail
  go_loop [0, 1, 2, 3, 4, 19, 20] (fun x0 x1 x2 x3 x4 x19 x20 => ∃ (p start : Nat) (sz ln : Int) (c s e : Bool), x0 = .int .i64 sz ∧ x1 = .int .i64 ln ∧ x2 = .bool c ∧ x3 = .bool s ∧ x4 = .bool e ∧ x19 = .int .i64 start ∧ x20 = .int .i64 p ∧ p ≤ n ∧ start ≤ p ∧ Hid (auto f (n - p) p start sz ln c s e = R)) (fun _ _ _ _ _ _ x20 => n - (intOf x20).toNat)
  case atStart => exact ⟨0, 0, size, line, cr, st, en, rfl, rfl, rfl, rfl, rfl, rfl, rfl, Nat.zero_le _, Nat.le_refl _, HR.out⟩
  case round =>
    clear HR
    obtain ⟨p, start, sz, ln, c, s, e, rfl, rfl, rfl, rfl, rfl, rfl, rfl, hp, hsp, HA⟩ := hrel
    by_cases hlt : p < n
    · have hx := HC.out p hlt
      obtain ⟨g, hg⟩ : ∃ g, n - p = g + 1 := ⟨n - p - 1, by omega⟩
      have hg' : n - (p + 1) = g := by omega
      have HG : Hid (n - p = g + 1 ∧ n - (p + 1) = g) := ⟨hg, hg'⟩
      clear hg hg'
      cases s with
      | false =>
        by_cases h13 : f p = 13
        · have HF : Hid (f p = 13 ∨ f p = 10) := .inl h13
          go_wp2_with fail
          go_round
          case rel => exact ⟨p + 1, start + 1, _, _, _, _, _, rfl, rfl, rfl, rfl, rfl, by go_num, by go_num, by omega, by omega, by have h := HA.out; rw [HG.out.1, auto_skip f _ _ _ _ _ _ _ HF.out] at h; rw [HG.out.2]; exact h⟩
          case measure => simp [intOf]; omega
        · by_cases h10 : f p = 10
          · have HF : Hid (f p = 13 ∨ f p = 10) := .inr h10
            clear h13
            go_wp2_with fail
            go_round
            case rel => exact ⟨p + 1, start + 1, _, _, _, _, _, rfl, rfl, rfl, rfl, rfl, by go_num, by go_num, by omega, by omega, by have h := HA.out; rw [HG.out.1, auto_skip f _ _ _ _ _ _ _ HF.out] at h; rw [HG.out.2]; exact h⟩
            case measure => simp [intOf]; omega
          · have HF : Hid (¬ (f p = 13 ∨ f p = 10)) := fun h => h.elim h13 h10
            have e13 : (f p == 13) = false := by simpa using h13
            have e10 : (f p == 10) = false := by simpa using h10
            clear h13 h10
            cases e with
            | true =>
              go_wp2_with fail
              have h := HA.out
              rw [HG.out.1, auto_on f _ _ _ _ _ _ _ HF.out, auto_stop] at h
              subst h
              exact bodyPost_ret (v := val7 ⟨start, p, sz, ln, c, true, true⟩) (by simp [results, Try.results13, go_sem, val7]) rfl ⟨rfl, rfl⟩
            | false =>
              go_wp2_with fail
              go_round
              case rel => exact ⟨p + 1, start, _, _, _, _, _, rfl, rfl, rfl, rfl, rfl, rfl, by go_num, by omega, by omega, by have h := HA.out; rw [HG.out.1, auto_on f _ _ _ _ _ _ _ HF.out, auto_byte f _ _ _ _ _ _ (fun x => HF.out (.inr x)), e13] at h; rw [HG.out.2]; exact h⟩
              case measure => simp [intOf]; omega
      | true =>
        cases e with
        | true =>
          go_wp2_with fail
          have h := HA.out
          rw [auto_stop] at h
          subst h
          exact bodyPost_ret (v := val7 ⟨start, p, sz, ln, c, true, true⟩) (by simp [results, Try.results13, go_sem, val7]) rfl ⟨rfl, rfl⟩
        | false =>
          by_cases h10 : f p = 10
          · have HF : Hid (f p = 10) := h10
            by_cases l0 : ln = 0
            · subst l0
              go_wp2_with fail
              go_round
              case rel => exact ⟨p + 1, start, _, _, _, _, _, rfl, rfl, rfl, rfl, rfl, rfl, by go_num, by omega, by omega, by have h := HA.out; rw [HG.out.1, auto_lf f _ _ _ _ _ _ HF.out] at h; rw [HG.out.2]; exact h⟩
              case measure => simp [intOf]; omega
            · by_cases l1 : ln = 1
              · subst l1
                clear l0
                go_wp2_with fail
                go_round
                case rel => exact ⟨p + 1, start, _, _, _, _, _, rfl, rfl, rfl, rfl, rfl, rfl, by go_num, by omega, by omega, by have h := HA.out; rw [HG.out.1, auto_lf f _ _ _ _ _ _ HF.out] at h; rw [HG.out.2]; exact h⟩
                case measure => simp [intOf]; omega
              · have l0' : (ln == 0) = false := by simpa using l0
                have l1' : (ln == 1) = false := by simpa using l1
                have HEN : Hid (ends ln c = false) := by show ends ln c = false; unfold ends; rw [l0', l1']; rfl
                clear l0 l1
                go_wp2_with fail
                go_round
                case rel => exact ⟨p + 1, start, _, _, _, _, _, rfl, rfl, rfl, rfl, rfl, rfl, by go_num, by omega, by omega, by have h := HA.out; rw [HG.out.1, auto_lf f _ _ _ _ _ _ HF.out, HEN.out] at h; rw [HG.out.2]; exact h⟩
                case measure => simp [intOf]; omega
          · have HF : Hid (f p ≠ 10) := h10
            have e10 : (f p == 10) = false := by simpa using h10
            clear h10
            go_wp2_with fail
            go_round
            case rel => exact ⟨p + 1, start, _, _, _, _, _, rfl, rfl, rfl, rfl, rfl, rfl, by go_num, by omega, by omega, by have h := HA.out; rw [HG.out.1, auto_byte f _ _ _ _ _ _ HF.out] at h; rw [HG.out.2]; exact h⟩
            case measure => simp [intOf]; omega
    · have HN : Hid (n - p = 0) := show n - p = 0 by omega
      go_wp2_with fail
      have h := HA.out
      rw [HN.out, auto] at h
      subst h
      exact bodyPost_ret (v := val7 ⟨start, p, sz, ln, c, s, e⟩) (by simp [results, Try.results13, go_sem, val7]) rfl ⟨rfl, rfl⟩
end Go.Proofs.Qxb6605477a
