/- Seat b6604795a: zzjString: the parser of a string. -/
import Derived.Test.Qxb6604795aRead
namespace Go.Proofs.Qxb6604795a
open Go.RowKit Plain

/-- (j, true), with what is known of j; or (0, false). -/
def Two (R : Nat → Prop) (e : Ending) : Prop := e = .returned (.tuple #[.int .i64 0, .bool false]) ∨ ∃ j : Nat, e = .returned (.tuple #[.int .i64 j, .bool true]) ∧ R j

theorem hx_plain {c : Int} (h : Hx c) : c ≠ 34 ∧ c ≠ 92 := by unfold Hx at h; omega

theorem rd_u {f : Nat → Int} {a j : Nat} (h : Rd f a j) (hb : f j = 92) (h2 : Hx (f (j + 2))) (h3 : Hx (f (j + 3))) (h4 : Hx (f (j + 4))) (h5 : Hx (f (j + 5))) : Rd f a (j + 6) :=
  ((((h.two hb).one (hx_plain h2).1 (hx_plain h2).2).one (hx_plain h3).1 (hx_plain h3).2).one (hx_plain h4).1 (hx_plain h4).2).one (hx_plain h5).1 (hx_plain h5).2

set_option maxRecDepth 100000 in
set_option maxHeartbeats 2000000 in
theorem string_any (f : Nat → Int) (b n i : Nat) (w : World) (hn : n ≤ 1048576) (hi : i < n) (hc : ∀ t, t < n → w.cell? ⟨b, t, none⟩ = some (.int .u8 (f t))) :
    Calls Try.prog 37 #[.slice (some ⟨b, 0, none⟩) n n, .int .i64 i] w fun e w' => Two (Str f n i) e ∧ w' = w := by
  go_enter Try.func37, Try.ntmps37
  go_wp2_with fail
  go_loop [6] (fun x => ∃ j : Nat, x = .int .i64 j ∧ j ≤ n ∧ Rd f (i + 1) j) (fun x => n - (intOf x).toNat)
  case atStart => exact ⟨i + 1, by go_num, by omega, Rd.refl _ _⟩
  case round =>
    obtain ⟨j, rfl, h2, h3⟩ := hrel
    have H3 : Hid _ := h3
    clear h3
    by_cases hlt : j < n
    · have hx := hc j hlt
      by_cases hq : f j = 34
      · have HQ : Hid _ := hq
        clear hc
        go_wp2_with fail
        go_ret2
        exact ⟨.inr ⟨j + 1, rfl, j, rfl, hlt, H3.out, HQ.out⟩, rfl⟩
      · by_cases hctl : f j < 32
        · have hq' : (f j == 34) = false := by simpa using hq
          clear hc hq
          go_wp2_with fail
          go_ret2
          exact ⟨.inl rfl, rfl⟩
        · by_cases hb : f j = 92
          · have HB : Hid _ := hb
            by_cases hl1 : j + 1 < n
            · have hd := hc (j + 1) hl1
              by_cases hset : f (j + 1) = 34 ∨ f (j + 1) = 92 ∨ f (j + 1) = 47 ∨ f (j + 1) = 98 ∨ f (j + 1) = 102 ∨ f (j + 1) = 110 ∨ f (j + 1) = 114 ∨ f (j + 1) = 116
              · clear hc
                rcases hset with hs | hs | hs | hs | hs | hs | hs | hs
                all_goals
                  go_wp2_with fail
                  go_round
                  case rel => exact ⟨j + 2, by go_num, by omega, Rd.two H3.out HB.out⟩
                  case measure => simp [intOf]; omega
              · have d1 : (f (j + 1) == 34) = false := by simp; omega
                have d2 : (f (j + 1) == 92) = false := by simp; omega
                have d3 : (f (j + 1) == 47) = false := by simp; omega
                have d4 : (f (j + 1) == 98) = false := by simp; omega
                have d5 : (f (j + 1) == 102) = false := by simp; omega
                have d6 : (f (j + 1) == 110) = false := by simp; omega
                have d7 : (f (j + 1) == 114) = false := by simp; omega
                have d8 : (f (j + 1) == 116) = false := by simp; omega
                clear hset hq
                by_cases hu : f (j + 1) = 117
                · by_cases hl5 : j + 5 < n
                  · rw [hu] at d1 d2 d3 d4 d5 d6 d7 d8
                    clear d1 d2 d3 d4 d5 d6 d7 d8
                    go_wp2_with fail
                    go_loop [9] (fun x => ∃ k : Nat, x = .int .i64 k ∧ j + 2 ≤ k ∧ k ≤ j + 6 ∧ ∀ t, j + 2 ≤ t → t < k → Hx (f t)) (fun x => j + 6 - (intOf x).toNat)
                    case atStart => exact ⟨j + 2, by go_num, Nat.le_refl _, by omega, fun t a b => by omega⟩
                    case round =>
                      obtain ⟨k, rfl, k1, k2, k3⟩ := hrel
                      have K3 : Hid _ := k3
                      clear k3
                      by_cases hk : k < j + 6
                      · have hy := hc k (by omega)
                        clear hc
                        by_cases hh : Hx (f k)
                        · go_wp2_with (go_at_call 45; refine (isHex_yes _ _ hh).mono ?_; rintro e w' ⟨rfl, rfl⟩)
                          go_round
                          case rel => exact ⟨k + 1, by go_num, by omega, by omega, fun t a b => by
                            by_cases e : t = k
                            · rw [e]; exact hh
                            · exact K3.out t a (by omega)⟩
                          case measure => simp [intOf]; omega
                        · go_wp2_with (go_at_call 45; refine (isHex_no _ _ hh).mono ?_; rintro e w' ⟨rfl, rfl⟩)
                          go_ret2
                          exact ⟨.inl rfl, rfl⟩
                      · clear hc
                        go_wp2_with fail
                        go_round
                        case rel => exact ⟨j + 6, by go_num, by omega, rd_u H3.out HB.out (K3.out _ (by omega) (by omega)) (K3.out _ (by omega) (by omega)) (K3.out _ (by omega) (by omega)) (K3.out _ (by omega) (by omega))⟩
                        case measure => simp [intOf]; omega
                  · clear hc
                    go_wp2_with fail
                    go_ret2
                    exact ⟨.inl rfl, rfl⟩
                · have d9 : (f (j + 1) != 117) = true := by simpa using hu
                  clear hc hu
                  go_wp2_with fail
                  go_ret2
                  exact ⟨.inl rfl, rfl⟩
            · clear hc
              go_wp2_with fail
              go_ret2
              exact ⟨.inl rfl, rfl⟩
          · have hq' : (f j == 34) = false := by simpa using hq
            have hb' : (f j == 92) = false := by simpa using hb
            have HQ : Hid (f j ≠ 34) := hq
            have HB : Hid (f j ≠ 92) := hb
            clear hc hq hb
            go_wp2_with fail
            go_round
            case rel => exact ⟨j + 1, by go_num, by omega, Rd.one H3.out HQ.out HB.out⟩
            case measure => simp [intOf]; omega
    · clear hc
      go_wp2_with fail
      go_ret2
      exact ⟨.inl rfl, rfl⟩
end Go.Proofs.Qxb6604795a
