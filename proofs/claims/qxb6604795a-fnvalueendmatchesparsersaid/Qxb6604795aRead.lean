/- Seat b6604795a: the walks that only read: white space, digits, hex digits. -/
import Derived.Test.Qxb6604795aProg
import Derived.Test.Qxb6604795aPlain
import Derived.WalkKit
import Derived.WalkSpells
namespace Go.Proofs.Qxb6604795a
open Go.RowKit Plain

theorem ret_bool {a b : Bool} (h : a = b) : Ending.returned (.bool a) = .returned (.bool b) := by rw [h]

theorem isSpace_yes (c : Int) (w : World) (h : Sp c) : Calls Try.prog 36 #[.int .u8 c] w fun e w' => e = .returned (.bool true) ∧ w' = w := by
  unfold Sp at h
  rcases h with rfl | rfl | rfl | rfl
  all_goals
    go_enter Try.func36, Try.ntmps36
    go_wp2
    go_ret
    exact ⟨rfl, rfl⟩

theorem isSpace_no (c : Int) (w : World) (h : ¬ Sp c) : Calls Try.prog 36 #[.int .u8 c] w fun e w' => e = .returned (.bool false) ∧ w' = w := by
  unfold Sp at h
  have h1 : (c == 32) = false := by simp; omega
  have h2 : (c == 9) = false := by simp; omega
  have h3 : (c == 10) = false := by simp; omega
  have h4 : (c == 13) = false := by simp; omega
  clear h
  go_enter Try.func36, Try.ntmps36
  go_wp2
  go_ret
  exact ⟨rfl, rfl⟩

set_option maxHeartbeats 400000 in
theorem skip_any (f : Nat → Int) (b n i : Nat) (w : World) (hn : n ≤ 1048576) (hi : i ≤ n) (hc : ∀ t, t < n → w.cell? ⟨b, t, none⟩ = some (.int .u8 (f t))) :
    Calls Try.prog 31 #[.slice (some ⟨b, 0, none⟩) n n, .int .i64 i] w fun e w' => ∃ j : Nat, e = .returned (.int .i64 j) ∧ w' = w ∧ i ≤ j ∧ j ≤ n ∧ ∀ t, i ≤ t → t < j → Sp (f t) := by
  go_enter Try.func31, Try.ntmps31
  go_wp2_with fail
  go_loop [1] (fun x => ∃ j : Nat, x = .int .i64 j ∧ i ≤ j ∧ j ≤ n ∧ ∀ t, i ≤ t → t < j → Sp (f t)) (fun x => n - (intOf x).toNat)
  case atStart => exact ⟨i, rfl, Nat.le_refl _, hi, fun t a b => by omega⟩
  case round =>
    obtain ⟨j, rfl, h1, h2, h3⟩ := hrel
    have H3 : Hid _ := h3
    clear h3
    by_cases hlt : j < n
    · have hx := hc j hlt
      clear hc
      by_cases hs : Sp (f j)
      · go_wp2_with (go_at_call 36; refine (isSpace_yes _ _ hs).mono ?_; rintro e w' ⟨rfl, rfl⟩)
        go_round
        case rel => exact ⟨j + 1, by go_num, by omega, by omega, fun t a b => by
          by_cases e : t = j
          · rw [e]; exact hs
          · exact H3.out t a (by omega)⟩
        case measure => simp [intOf]; omega
      · go_wp2_with (go_at_call 36; refine (isSpace_no _ _ hs).mono ?_; rintro e w' ⟨rfl, rfl⟩)
        go_ret
        exact ⟨j, rfl, rfl, h1, h2, H3.out⟩
    · clear hc
      go_wp2_with fail
      go_ret
      exact ⟨j, rfl, rfl, h1, h2, H3.out⟩

set_option maxHeartbeats 400000 in
theorem digits_any (f : Nat → Int) (b n i : Nat) (w : World) (hn : n ≤ 1048576) (hi : i ≤ n) (hc : ∀ t, t < n → w.cell? ⟨b, t, none⟩ = some (.int .u8 (f t))) :
    Calls Try.prog 46 #[.slice (some ⟨b, 0, none⟩) n n, .int .i64 i] w fun e w' => ∃ j : Nat, e = .returned (.int .i64 j) ∧ w' = w ∧ i ≤ j ∧ j ≤ n ∧ ∀ t, i ≤ t → t < j → 48 ≤ f t ∧ f t ≤ 57 := by
  go_enter Try.func46, Try.ntmps46
  go_wp2_with fail
  go_loop [1] (fun x => ∃ j : Nat, x = .int .i64 j ∧ i ≤ j ∧ j ≤ n ∧ ∀ t, i ≤ t → t < j → 48 ≤ f t ∧ f t ≤ 57) (fun x => n - (intOf x).toNat)
  case atStart => exact ⟨i, rfl, Nat.le_refl _, hi, fun t a b => by omega⟩
  case round =>
    obtain ⟨j, rfl, h1, h2, h3⟩ := hrel
    have H3 : Hid _ := h3
    clear h3
    by_cases hlt : j < n
    · have hx := hc j hlt
      clear hc
      by_cases ha : 48 ≤ f j
      · by_cases hb : f j ≤ 57
        · go_wp2_with fail
          go_round
          case rel => exact ⟨j + 1, by go_num, by omega, by omega, fun t a b => by
            by_cases e : t = j
            · rw [e]; exact ⟨ha, hb⟩
            · exact H3.out t a (by omega)⟩
          case measure => simp [intOf]; omega
        · go_wp2_with fail
          go_ret
          exact ⟨j, rfl, rfl, h1, h2, H3.out⟩
      · go_wp2_with fail
        go_ret
        exact ⟨j, rfl, rfl, h1, h2, H3.out⟩
    · clear hc
      go_wp2_with fail
      go_ret
      exact ⟨j, rfl, rfl, h1, h2, H3.out⟩

/-- A hex digit. -/
def Hx (c : Int) : Prop := (48 ≤ c ∧ c ≤ 57) ∨ (97 ≤ c ∧ c ≤ 102) ∨ (65 ≤ c ∧ c ≤ 70)
theorem isHex_yes (c : Int) (w : World) (h : Hx c) : Calls Try.prog 45 #[.int .u8 c] w fun e w' => e = .returned (.bool true) ∧ w' = w := by
  unfold Hx at h
  rcases h with h | h | h
  all_goals
    obtain ⟨h1, h2⟩ := h
    go_enter Try.func45, Try.ntmps45
    go_wp2
    go_ret
    exact ⟨rfl, rfl⟩
theorem isHex_no (c : Int) (w : World) (h : ¬ Hx c) : Calls Try.prog 45 #[.int .u8 c] w fun e w' => e = .returned (.bool false) ∧ w' = w := by
  unfold Hx at h
  have hh : c < 48 ∨ (57 < c ∧ c < 65) ∨ (70 < c ∧ c < 97) ∨ 102 < c := by omega
  clear h
  rcases hh with h | ⟨h1, h2⟩ | ⟨h1, h2⟩ | h
  all_goals
    go_enter Try.func45, Try.ntmps45
    go_wp2
    go_ret
    exact ⟨by first | rfl | exact ret_bool (by simp; omega), rfl⟩

/-- The same at an argument that is spelt otherwise. -/
theorem skip_at (f : Nat → Int) (b n i : Nat) (x : Int) (w : World) (hn : n ≤ 1048576) (hx : x = (i : Int)) (hi : i ≤ n) (hc : ∀ t, t < n → w.cell? ⟨b, t, none⟩ = some (.int .u8 (f t))) :
    Calls Try.prog 31 #[.slice (some ⟨b, 0, none⟩) n n, .int .i64 x] w fun e w' => ∃ j : Nat, e = .returned (.int .i64 j) ∧ w' = w ∧ i ≤ j ∧ j ≤ n ∧ ∀ t, i ≤ t → t < j → Sp (f t) := by
  subst hx; exact skip_any f b n i w hn hi hc
theorem digits_at (f : Nat → Int) (b n i : Nat) (x : Int) (w : World) (hn : n ≤ 1048576) (hx : x = (i : Int)) (hi : i ≤ n) (hc : ∀ t, t < n → w.cell? ⟨b, t, none⟩ = some (.int .u8 (f t))) :
    Calls Try.prog 46 #[.slice (some ⟨b, 0, none⟩) n n, .int .i64 x] w fun e w' => ∃ j : Nat, e = .returned (.int .i64 j) ∧ w' = w ∧ i ≤ j ∧ j ≤ n ∧ ∀ t, i ≤ t → t < j → 48 ≤ f t ∧ f t ≤ 57 := by
  subst hx; exact digits_any f b n i w hn hi hc
end Go.Proofs.Qxb6604795a
