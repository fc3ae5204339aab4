/- Seat b6604795a: zzjNumber. -/
import Derived.Test.Qxb6604795aString
import Derived.Deep.Cut
namespace Go.Proofs.Qxb6604795a
open Go.RowKit Plain

/-- From i up to j (j ≤ n) all are bytes of a number or a literal. -/
def Run (f : Nat → Int) (n i j : Nat) : Prop := i ≤ j ∧ j ≤ n ∧ ∀ t, i ≤ t → t < j → Sc (f t)
theorem Run.one {f : Nat → Int} {n i j : Nat} (h : Run f n i j) (hj : j < n) (hs : Sc (f j)) : Run f n i (j + 1) := by
  obtain ⟨h1, h2, h3⟩ := h
  refine ⟨by omega, by omega, fun t a b => ?_⟩
  by_cases e : t = j
  · rw [e]; exact hs
  · exact h3 t a (by omega)
theorem Run.digits {f : Nat → Int} {n i j k : Nat} (h : Run f n i j) (h1 : j ≤ k) (h2 : k ≤ n) (hd : ∀ t, j ≤ t → t < k → 48 ≤ f t ∧ f t ≤ 57) : Run f n i k := by
  obtain ⟨a1, a2, a3⟩ := h
  refine ⟨by omega, h2, fun t a b => ?_⟩
  by_cases e : t < j
  · exact a3 t a e
  · have := hd t (by omega) b
    unfold Sc Pl Dl
    omega
theorem sc_of {c : Int} (h : c = 45 ∨ c = 46 ∨ c = 101 ∨ c = 69 ∨ c = 43 ∨ (48 ≤ c ∧ c ≤ 57)) : Sc c := by
  unfold Sc Pl Dl
  omega

set_option maxRecDepth 100000 in
set_option maxHeartbeats 2000000 in
theorem number_any (f : Nat → Int) (b n i : Nat) (w : World) (hn : n ≤ 1048576) (hi : i < n) (hc : ∀ t, t < n → w.cell? ⟨b, t, none⟩ = some (.int .u8 (f t))) :
    Calls Try.prog 41 #[.slice (some ⟨b, 0, none⟩) n n, .int .i64 i] w fun e w' => Two (fun j => i < j ∧ Run f n i j) e ∧ w' = w := by
  have hx := hc i hi
  go_enter Try.func41, Try.ntmps41
  go_upto_if 20 with fail
  go_cut [6] from 9 (fun x wc => wc = w ∧ ∃ j : Nat, x = .int .i64 j ∧ Run f n i j)
  case first =>
    clear hc
    by_cases h : f i = 45
    · have H : Hid _ := h
      go_wp2_with fail
      go_meet
      case rel => exact ⟨rfl, i + 1, by go_num, Run.one ⟨Nat.le_refl _, by omega, fun t a b => by omega⟩ hi (sc_of (.inl H.out))⟩
    · have h' : (f i == 45) = false := by simpa using h
      clear h
      go_wp2_with fail
      go_meet
      case rel => exact ⟨rfl, i, by go_num, ⟨Nat.le_refl _, by omega, fun t a b => by omega⟩⟩
  case rest =>
    obtain ⟨rfl, j, rfl, hr⟩ := hcut
    have hr1 := hr.1
    have hr2 := hr.2.1
    have HR : Hid _ := hr
    clear hr hx
    by_cases hj : j < n
    · have hx := hc j hj
      go_upto_if 31 with fail
      go_cut [6] from 9 (fun x w2 => w2 = wc ∧ ∃ k : Nat, x = .int .i64 k ∧ i < k ∧ Run f n i k)
      case first =>
        by_cases h0 : f j = 48
        · have H : Hid _ := h0
          clear hc
          go_wp2_with fail
          go_meet
          case rel => exact ⟨rfl, j + 1, by go_num, by omega, Run.one HR.out hj (sc_of (by have := H.out; omega))⟩
        · have h0' : (f j == 48) = false := by simpa using h0
          clear h0
          by_cases h1 : 49 ≤ f j
          · by_cases h2 : f j ≤ 57
            · go_wp2_with fail
              refine (digits_at f b n (j + 1) _ _ hn (by omega) (by omega) hc).mono ?_
              rintro e w' ⟨k, rfl, rfl, k1, k2, k3⟩
              have K3 : Hid _ := k3
              clear k3
              go_wp2_with fail
              go_meet
              case rel => exact ⟨rfl, k, rfl, by omega, Run.digits (Run.one HR.out hj (sc_of (by omega))) (by omega) k2 K3.out⟩
            · clear hc
              go_wp2_with fail
              go_ret2
              exact ⟨.inl rfl, rfl⟩
          · clear hc
            go_wp2_with fail
            go_ret2
            exact ⟨.inl rfl, rfl⟩
      case rest =>
        obtain ⟨rfl, k, rfl, hik, hr⟩ := hcut
        clear HR hx hj hr1 hr2
        have hr2 := hr.2.1
        have HR : Hid _ := hr
        clear hr
        go_upto_region 11 with fail
        go_cut [60] from 9 (fun x w2 => w2 = wc ∧ ∃ B : Bool, x = .bool B ∧ (B = true → k < n ∧ f k = 46))
        case first =>
          by_cases hk : k < n
          · have hx := hc k hk
            clear hc
            go_wp2_with fail
            go_meet
            case rel => exact ⟨rfl, _, rfl, fun h => ⟨hk, by simpa using h⟩⟩
          · clear hc
            go_wp2_with fail
            go_meet
            case rel => exact ⟨rfl, _, rfl, fun h => by cases h⟩
        case rest =>
          obtain ⟨rfl, B, rfl, hB⟩ := hcut
          go_upto_if 60 with fail
          go_cut [6] from 9 (fun x w2 => w2 = wc ∧ ∃ m : Nat, x = .int .i64 m ∧ i < m ∧ Run f n i m)
          case first =>
            cases B with
            | false =>
              clear hc
              go_wp2_with fail
              go_meet
              case rel => exact ⟨rfl, k, rfl, hik, HR.out⟩
            | true =>
              have hk := (hB rfl).1
              have H : Hid _ := (hB rfl).2
              clear hB
              go_wp2_with fail
              refine (digits_at f b n (k + 1) _ _ hn (by omega) (by omega) hc).mono ?_
              rintro e w' ⟨m, rfl, rfl, k1, k2, k3⟩
              have K3 : Hid _ := k3
              clear k3 hc
              by_cases hm : m = k + 1
              · subst hm
                go_wp2_with fail
                go_ret2
                exact ⟨.inl rfl, rfl⟩
              · have hm' : ((m : Int) == (k : Int) + 1) = false := by simp; omega
                clear hm
                go_wp2_with fail
                go_meet
                case rel => exact ⟨rfl, m, rfl, by omega, Run.digits (Run.one HR.out hk (sc_of (by have := H.out; omega))) (by omega) k2 K3.out⟩
          case rest =>
            obtain ⟨rfl, m, rfl, him, hr⟩ := hcut
            clear HR hB hik hr2
            have hr2 := hr.2.1
            have HR : Hid _ := hr
            clear hr
            go_upto_region 16 with fail
            go_cut [87] from 9 (fun x w2 => w2 = wc ∧ ∃ B : Bool, x = .bool B ∧ (B = true → m < n ∧ (f m = 101 ∨ f m = 69)))
            case first =>
              by_cases hm : m < n
              · have hx := hc m hm
                clear hc
                by_cases h1 : f m = 101
                · have H : Hid _ := h1
                  go_wp2_with fail
                  go_meet
                  case rel => exact ⟨rfl, _, rfl, fun _ => ⟨hm, .inl H.out⟩⟩
                · have h1' : (f m == 101) = false := by simpa using h1
                  clear h1
                  go_wp2_with fail
                  go_meet
                  case rel => exact ⟨rfl, _, rfl, fun h => ⟨hm, .inr (by simpa using h)⟩⟩
              · clear hc
                go_wp2_with fail
                go_meet
                case rel => exact ⟨rfl, _, rfl, fun h => by cases h⟩
            case rest =>
              obtain ⟨rfl, B2, rfl, hB⟩ := hcut
              cases B2 with
              | false =>
                clear hc
                go_wp2_with fail
                go_ret2
                exact ⟨.inr ⟨m, rfl, him, HR.out⟩, rfl⟩
              | true =>
                have hm := (hB rfl).1
                have H : Hid _ := (hB rfl).2
                clear hB
                have hr' : Run f n i (m + 1) := Run.one HR.out hm (sc_of (by have := H.out; omega))
                have HR2 : Hid (Run f n i (m + 1)) := hr'
                clear hr' HR H
                go_upto_region 18 with fail
                go_cut [107] from 9 (fun x w2 => w2 = wc ∧ ∃ B : Bool, x = .bool B ∧ (B = true → m + 1 < n ∧ (f (m + 1) = 43 ∨ f (m + 1) = 45)))
                case first =>
                  by_cases hm1 : m + 1 < n
                  · have hx := hc (m + 1) hm1
                    clear hc
                    by_cases h1 : f (m + 1) = 43
                    · have H : Hid _ := h1
                      go_wp2_with fail
                      go_meet
                      case rel => exact ⟨rfl, _, rfl, fun _ => ⟨hm1, .inl H.out⟩⟩
                    · have h1' : (f (m + 1) == 43) = false := by simpa using h1
                      clear h1
                      go_wp2_with fail
                      go_meet
                      case rel => exact ⟨rfl, _, rfl, fun h => ⟨hm1, .inr (by simpa using h)⟩⟩
                  · clear hc
                    go_wp2_with fail
                    go_meet
                    case rel => exact ⟨rfl, _, rfl, fun h => by cases h⟩
                case rest =>
                  obtain ⟨rfl, B3, rfl, hB⟩ := hcut
                  go_upto_if 107 with fail
                  go_cut [6] from 9 (fun x w2 => w2 = wc ∧ ∃ q : Nat, x = .int .i64 q ∧ i < q ∧ Run f n i q)
                  case first =>
                    clear hc
                    cases B3 with
                    | false =>
                      go_wp2_with fail
                      go_meet
                      case rel => exact ⟨rfl, m + 1, by go_num, by omega, HR2.out⟩
                    | true =>
                      have hm1 := (hB rfl).1
                      have H : Hid _ := (hB rfl).2
                      clear hB
                      go_wp2_with fail
                      go_meet
                      case rel => exact ⟨rfl, m + 2, by go_num, by omega, Run.one HR2.out hm1 (sc_of (by have := H.out; omega))⟩
                  case rest =>
                    obtain ⟨rfl, q, rfl, hiq, hr⟩ := hcut
                    clear HR2 hB
                    have hq := hr.2.1
                    have HR : Hid _ := hr
                    clear hr
                    go_wp2_with fail
                    refine (digits_at f b n q _ _ hn rfl (by omega) hc).mono ?_
                    rintro e w' ⟨r, rfl, rfl, k1, k2, k3⟩
                    have K3 : Hid _ := k3
                    clear k3 hc
                    by_cases hr : r = q
                    · subst hr
                      go_wp2_with fail
                      go_ret2
                      exact ⟨.inl rfl, rfl⟩
                    · have hr' : ((r : Int) == (q : Int)) = false := by simp; omega
                      clear hr
                      go_wp2_with fail
                      go_ret2
                      exact ⟨.inr ⟨r, rfl, by omega, Run.digits HR.out (by omega) k2 K3.out⟩, rfl⟩
    · clear hc
      go_wp2_with fail
      go_ret2
      exact ⟨.inl rfl, rfl⟩
end Go.Proofs.Qxb6604795a
