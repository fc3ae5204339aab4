/- Seat b6605477a: headSpecFresh computes 'auto' of a fresh scanner. -/
import Derived.Test.Qxb6605477aPlain2
import Derived.Test.Qxb6605477aAuto
import Derived.Deep.Cut
import Derived.Deep.CutRange
import Derived.Deep.LoopGhost
namespace Go.Proofs.Qxb6605477a
open Go.RowKit Plain

set_option maxRecDepth 100000 in
set_option maxHeartbeats 4000000 in
theorem spec_any (f : Nat → Int) (b n : Nat) (w : World) (hn : n ≤ 1048576) (hc : ∀ t, t < n → w.cell? ⟨b, t, none⟩ = some (.int .u8 (f t))) :
    Calls Try.prog 16 #[.slice (some ⟨b, 0, none⟩) n n] w fun e w' => e = .returned (val7 (auto f n 0 0 0 0 false false false)) ∧ w' = w := by
  have HC : Hid (∀ t, t < n → w.cell? ⟨b, t, none⟩ = some (.int .u8 (f t))) := hc
  clear hc
  obtain ⟨R, hR⟩ : ∃ R, R = auto f n 0 0 0 0 false false false := ⟨_, rfl⟩
  have HR : Hid (auto f (n - 0) 0 0 ((0 : Nat) : Int) 0 false false false = R) := hR.symm
  rw [← hR]
  clear hR
  go_enter Try.func16, Try.ntmps16
  go_wp2_with fail
  go_loopg [2] n (fun gk x wx => ∃ q : Nat, q + gk = n ∧ x = .int .i64 q ∧ wx = w ∧ Hid (auto f (n - q) q q (q : Int) 0 false false false = R))
  case atStart => exact ⟨0, by omega, rfl, rfl, HR⟩
  case round =>
    clear HR
    obtain ⟨q, hq, rfl, hwx, HR⟩ := hrel
    obtain rfl := hwx.symm
    clear hwx
    go_upto_region 2 with fail
    go_cut [32] from 16 to 34 (fun x w2 => w2 = w ∧ ∃ B : Bool, x = .bool B ∧ Hid (B = true ↔ (q < n ∧ (f q = 13 ∨ f q = 10))))
    case first =>
      by_cases hqn : q < n
      · have hx := HC.out q hqn
        by_cases h13 : f q = 13
        · have H13 : Hid (f q = 13) := h13
          go_wp2_with fail
          go_meet
          case rel => exact ⟨rfl, _, rfl, by have := H13.out; show _ ↔ _; simp [this, hqn]⟩
        · have e13 : (f q == 13) = false := by simpa using h13
          have H13 : Hid (f q ≠ 13) := h13
          clear h13
          go_wp2_with fail
          go_meet
          case rel => exact ⟨rfl, _, rfl, by have := H13.out; show _ ↔ _; simp [this, hqn]⟩
      · go_wp2_with fail
        go_meet
        case rel => exact ⟨rfl, _, rfl, by show _ ↔ _; simp [Nat.not_lt_of_le (show n ≤ q by omega)]⟩
    case rest =>
      obtain ⟨hw2, B, rfl, HB⟩ := hcut
      obtain rfl := hw2.symm
      clear hw2
      cases B with
      | true =>
        obtain ⟨hqn, hfq⟩ := HB.out.1 rfl
        have HR2 : Hid (auto f (n - (q + 1)) (q + 1) (q + 1) ((q + 1 : Nat) : Int) 0 false false false = R) := by
          have h := HR.out
          rw [show n - q = n - (q + 1) + 1 from by omega, auto_skip f _ q q _ _ _ _ hfq, Plain.wrap_small _ (by omega) (by omega)] at h
          exact h
        clear HB hfq HR
        go_wp2_with fail
        go_roundg (gk - 1)
        case measure => omega
        case rel => exact ⟨q + 1, by omega, by go_num, rfl, HR2⟩
      | false =>
        have HX : Hid (q < n → ¬ (f q = 13 ∨ f q = 10)) := fun h1 h3 => by have := HB.out.2 ⟨h1, h3⟩; cases this
        clear HB
        by_cases hqn : q < n
        · have HQ : Hid (¬ (f q = 13 ∨ f q = 10)) := HX.out hqn
          have HAT : Hid (At f n q (q + 1) R) := at_first hqn hn HQ.out HR.out
          clear HR HX
          go_wp2_with fail
          go_loopg [10, 11] (n - (q + 1)) (fun gk x10 x11 wx => ∃ j : Nat, j + gk = n ∧ wx = w ∧ x11 = .int .i64 j ∧ q + 1 ≤ j ∧ ((x10 = .int .i64 (-1) ∧ Hid (At f n q j R)) ∨ ∃ e : Nat, e ≤ n ∧ x10 = .int .i64 e ∧ Hid (R = ⟨q, e + 1, (e : Int) + 1, 0, false, true, true⟩)))
          case atStart => exact ⟨q + 1, by omega, rfl, by go_num, Nat.le_refl _, .inl ⟨rfl, HAT⟩⟩
          case round =>
            clear HAT
            obtain ⟨j, hjg, hwx, rfl, hqj, hend⟩ := hrel
            obtain rfl := hwx.symm
            clear hwx
            rcases hend with ⟨rfl, HAT⟩ | ⟨e, hen, rfl, HRE⟩
            · by_cases hjn : j < n
              · go_upto_region 9 with fail
                go_cut [83] from 40 to 84 (fun x w2 => w2 = w ∧ ∃ B : Bool, x = .bool B ∧ Hid (B = true ↔ Cnd f q j))
                case first =>
                  have hx := HC.out j hjn
                  by_cases h10 : f j = 10
                  · have H10 : Hid (f j = 10) := h10
                    have hy := HC.out (j - 1) (by omega)
                    have ei : ((j : Int) - 1).toNat = j - 1 := by omega
                    by_cases p10 : f (j - 1) = 10
                    · have P10 : Hid (f (j - 1) = 10) := p10
                      go_wp2_with fail
                      go_meet
                      case rel => exact ⟨rfl, _, rfl, by show _ ↔ _; simp [Cnd, H10.out, P10.out]⟩
                    · have p10' : (f (j - 1) == 10) = false := by simpa using p10
                      have P10 : Hid (f (j - 1) ≠ 10) := p10
                      clear p10
                      by_cases p13 : f (j - 1) = 13
                      · have P13 : Hid (f (j - 1) = 13) := p13
                        by_cases hq2 : (q : Int) ≤ (j : Int) - 2
                        · have hz := HC.out (j - 2) (by omega)
                          have ei2 : ((j : Int) - 2).toNat = j - 2 := by omega
                          clear p10'
                          go_wp2_with fail
                          go_meet
                          case rel => exact ⟨rfl, _, rfl, by show _ ↔ _; simp [Cnd, H10.out, P13.out, show q + 2 ≤ j from by omega]⟩
                        · clear p10'
                          go_wp2_with fail
                          go_meet
                          case rel => exact ⟨rfl, _, rfl, by show _ ↔ _; simp [Cnd, H10.out, P13.out, show ¬ q + 2 ≤ j from by omega]⟩
                      · have p13' : (f (j - 1) == 13) = false := by simpa using p13
                        have P13 : Hid (f (j - 1) ≠ 13) := p13
                        clear p13
                        go_wp2_with fail
                        go_meet
                        case rel => exact ⟨rfl, _, rfl, by show _ ↔ _; simp [Cnd, P10.out, P13.out]⟩
                  · have h10' : (f j == 10) = false := by simpa using h10
                    have H10 : Hid (f j ≠ 10) := h10
                    clear h10
                    go_wp2_with fail
                    go_meet
                    case rel => exact ⟨rfl, _, rfl, by show _ ↔ _; simp [Cnd, H10.out]⟩
                case rest =>
                  obtain ⟨hw2, B, rfl, HB⟩ := hcut
                  obtain rfl := hw2.symm
                  clear hw2
                  cases B with
                  | true =>
                    have HRE : Hid (R = ⟨q, j + 1, (j : Int) + 1, 0, false, true, true⟩) := at_hit HQ.out hqj hjn hn HAT.out (HB.out.1 rfl)
                    clear HB HAT
                    go_wp2_with fail
                    go_roundg (gk - 1)
                    case measure => omega
                    case rel => exact ⟨j + 1, by omega, rfl, by go_num, by omega, .inr ⟨j, by omega, rfl, HRE⟩⟩
                  | false =>
                    have HAT2 : Hid (At f n q (j + 1) R) := at_next HQ.out hqj hjn hn HAT.out (fun x => by have := HB.out.2 x; cases this)
                    clear HB HAT
                    go_wp2_with fail
                    go_roundg (gk - 1)
                    case measure => omega
                    case rel => exact ⟨j + 1, by omega, rfl, by go_num, by omega, .inl ⟨rfl, HAT2⟩⟩
              · obtain rfl : j = n := by omega
                go_wp2_with fail
                go_loop [12, 13] (fun x12 x13 => ∃ ls t : Nat, x12 = .int .i64 ls ∧ x13 = .int .i64 t ∧ t ≤ j ∧ ls ≤ t ∧ Hid (Ls f q t ls)) (fun _ x13 => j - (intOf x13).toNat)
                case atStart => exact ⟨q, q, rfl, rfl, by omega, Nat.le_refl _, Nat.le_refl _, Nat.le_refl _, .inl rfl, fun t a b => by omega⟩
                case round =>
                  obtain ⟨ls, t, rfl, rfl, htj, hlt, HL⟩ := hrel
                  by_cases htn : t < j
                  · have hx := HC.out t htn
                    by_cases h10 : f t = 10
                    · have HL2 : Hid (Ls f q (t + 1) (t + 1)) := ⟨by have := HL.out.1; omega, Nat.le_refl _, .inr h10, fun u a b => by omega⟩
                      go_wp2_with fail
                      go_round
                      case rel => exact ⟨t + 1, t + 1, by go_num, by go_num, by omega, Nat.le_refl _, HL2⟩
                      case measure => simp [intOf]; omega
                    · have h10' : (f t == 10) = false := by simpa using h10
                      have HL2 : Hid (Ls f q (t + 1) ls) := ⟨HL.out.1, by omega, HL.out.2.2.1, fun u a b => by
                        by_cases e : u = t
                        · rw [e]; exact h10
                        · exact HL.out.2.2.2 u a (by omega)⟩
                      clear h10
                      go_wp2_with fail
                      go_round
                      case rel => exact ⟨ls, t + 1, rfl, by go_num, by omega, by omega, HL2⟩
                      case measure => simp [intOf]; omega
                  · obtain rfl : t = j := by omega
                    have hx := HC.out (t - 1) (by omega)
                    have ei : ((t : Int) - 1).toNat = t - 1 := by omega
                    have HRE := at_end (by omega) HAT.out HL.out
                    have HRE2 : Hid (R = ⟨q, t, (t : Int), ((t : Int) - (ls : Int)), f (t - 1) == 13, true, false⟩) := HRE
                    clear HRE
                    go_wp2_with fail
                    have h := HRE2.out
                    exact bodyPost_ret (v := val7 R) (by rw [h]; simp [results, Try.results16, go_sem, val7]) rfl ⟨rfl, rfl⟩
            · have he0 : (0 : Int) ≤ (e : Int) := by omega
              have hed : decide ((e : Int) < 0) = false := by simp
              by_cases hjn : j < n
              · go_wp2_with fail
                have h := HRE.out
                exact bodyPost_ret (v := val7 R) (by rw [h]; simp [results, Try.results16, go_sem, val7]) rfl ⟨rfl, rfl⟩
              · go_wp2_with fail
                have h := HRE.out
                exact bodyPost_ret (v := val7 R) (by rw [h]; simp [results, Try.results16, go_sem, val7]) rfl ⟨rfl, rfl⟩
        · have HR0 : Hid (R = ⟨q, q, (q : Int), 0, false, false, false⟩) := by
            have h := HR.out
            rw [show n - q = 0 from by omega, auto] at h
            exact h.symm
          obtain rfl : q = n := by omega
          clear HR HX
          go_wp2_with fail
          refine wp_loop_rounds 1 ?_
          rw [rounds_succ]
          go_wp2_with fail
          have h := HR0.out
          exact bodyPost_ret (v := val7 R) (by rw [h]; simp [results, Try.results16, go_sem, val7]) rfl ⟨rfl, rfl⟩
end Go.Proofs.Qxb6605477a
