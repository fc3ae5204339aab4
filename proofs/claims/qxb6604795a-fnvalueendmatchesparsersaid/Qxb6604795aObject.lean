/- Seat b6604795a: zzjObject, from the contract of zzjValue behind it. -/
import Derived.Test.Qxb6604795aInv
namespace Go.Proofs.Qxb6604795a
open Go.RowKit Plain

theorem str_at (f : Nat → Int) (b n i : Nat) (x : Int) (w : World) (hn : n ≤ 1048576) (hx : x = (i : Int)) (hi : i < n) (hc : ∀ t, t < n → w.cell? ⟨b, t, none⟩ = some (.int .u8 (f t))) :
    Calls Try.prog 37 #[.slice (some ⟨b, 0, none⟩) n n, .int .i64 x] w fun e w' => Two (Str f n i) e ∧ w' = w := by
  subst hx; exact string_any f b n i w hn hi hc

set_option maxRecDepth 100000 in
set_option maxHeartbeats 4000000 in
theorem object_of (W0 : World) (f : Nat → Int) (b n g i : Nat) (hn : n ≤ 1048576) (hbg : b < g) (hi : i < n) (hc0 : ∀ t, t < n → W0.cell? ⟨b, t, none⟩ = some (.int .u8 (f t))) (hV : Hid (∀ i', i < i' → i' ≤ n → ValC W0 f b n g i'))
    (dep : Int) (w : World) (E : List Int) (hinv : Inv W0 n g w E) :
    Calls Try.prog 38 #[.slice (some ⟨b, 0, none⟩) n n, .int .i64 i, .int .i64 dep, .slice (some ⟨g, 0, none⟩) n n] w fun e w' => ∃ E', Inv W0 n g w' E' ∧ Two (Body f n E E' i) e := by
  have HC0 : Hid _ := hc0
  have HI : Hid (Inv W0 n g w E) := hinv
  have hc := hinv.cells hbg hc0
  clear hc0 hinv
  by_cases hd : 10000 < dep
  · clear hc
    go_enter Try.func38, Try.ntmps38
    go_wp2_with fail
    go_ret2
    exact ⟨E, HI.out, .inl rfl⟩
  · go_enter Try.func38, Try.ntmps38
    go_wp2_with fail
    refine (skip_at f b n (i + 1) _ _ hn (by omega) (by omega) hc).mono ?_
    rintro e w' ⟨j, rfl, rfl, h1, h2, h3⟩
    have H3 : Hid (Brk f n (i + 1) j) := Brk.sp h1 h2 h3
    clear h3
    go_upto_region 4 with fail
    go_cut [29] from 13 (fun x w2 => w2 = w' ∧ ∃ B : Bool, x = .bool B ∧ (B = true → j < n ∧ f j = 125))
    case first =>
      by_cases hj : j < n
      · have hx := hc j hj
        clear hc
        go_wp2_with fail
        go_meet
        case rel => exact ⟨rfl, _, rfl, fun h => ⟨hj, by simpa using h⟩⟩
      · clear hc
        go_wp2_with fail
        go_meet
        case rel => exact ⟨rfl, _, rfl, fun h => by cases h⟩
    case rest =>
      obtain ⟨rfl, B, rfl, hB⟩ := hcut
      cases B with
      | true =>
        have hj := (hB rfl).1
        have H : Hid _ := (hB rfl).2
        clear hc hB
        go_wp2_with fail
        go_ret2
        exact ⟨E, HI.out, .inr ⟨j + 1, rfl, body_close (Upd.refl _ _ _) (by omega) hj (.inl H.out) H3.out⟩⟩
      | false =>
        clear hB hc
        go_wp2_with fail
        have HI0 : Hid (Inv W0 n g wc E) := HI
        go_loopw [10] (fun x wr => ∃ (j : Nat) (E' : List Int), x = .int .i64 j ∧ i < j ∧ j ≤ n ∧ Hid (Inv W0 n g wr E' ∧ Upd f n E E' ∧ Brk f n (i + 1) j)) (fun x _ => n - (intOf x).toNat)
        case atStart => exact ⟨j, E, rfl, by omega, h2, HI0.out, Upd.refl _ _ _, H3.out⟩
        case round =>
          clear HI HI0 H3 h1 h2
          clear j
          obtain ⟨j, E1, rfl, hij, hjn, HR⟩ := hrel
          have hc := HR.out.1.cells hbg HC0.out
          by_cases hj : j < n
          · have hx := hc j hj
            by_cases hq : f j = 34
            · have HQ : Hid _ := hq
              go_wp2_with fail
              refine (str_at f b n j _ _ hn rfl hj hc).mono ?_
              rintro e w' ⟨htwo, rfl⟩
              rcases htwo with rfl | ⟨k, rfl, hk⟩
              · clear hc
                go_wp2_with fail
                go_ret2
                exact ⟨E1, HR.out.1, .inl rfl⟩
              · have HK : Hid (Str f n j k) := hk
                have hkn := hk.lt
                obtain ⟨hn1, hn2⟩ := HR.out.1.note j hj
                have HI2 : Hid (Inv W0 n g (w'.setCell ⟨g, j, none⟩ (.int .i64 (k : Int))) (E1.set j (k : Int))) := HR.out.1.store j (k : Int)
                have HU2 : Hid (Upd f n E (E1.set j (k : Int))) := HR.out.2.1.set j k (.inl ⟨hq, hk⟩)
                have HC2 : Hid (∀ t, t < n → (w'.setCell ⟨g, j, none⟩ (.int .i64 (k : Int))).cell? ⟨b, t, none⟩ = some (.int .u8 (f t))) := HI2.out.cells hbg HC0.out
                clear hk hc hx hq
                go_wp2_with fail
                refine (skip_at f b n k _ _ hn rfl (by omega) HC2.out).mono ?_
                rintro e w2 ⟨j2, rfl, rfl, a1, a2, a3⟩
                have A3 : Hid (∀ t, k ≤ t → t < j2 → Sp (f t)) := a3
                clear a3 hn1 hn2
                by_cases hj2 : j2 < n
                · have hx := HC2.out j2 hj2
                  by_cases hco : f j2 = 58
                  · have HCO : Hid (f j2 = 58) := hco
                    go_wp2_with fail
                    refine (skip_at f b n (j2 + 1) _ _ hn (by omega) (by omega) HC2.out).mono ?_
                    rintro e w3 ⟨j3, rfl, rfl, b1, b2, b3⟩
                    have B3 : Hid (∀ t, j2 + 1 ≤ t → t < j3 → Sp (f t)) := b3
                    clear b3 hx hco
                    go_wp2_with fail
                    refine (hV.out j3 (by omega) b2 _ _ _ _ rfl HI2.out).mono ?_
                    rintro e w4 ⟨E4, hinv4, htwo⟩
                    have HI4 : Hid (Inv W0 n g w4 E4) := hinv4
                    have HC4 : Hid (∀ t, t < n → w4.cell? ⟨b, t, none⟩ = some (.int .u8 (f t))) := hinv4.cells hbg HC0.out
                    clear hinv4 HC2
                    rcases htwo with rfl | ⟨v, rfl, hv⟩
                    · go_wp2_with fail
                      go_ret2
                      exact ⟨E4, HI4.out, .inl rfl⟩
                    · have HV4 : Hid (Val f n (E1.set j (k : Int)) E4 j3 v) := hv
                      have hvn := hv.1.lt
                      clear hv
                      go_wp2_with fail
                      refine (skip_at f b n v _ _ hn rfl (by omega) HC4.out).mono ?_
                      rintro e w5 ⟨m, rfl, rfl, c1, c2, c3⟩
                      have C3 : Hid (∀ t, v ≤ t → t < m → Sp (f t)) := c3
                      clear c3
                      have HB : Hid (Brk f n (i + 1) m) := member HR.out.2.2 HQ.out HK.out a1 hj2 A3.out HCO.out b1 b2 B3.out HV4.out.1 c1 c2 C3.out
                      by_cases hm : m < n
                      · have hx := HC4.out m hm
                        by_cases hcl : f m = 125
                        · have HCL : Hid (f m = 125) := hcl
                          go_wp2_with fail
                          go_ret2
                          exact ⟨E4, HI4.out, .inr ⟨m + 1, rfl, body_close (HU2.out.trans (HV4.out.upd (Plain.follow c1 C3.out (.inr (.inr (.inl HCL.out)))))) (by omega) hm (.inl HCL.out) HB.out⟩⟩
                        · by_cases hcm : f m = 44
                          · have HCM : Hid (f m = 44) := hcm
                            clear hcl
                            go_wp2_with fail
                            refine (skip_at f b n (m + 1) _ _ hn (by omega) (by omega) HC4.out).mono ?_
                            rintro e w6 ⟨p, rfl, rfl, d1, d2, d3⟩
                            have D3 : Hid (∀ t, m + 1 ≤ t → t < p → Sp (f t)) := d3
                            clear d3
                            go_wp2_with fail
                            go_roundw
                            case rel => exact ⟨p, E4, rfl, by omega, d2, HI4.out, HU2.out.trans (HV4.out.upd (Plain.follow c1 C3.out (.inr (.inl HCM.out)))), comma HB.out hm HCM.out d1 d2 D3.out⟩
                            case measure => simp [intOf]; omega
                          · have h1' : (f m == 125) = false := by simpa using hcl
                            have h2' : (f m != 44) = true := by simpa using hcm
                            clear hcl hcm
                            go_wp2_with fail
                            go_ret2
                            exact ⟨E4, HI4.out, .inl rfl⟩
                      · go_wp2_with fail
                        go_ret2
                        exact ⟨E4, HI4.out, .inl rfl⟩
                  · have hco' : (f j2 != 58) = true := by simpa using hco
                    clear hco
                    go_wp2_with fail
                    go_ret2
                    exact ⟨_, HI2.out, .inl rfl⟩
                · go_wp2_with fail
                  go_ret2
                  exact ⟨_, HI2.out, .inl rfl⟩
            · have hq' : (f j != 34) = true := by simpa using hq
              clear hq hc
              go_wp2_with fail
              go_ret2
              exact ⟨E1, HR.out.1, .inl rfl⟩
          · clear hc
            go_wp2_with fail
            go_ret2
            exact ⟨E1, HR.out.1, .inl rfl⟩
end Go.Proofs.Qxb6604795a
