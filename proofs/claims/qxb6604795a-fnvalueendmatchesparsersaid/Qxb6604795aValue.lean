/- Seat b6604795a: zzjValue, by induction on what is left of the text. -/
import Derived.Test.Qxb6604795aObject
import Derived.Test.Qxb6604795aArray
namespace Go.Proofs.Qxb6604795a
open Go.RowKit Plain

theorem sc_true (k : Nat) (h : k < (⟨#[116, 114, 117, 101]⟩ : ByteArray).size) : Sc (((⟨#[116, 114, 117, 101]⟩ : ByteArray)[k]'h).toNat : Int) := by
  have h4 : k < 4 := h
  have h' : k = 0 ∨ k = 1 ∨ k = 2 ∨ k = 3 := by omega
  rcases h' with rfl | rfl | rfl | rfl
  · show Sc (116 : Int); unfold Sc Pl Dl; omega
  · show Sc (114 : Int); unfold Sc Pl Dl; omega
  · show Sc (117 : Int); unfold Sc Pl Dl; omega
  · show Sc (101 : Int); unfold Sc Pl Dl; omega
theorem sc_false (k : Nat) (h : k < (⟨#[102, 97, 108, 115, 101]⟩ : ByteArray).size) : Sc (((⟨#[102, 97, 108, 115, 101]⟩ : ByteArray)[k]'h).toNat : Int) := by
  have h4 : k < 5 := h
  have h' : k = 0 ∨ k = 1 ∨ k = 2 ∨ k = 3 ∨ k = 4 := by omega
  rcases h' with rfl | rfl | rfl | rfl | rfl
  · show Sc (102 : Int); unfold Sc Pl Dl; omega
  · show Sc (97 : Int); unfold Sc Pl Dl; omega
  · show Sc (108 : Int); unfold Sc Pl Dl; omega
  · show Sc (115 : Int); unfold Sc Pl Dl; omega
  · show Sc (101 : Int); unfold Sc Pl Dl; omega
theorem sc_null (k : Nat) (h : k < (⟨#[110, 117, 108, 108]⟩ : ByteArray).size) : Sc (((⟨#[110, 117, 108, 108]⟩ : ByteArray)[k]'h).toNat : Int) := by
  have h4 : k < 4 := h
  have h' : k = 0 ∨ k = 1 ∨ k = 2 ∨ k = 3 := by omega
  rcases h' with rfl | rfl | rfl | rfl
  · show Sc (110 : Int); unfold Sc Pl Dl; omega
  · show Sc (117 : Int); unfold Sc Pl Dl; omega
  · show Sc (108 : Int); unfold Sc Pl Dl; omega
  · show Sc (108 : Int); unfold Sc Pl Dl; omega
theorem val_mk {f : Nat → Int} {n i j : Nat} {E E1 : List Int} (hv : VE f n i j) (hu : Upd f n E E1) : Val f n E (E1.set i (j : Int)) i j := ⟨hv, E1, hu, rfl⟩
theorem ve_body {f : Nat → Int} {n i j : Nat} {E E1 : List Int} (ho : Plain.Op (f i)) (h : Body f n E E1 i j) : VE f n i j := .inr (.inl ⟨ho, h.2⟩)
theorem ve_run {f : Nat → Int} {n i j : Nat} (h : i < j ∧ Run f n i j) : VE f n i j := .inr (.inr ⟨h.1, h.2.2.1, h.2.2.2⟩)

set_option maxRecDepth 100000 in
set_option maxHeartbeats 4000000 in
theorem value_of (W0 : World) (f : Nat → Int) (b n g i : Nat) (hn : n ≤ 1048576) (hbg : b < g) (hin : i ≤ n) (hc0 : ∀ t, t < n → W0.cell? ⟨b, t, none⟩ = some (.int .u8 (f t))) (hV : Hid (∀ i', i < i' → i' ≤ n → ValC W0 f b n g i')) : ValC W0 f b n g i := by
  intro x dep w E hx hinv
  subst hx
  have HC0 : Hid (∀ t, t < n → W0.cell? ⟨b, t, none⟩ = some (.int .u8 (f t))) := hc0
  have HI : Hid (Inv W0 n g w E) := hinv
  have HC : Hid (∀ t, t < n → w.cell? ⟨b, t, none⟩ = some (.int .u8 (f t))) := hinv.cells hbg hc0
  clear hc0 hinv
  by_cases hi : i < n
  · have hx := HC.out i hi
    by_cases c1 : f i = 34
    · have HF : Hid (f i = 34) := c1
      obtain ⟨hn1, hn2⟩ := HI.out.note i hi
      go_enter Try.func32, Try.ntmps32
      go_wp2_with fail
      refine (str_at f b n i _ _ hn rfl hi HC.out).mono ?_
      rintro e w' ⟨htwo, rfl⟩
      rcases htwo with rfl | ⟨j, rfl, hj⟩
      · go_wp2_with fail
        go_ret2
        exact ⟨E, HI.out, .inl rfl⟩
      · have HJ : Hid (Str f n i j) := hj
        clear hj
        go_wp2_with fail
        go_ret2
        exact ⟨_, HI.out.store i j, .inr ⟨j, rfl, val_mk (.inl ⟨HF.out, HJ.out⟩) (Upd.refl _ _ _)⟩⟩
    · have f1 : (f i == 34) = false := by simpa using c1
      clear c1
      by_cases c2 : f i = 123
      · have HF : Hid (f i = 123) := c2
        obtain ⟨hn1, hn2⟩ := HI.out.note i hi
        rw [c2] at f1
        clear f1 hn1 hn2
        go_enter Try.func32, Try.ntmps32
        go_wp2_with fail
        refine (object_of W0 f b n g i hn hbg hi HC0.out hV _ _ E HI.out).mono ?_
        rintro e w' ⟨E1, hinv1, htwo⟩
        have HI1 : Hid (Inv W0 n g w' E1) := hinv1
        obtain ⟨hn1, hn2⟩ := hinv1.note i hi
        clear hinv1
        rcases htwo with rfl | ⟨j, rfl, hj⟩
        · go_wp2_with fail
          go_ret2
          exact ⟨E1, HI1.out, .inl rfl⟩
        · have HJ : Hid (Body f n E E1 i j) := hj
          clear hj
          go_wp2_with fail
          go_ret2
          exact ⟨_, HI1.out.store i j, .inr ⟨j, rfl, val_mk (ve_body (.inl HF.out) HJ.out) HJ.out.1⟩⟩
      · have f2 : (f i == 123) = false := by simpa using c2
        clear c2
        by_cases c3 : f i = 91
        · have HF : Hid (f i = 91) := c3
          rw [c3] at f1 f2
          clear f1 f2
          go_enter Try.func32, Try.ntmps32
          go_wp2_with fail
          refine (array_of W0 f b n g i hn hbg hi HC0.out hV _ _ E HI.out).mono ?_
          rintro e w' ⟨E1, hinv1, htwo⟩
          have HI1 : Hid (Inv W0 n g w' E1) := hinv1
          obtain ⟨hn1, hn2⟩ := hinv1.note i hi
          clear hinv1
          rcases htwo with rfl | ⟨j, rfl, hj⟩
          · go_wp2_with fail
            go_ret2
            exact ⟨E1, HI1.out, .inl rfl⟩
          · have HJ : Hid (Body f n E E1 i j) := hj
            clear hj
            go_wp2_with fail
            go_ret2
            exact ⟨_, HI1.out.store i j, .inr ⟨j, rfl, val_mk (ve_body (.inr HF.out) HJ.out) HJ.out.1⟩⟩
        · have f3 : (f i == 91) = false := by simpa using c3
          clear c3
          by_cases c4 : f i = 116
          · rw [c4] at f1 f2 f3
            clear f1 f2 f3
            obtain ⟨hn1, hn2⟩ := HI.out.note i hi
            go_enter Try.func32, Try.ntmps32
            go_wp2_with fail
            refine (literal_any f b n i _ _ hn (by decide) (by decide) hi sc_true HC.out).mono ?_
            rintro e w' ⟨htwo, d, rfl⟩
            rcases htwo with rfl | ⟨j, rfl, hj⟩
            · go_wp2_with fail
              go_ret2
              exact ⟨E, HI.out.drewN d, .inl rfl⟩
            · have HJ : Hid (i < j ∧ Run f n i j) := hj
              clear hj
              go_wp2_with fail
              go_ret2
              exact ⟨_, (HI.out.drewN d).store i j, .inr ⟨j, rfl, val_mk (ve_run HJ.out) (Upd.refl _ _ _)⟩⟩
          · have f4 : (f i == 116) = false := by simpa using c4
            clear c4
            by_cases c5 : f i = 102
            · rw [c5] at f1 f2 f3 f4
              clear f1 f2 f3 f4
              obtain ⟨hn1, hn2⟩ := HI.out.note i hi
              go_enter Try.func32, Try.ntmps32
              go_wp2_with fail
              refine (literal_any f b n i _ _ hn (by decide) (by decide) hi sc_false HC.out).mono ?_
              rintro e w' ⟨htwo, d, rfl⟩
              rcases htwo with rfl | ⟨j, rfl, hj⟩
              · go_wp2_with fail
                go_ret2
                exact ⟨E, HI.out.drewN d, .inl rfl⟩
              · have HJ : Hid (i < j ∧ Run f n i j) := hj
                clear hj
                go_wp2_with fail
                go_ret2
                exact ⟨_, (HI.out.drewN d).store i j, .inr ⟨j, rfl, val_mk (ve_run HJ.out) (Upd.refl _ _ _)⟩⟩
            · have f5 : (f i == 102) = false := by simpa using c5
              clear c5
              by_cases c6 : f i = 110
              · rw [c6] at f1 f2 f3 f4 f5
                clear f1 f2 f3 f4 f5
                obtain ⟨hn1, hn2⟩ := HI.out.note i hi
                go_enter Try.func32, Try.ntmps32
                go_wp2_with fail
                refine (literal_any f b n i _ _ hn (by decide) (by decide) hi sc_null HC.out).mono ?_
                rintro e w' ⟨htwo, d, rfl⟩
                rcases htwo with rfl | ⟨j, rfl, hj⟩
                · go_wp2_with fail
                  go_ret2
                  exact ⟨E, HI.out.drewN d, .inl rfl⟩
                · have HJ : Hid (i < j ∧ Run f n i j) := hj
                  clear hj
                  go_wp2_with fail
                  go_ret2
                  exact ⟨_, (HI.out.drewN d).store i j, .inr ⟨j, rfl, val_mk (ve_run HJ.out) (Upd.refl _ _ _)⟩⟩
              · have f6 : (f i == 110) = false := by simpa using c6
                clear c6
                by_cases c7 : f i = 45
                · rw [c7] at f1 f2 f3 f4 f5 f6
                  clear f1 f2 f3 f4 f5 f6
                  obtain ⟨hn1, hn2⟩ := HI.out.note i hi
                  go_enter Try.func32, Try.ntmps32
                  go_wp2_with fail
                  refine (number_any f b n i _ hn hi HC.out).mono ?_
                  rintro e w' ⟨htwo, rfl⟩
                  rcases htwo with rfl | ⟨j, rfl, hj⟩
                  · go_wp2_with fail
                    go_ret2
                    exact ⟨E, HI.out, .inl rfl⟩
                  · have HJ : Hid (i < j ∧ Run f n i j) := hj
                    clear hj
                    go_wp2_with fail
                    go_ret2
                    exact ⟨_, HI.out.store i j, .inr ⟨j, rfl, val_mk (ve_run HJ.out) (Upd.refl _ _ _)⟩⟩
                · have f7 : (f i == 45) = false := by simpa using c7
                  clear c7
                  by_cases c8 : 48 ≤ f i
                  · by_cases c9 : f i ≤ 57
                    · obtain ⟨hn1, hn2⟩ := HI.out.note i hi
                      go_enter Try.func32, Try.ntmps32
                      go_wp2_with fail
                      refine (number_any f b n i _ hn hi HC.out).mono ?_
                      rintro e w' ⟨htwo, rfl⟩
                      rcases htwo with rfl | ⟨j, rfl, hj⟩
                      · go_wp2_with fail
                        go_ret2
                        exact ⟨E, HI.out, .inl rfl⟩
                      · have HJ : Hid (i < j ∧ Run f n i j) := hj
                        clear hj
                        go_wp2_with fail
                        go_ret2
                        exact ⟨_, HI.out.store i j, .inr ⟨j, rfl, val_mk (ve_run HJ.out) (Upd.refl _ _ _)⟩⟩
                    · go_enter Try.func32, Try.ntmps32
                      go_wp2_with fail
                      go_ret2
                      exact ⟨E, HI.out, .inl rfl⟩
                  · go_enter Try.func32, Try.ntmps32
                    go_wp2_with fail
                    go_ret2
                    exact ⟨E, HI.out, .inl rfl⟩
  · go_enter Try.func32, Try.ntmps32
    go_wp2_with fail
    go_ret2
    exact ⟨E, HI.out, .inl rfl⟩

theorem value_all (W0 : World) (f : Nat → Int) (b n g : Nat) (hn : n ≤ 1048576) (hbg : b < g) (hc0 : ∀ t, t < n → W0.cell? ⟨b, t, none⟩ = some (.int .u8 (f t))) : ∀ (m i : Nat), i ≤ n → n - i ≤ m → ValC W0 f b n g i
  | 0, i, hi, hm => value_of W0 f b n g i hn hbg hi hc0 (fun i' h1 h2 => by omega)
  | m + 1, i, hi, hm => value_of W0 f b n g i hn hbg hi hc0 (fun i' h1 h2 => value_all W0 f b n g hn hbg hc0 m i' h2 (by omega))
end Go.Proofs.Qxb6604795a
