/- Seat b6604795a: zzjDocument, ZZValueEnd, the bound on the length. -/
import Derived.Test.Qxb6604795aValue
import Derived.Test.Qxb6604795aVend
namespace Go.Proofs.Qxb6604795a
open Go.RowKit Plain

theorem bytes_yes (a : Option Addr) (n c : Nat) (i : Int) (w : World) (h : n ≤ 1048576) : Calls Try.prog 8 #[.slice a n c, .int .i64 i] w fun e w' => e = .returned (.bool true) ∧ w' = w := by
  go_enter Try.func8, Try.ntmps8
  go_wp2
  go_ret
  exact ⟨rfl, rfl⟩
theorem bytes_no (a : Option Addr) (n c : Nat) (i : Int) (w : World) (hm : n ≤ maxLen) (h : 1048576 < n) : Calls Try.prog 8 #[.slice a n c, .int .i64 i] w fun e w' => e = .returned (.bool false) ∧ w' = w := by
  unfold maxLen at hm
  go_enter Try.func8, Try.ntmps8
  go_wp2
  go_ret
  exact ⟨rfl, rfl⟩

theorem vend_any (f : Nat → Int) (hf : ∀ t, 0 ≤ f t ∧ f t < 256) (b n i j : Nat) (w : World) (hn : n ≤ 1048576) (hb : b < w.heap.size) (hc : ∀ t, t < n → w.cell? ⟨b, t, none⟩ = some (.int .u8 (f t))) (hi : i < n) (hv : VF f n i j) :
    Calls Try.prog 33 #[.agg #[.slice (some ⟨b, 0, none⟩) n n], .int .i64 i] w fun e w' => e = .returned (.int .i64 j) ∧ Below w.heap.size w w' := by
  rcases hv with ⟨h1, h2⟩ | h | ⟨h1, h2⟩
  · exact vend_str f hf b n i j w hn hb hc hi h1 h2
  · exact vend_con f hf b n i j w hn hb hc hi h
  · exact vend_sca f b n i j w hn hb hc hi h1 h2

set_option maxRecDepth 100000 in
theorem zend_any (f : Nat → Int) (hf : ∀ t, 0 ≤ f t ∧ f t < 256) (b n i j : Nat) (w : World) (hn : n ≤ 1048576) (hb : b < w.heap.size) (hc : ∀ t, t < n → w.cell? ⟨b, t, none⟩ = some (.int .u8 (f t))) (hi : i < n) (hv : VF f n i j) :
    Calls Try.prog 11 #[.slice (some ⟨b, 0, none⟩) n n, .int .i64 i] w fun e w' => e = .returned (.int .i64 j) ∧ Below w.heap.size w w' := by
  have HV : Hid (VF f n i j) := hv
  have HF : Hid (∀ t, 0 ≤ f t ∧ f t < 256) := hf
  have HC : Hid (∀ t, t < n → w.cell? ⟨b, t, none⟩ = some (.int .u8 (f t))) := hc
  clear hv hc hf
  go_enter Try.func11, Try.ntmps11
  go_wp2_with fail
  refine (vend_any f HF.out b n i j _ hn hb HC.out hi HV.out).mono ?_
  rintro e w' ⟨rfl, hbel⟩
  have HB : Hid (Below w.heap.size w w') := hbel
  clear hbel HV
  go_wp2_with fail
  go_ret
  exact ⟨rfl, HB.out⟩

set_option maxRecDepth 100000 in
set_option maxHeartbeats 1000000 in
theorem doc_any (W0 : World) (f : Nat → Int) (b n g : Nat) (hn : n ≤ 1048576) (hbg : b < g) (hc0 : ∀ t, t < n → W0.cell? ⟨b, t, none⟩ = some (.int .u8 (f t))) (w : World) (E : List Int) (hinv : Inv W0 n g w E) :
    Calls Try.prog 10 #[.slice (some ⟨b, 0, none⟩) n n, .slice (some ⟨g, 0, none⟩) n n] w fun e w' => ∃ E', Inv W0 n g w' E' ∧ (e = .returned (.bool false) ∨ (e = .returned (.bool true) ∧ Upd f n E E')) := by
  have HC0 : Hid (∀ t, t < n → W0.cell? ⟨b, t, none⟩ = some (.int .u8 (f t))) := hc0
  have HI : Hid (Inv W0 n g w E) := hinv
  have HC : Hid (∀ t, t < n → w.cell? ⟨b, t, none⟩ = some (.int .u8 (f t))) := hinv.cells hbg hc0
  clear hc0 hinv
  go_enter Try.func10, Try.ntmps10
  go_wp2_with fail
  refine (skip_at f b n 0 _ _ hn rfl (by omega) HC.out).mono ?_
  rintro e w' ⟨j, rfl, rfl, h1, h2, h3⟩
  clear h3
  go_wp2_with fail
  refine (value_all W0 f b n g hn hbg HC0.out n j h2 (by omega) _ _ _ _ rfl HI.out).mono ?_
  rintro e w2 ⟨E2, hinv2, htwo⟩
  have HI2 : Hid (Inv W0 n g w2 E2) := hinv2
  have HC2 : Hid (∀ t, t < n → w2.cell? ⟨b, t, none⟩ = some (.int .u8 (f t))) := hinv2.cells hbg HC0.out
  clear hinv2
  rcases htwo with rfl | ⟨k, rfl, hv⟩
  · go_wp2_with fail
    go_ret
    exact ⟨E2, HI2.out, .inl rfl⟩
  · have HV : Hid (Val f n E E2 j k) := hv
    have hk := hv.1.lt
    clear hv
    go_wp2_with fail
    refine (skip_at f b n k _ _ hn rfl (by omega) HC2.out).mono ?_
    rintro e w3 ⟨m, rfl, rfl, c1, c2, c3⟩
    have C3 : Hid (∀ t, k ≤ t → t < m → Sp (f t)) := c3
    clear c3
    by_cases hm : m = n
    · have hm' : ((m : Int) == (n : Int)) = true := by simp; omega
      have HM : Hid (m = n) := hm
      clear hm
      go_wp2_with fail
      go_ret
      exact ⟨E2, HI2.out, .inr ⟨rfl, HV.out.upd (Plain.follow c1 C3.out (.inl HM.out))⟩⟩
    · have hm' : ((m : Int) == (n : Int)) = false := by simp; omega
      clear hm
      go_wp2_with fail
      go_ret
      exact ⟨E2, HI2.out, .inl rfl⟩
end Go.Proofs.Qxb6604795a
