/- Seat b6605550a: the law FnStringEndMatchesEscapeScanner. -/
import Derived.Test.Qxb6605550aCopy
import Derived.Test.Qxb6605550aString
namespace Go.Proofs.Qxb6605550a
open Go.RowKit Plain

theorem bytes8_yes (i : Int) (a : Option Addr) (n c : Nat) (w : World) (h : n ≤ 1048576) : Calls Try.prog 8 #[.slice a n c, .int .i64 i] w fun e w' => e = .returned (.bool true) ∧ w' = w := by
  go_enter Try.func8, Try.ntmps8
  go_wp2
  go_ret
  exact ⟨rfl, rfl⟩
theorem bytes8_no (i : Int) (a : Option Addr) (n c : Nat) (w : World) (hm : n ≤ maxLen) (h : 1048576 < n) : Calls Try.prog 8 #[.slice a n c, .int .i64 i] w fun e w' => e = .returned (.bool false) ∧ w' = w := by
  unfold maxLen at hm
  go_enter Try.func8, Try.ntmps8
  go_wp2
  go_ret
  exact ⟨rfl, rfl⟩

set_option maxRecDepth 100000 in
theorem zend_any (f : Nat → Int) (hf : ∀ t, 0 ≤ f t ∧ f t < 256) (b n i : Nat) (w : World) (hn : n ≤ 1048576) (hi : i ≤ n) (hc : ∀ t, t < n → w.cell? ⟨b, t, none⟩ = some (.int .u8 (f t))) :
    Calls Try.prog 10 #[.slice (some ⟨b, 0, none⟩) n n, .int .i64 i] w fun e w' => ∃ r, e = .returned (.int .i64 r) ∧ Ans f n i r ∧ w' = w := by
  have HF : Hid (∀ t, 0 ≤ f t ∧ f t < 256) := hf
  have HC : Hid (∀ t, t < n → w.cell? ⟨b, t, none⟩ = some (.int .u8 (f t))) := hc
  clear hf hc
  go_enter Try.func10, Try.ntmps10
  go_wp2_with fail
  refine (end_any f HF.out b n i _ hn hi HC.out).mono ?_
  rintro e w' ⟨r, rfl, ha, hw⟩
  obtain rfl := hw.symm
  have HA : Hid (Ans f n i r) := ha
  clear hw ha
  go_wp2_with fail
  go_ret
  exact ⟨r, rfl, HA.out, rfl⟩

set_option maxRecDepth 100000 in
theorem end_nil (w : World) : Calls Try.prog 23 #[.slice none 0 0, .int .i64 0] w fun e w' => e = .returned (.int .i64 (-1)) ∧ w' = w := by
  go_enter Try.func23, Try.ntmps23
  go_wp2_with fail
  refine wp_loop_rounds 1 ?_
  rw [rounds_succ]
  go_wp2_with fail
  refine (index_nil _ _).mono ?_
  rintro e w' ⟨rfl, rfl⟩
  go_wp2_with fail
  go_ret
  exact ⟨rfl, rfl⟩
set_option maxRecDepth 100000 in
theorem zend_nil (w : World) : Calls Try.prog 10 #[.slice none 0 0, .int .i64 0] w fun e w' => e = .returned (.int .i64 (-1)) ∧ w' = w := by
  go_enter Try.func10, Try.ntmps10
  go_wp2_with fail
  refine (end_nil _).mono ?_
  rintro e w' ⟨rfl, rfl⟩
  go_wp2_with fail
  go_ret
  exact ⟨rfl, rfl⟩
set_option maxRecDepth 100000 in
theorem scan_nil (w : World) : Calls Try.prog 11 #[.slice none 0 0, .int .i64 0] w fun e w' => e = .returned (.int .i64 (-1)) ∧ w' = w := by
  go_enter Try.func11, Try.ntmps11
  go_wp2_with fail
  refine wp_loop_rounds 1 ?_
  rw [rounds_succ]
  go_wp2_with fail
  go_ret
  exact ⟨rfl, rfl⟩

set_option maxRecDepth 100000 in
theorem law1_nil (w : World) : Calls Try.prog 3 #[.slice none 0 0, .int .i64 0] w fun e w' => e = .returned (.bool true) ∧ Below w.heap.size w w' := by
  go_enter Try.func3, Try.ntmps3
  go_wp2_with fail
  refine (bytes8_yes _ _ 0 0 _ (by omega)).mono ?_
  rintro e w' ⟨rfl, rfl⟩
  go_wp2_with fail
  refine (clone_nil _).mono ?_
  rintro e w1 ⟨rfl, hw⟩
  obtain rfl := hw.symm
  clear hw
  go_wp2_with fail
  refine (zend_nil _).mono ?_
  rintro e w1 ⟨rfl, hw⟩
  obtain rfl := hw.symm
  clear hw
  go_wp2_with fail
  refine (scan_nil _).mono ?_
  rintro e w1 ⟨rfl, hw⟩
  obtain rfl := hw.symm
  clear hw
  go_wp2_with fail
  go_ret
  exact ⟨rfl, Below.refl _ _⟩

set_option maxRecDepth 100000 in
theorem law1_some (x : Addr) (n cap i : Nat) (zs : List Int) (w : World) (hin : i ≤ n) (hn : n ≤ 1048576) (hlc : n ≤ cap) (hzl : zs.length = cap)
    (hzr : ∀ j, 0 ≤ zs.getD j 0 ∧ zs.getD j 0 < 256) (hcell : ∀ i, i < zs.length → w.cell? (x.add i) = some (.int .u8 (zs.getD i 0))) :
    Calls Try.prog 3 #[.slice (some x) n cap, .int .i64 i] w fun e w' => e = .returned (.bool true) ∧ Below w.heap.size w w' := by
  have HCE : Hid (∀ i, i < zs.length → w.cell? (x.add i) = some (.int .u8 (zs.getD i 0))) := hcell
  obtain ⟨f, hf⟩ : ∃ f : Nat → Int, f = fun t => zs.getD t 0 := ⟨_, rfl⟩
  have HFR : Hid (∀ t, 0 ≤ f t ∧ f t < 256) := by rw [hf]; exact hzr
  have HFE : Hid (∀ t, f t = zs.getD t 0) := by rw [hf]; exact fun _ => rfl
  clear hzr hf hcell
  go_enter Try.func3, Try.ntmps3
  go_wp2_with fail
  refine (bytes8_yes _ _ n cap _ hn).mono ?_
  rintro e w' ⟨rfl, rfl⟩
  go_wp2_with fail
  refine (clone_all _ n cap zs _ hlc hzl hn x rfl HCE.out).mono ?_
  rintro e w1 ⟨rfl, hb1, hlt1, hc1⟩
  have HB1 : Hid (Below w'.heap.size w' w1) := hb1
  have HC1 : Hid (∀ t, t < n → w1.cell? ⟨w'.heap.size, t, none⟩ = some (.int .u8 (f t))) := fun t ht => by rw [HFE.out]; exact hc1 t ht
  clear hb1 hlt1 hc1
  go_wp2_with fail
  refine (zend_any f HFR.out w'.heap.size n i _ hn hin HC1.out).mono ?_
  rintro e w2 ⟨r, rfl, ha, hw⟩
  obtain rfl := hw.symm
  have HA : Hid (Ans f n i r) := ha
  clear hw ha
  go_wp2_with fail
  refine (scan_any f w'.heap.size n i _ hn hin HC1.out).mono ?_
  rintro e w2 ⟨r2, rfl, ha, hw⟩
  obtain rfl := hw.symm
  obtain rfl := HA.out.unique ha
  clear hw ha HA
  go_wp2_with fail
  go_ret
  exact ⟨rfl, HB1.out⟩
end Go.Proofs.Qxb6605550a
