/- Seat b6605477a: the law FnHeadScanSplitFeedFindsFirstEmptyLine. -/
import Derived.Test.Qxb6605477aCopy
import Derived.Test.Qxb6605477aZz
import Derived.Test.Qxb6605477aSpec
namespace Go.Proofs.Qxb6605477a
open Go.RowKit Plain

set_option maxRecDepth 100000 in
set_option maxHeartbeats 1000000 in
theorem spec_nil (w : World) : Calls Try.prog 16 #[.slice none 0 0] w fun e w' => e = .returned (val7 ⟨0, 0, 0, 0, false, false, false⟩) ∧ w' = w := by
  go_enter Try.func16, Try.ntmps16
  go_wp2_with fail
  refine wp_loop_rounds 1 ?_
  rw [rounds_succ]
  go_wp2_with fail
  refine wp_loop_rounds 1 ?_
  rw [rounds_succ]
  go_wp2_with fail
  exact bodyPost_ret (v := val7 ⟨0, 0, 0, 0, false, false, false⟩) (by simp [results, Try.results16, go_sem, val7]) rfl ⟨rfl, rfl⟩

theorem wrap_zero : wrap64 0 = 0 := by unfold wrap64; omega

set_option maxRecDepth 100000 in
set_option maxHeartbeats 1000000 in
theorem law2_nil (w : World) : Calls Try.prog 6 #[.slice none 0 0, .int .i64 0] w fun e w' => e = .returned (.bool true) ∧ Below w.heap.size w w' := by
  go_enter Try.func6, Try.ntmps6
  go_wp2_with fail
  refine (bytes15_yes _ _ 0 0 _ (by omega)).mono ?_
  rintro e w' ⟨rfl, rfl⟩
  go_wp2_with fail
  refine (clone_nil _).mono ?_
  rintro e w1 ⟨rfl, hw⟩
  obtain rfl := hw.symm
  clear hw
  go_wp2_with fail
  refine (zscan_empty none 0 0 0 false false false _ wrap_zero).mono ?_
  rintro e w2 ⟨rfl, hb⟩
  have HB : Hid (Below w'.heap.size w' w2) := hb
  have hz := hb.size
  clear hb
  unfold val7
  go_wp2_with fail
  refine (zscan_empty none 0 0 0 false false false _ wrap_zero).mono ?_
  rintro e w3 ⟨rfl, hb⟩
  have HB2 : Hid (Below w'.heap.size w' w3) := HB.out.trans (hb.mono hz)
  clear hb
  unfold val7
  go_wp2_with fail
  refine (spec_nil _).mono ?_
  rintro e w4 ⟨rfl, hw⟩
  obtain rfl := hw.symm
  clear hw
  unfold val7
  go_wp2_with fail
  go_ret
  exact ⟨rfl, HB2.out⟩

set_option maxRecDepth 100000 in
set_option maxHeartbeats 1000000 in
theorem law2_some (x : Addr) (n cap k : Nat) (zs : List Int) (w : World) (hkn : k ≤ n) (hn : n ≤ 1048576) (hlc : n ≤ cap) (hzl : zs.length = cap)
    (hzr : ∀ j, 0 ≤ zs.getD j 0 ∧ zs.getD j 0 < 256) (hcell : ∀ i, i < zs.length → w.cell? (x.add i) = some (.int .u8 (zs.getD i 0))) :
    Calls Try.prog 6 #[.slice (some x) n cap, .int .i64 k] w fun e w' => e = .returned (.bool true) ∧ Below w.heap.size w w' := by
  have HCE : Hid (∀ i, i < zs.length → w.cell? (x.add i) = some (.int .u8 (zs.getD i 0))) := hcell
  obtain ⟨f, hf⟩ : ∃ f : Nat → Int, f = fun t => zs.getD t 0 := ⟨_, rfl⟩
  have HFR : Hid (∀ t, 0 ≤ f t ∧ f t < 256) := by rw [hf]; exact hzr
  have HFE : Hid (∀ t, f t = zs.getD t 0) := by rw [hf]; exact fun _ => rfl
  clear hzr hf hcell
  go_enter Try.func6, Try.ntmps6
  go_wp2_with fail
  refine (bytes15_yes _ _ n cap _ hn).mono ?_
  rintro e w' ⟨rfl, rfl⟩
  go_wp2_with fail
  refine (clone_all _ n cap zs _ hlc hzl hn x rfl HCE.out).mono ?_
  rintro e w1 ⟨rfl, hb1, hlt1, hc1⟩
  have HB1 : Hid (Below w'.heap.size w' w1) := hb1
  have HLT : Hid (0 < n → w'.heap.size < w1.heap.size) := hlt1
  have HC1 : Hid (∀ t, t < n → w1.cell? ⟨w'.heap.size, t, none⟩ = some (.int .u8 (f t))) := fun t ht => by rw [HFE.out]; exact hc1 t ht
  have hsz1 := hb1.size
  clear hb1 hlt1 hc1
  obtain ⟨R1, hR1⟩ : ∃ R, R = auto f k 0 0 0 0 false false false := ⟨_, rfl⟩
  have HR1 : Hid (R1 = auto f k 0 0 0 0 false false false) := hR1
  clear hR1
  have HZ1 : Hid (Calls Try.prog 14 #[.int .i64 0, .int .i64 0, .bool false, .bool false, .bool false, .slice (some ⟨w'.heap.size, 0, none⟩) k n] w1 fun e w' => e = .returned (val7 R1) ∧ Below w1.heap.size w1 w') := by
    rw [HR1.out]
    by_cases h0 : k = 0
    · subst h0
      exact zscan_empty _ n 0 0 false false false w1 wrap_zero
    · exact zscan_any f HFR.out w'.heap.size 0 k n 0 0 false false false w1 (by omega) hkn (HLT.out (by omega)) (fun t ht => by rw [Nat.zero_add]; exact HC1.out t (by omega)) wrap_zero wrap_zero
  go_wp2_with fail
  refine Calls.mono HZ1.out ?_
  rintro e w2 ⟨rfl, hb2⟩
  have HB2 : Hid (Below w1.heap.size w1 w2) := hb2
  have hsz2 := hb2.size
  clear hb2
  obtain ⟨R2, hR2⟩ : ∃ R, R = auto (fun t => f (k + t)) (n - k) 0 0 R1.size R1.line R1.cr R1.st R1.en := ⟨_, rfl⟩
  have HR2 : Hid (R2 = auto (fun t => f (k + t)) (n - k) 0 0 R1.size R1.line R1.cr R1.st R1.en) := hR2
  have HWF : Hid (wrap64 R1.size = R1.size ∧ wrap64 R1.line = R1.line) := by rw [HR1.out]; exact auto_wf f k 0 0 0 0 false false false wrap_zero wrap_zero
  have HS : Hid (∀ w, (∀ t, t < n → w.cell? ⟨w'.heap.size, t, none⟩ = some (.int .u8 (f t))) → Calls Try.prog 16 #[.slice (some ⟨w'.heap.size, 0, none⟩) n n] w fun e w' => e = .returned (val7 ⟨R1.start + R2.start, R1.taken + R2.taken, R2.size, R2.line, R2.cr, R2.st, R2.en⟩) ∧ w' = w) := fun w hc => by
    have h := spec_any f w'.heap.size n w hn hc
    have e := two_feeds f k (n - k) 0 0 false false false R1 R2 HR1.out HR2.out
    rw [show n - k + k = n from by omega] at e
    rw [e] at h
    exact h
  have b1 : R1.taken ≤ k ∧ R1.start ≤ k := by
    have := auto_bound f k 0 0 0 0 false false false
    rw [← HR1.out] at this
    omega
  have b2 : R2.taken ≤ n - k ∧ R2.start ≤ n - k := by
    have := auto_bound (fun t => f (k + t)) (n - k) 0 0 R1.size R1.line R1.cr R1.st R1.en
    rw [← HR2.out] at this
    omega
  obtain ⟨b11, b12⟩ := b1
  obtain ⟨b21, b22⟩ := b2
  clear hR2
  have HC2 : Hid (∀ t, t < n → w2.cell? ⟨w'.heap.size, t, none⟩ = some (.int .u8 (f t))) := fun t ht => (HB2.out.cell (p := ⟨w'.heap.size, t, none⟩) (HLT.out (by omega))).trans (HC1.out t ht)
  have HZ2 : Hid (∀ a cp, (n - k = 0 ∨ (a = some ⟨w'.heap.size, k, none⟩ ∧ n - k ≤ cp)) → Calls Try.prog 14 #[.int .i64 R1.size, .int .i64 R1.line, .bool R1.cr, .bool R1.st, .bool R1.en, .slice a (n - k) cp] w2 fun e w' => e = .returned (val7 R2) ∧ Below w2.heap.size w2 w') := fun a cp h => by
    by_cases h0 : n - k = 0
    · rw [HR2.out, h0]
      exact zscan_empty a cp R1.size R1.line R1.cr R1.st R1.en w2 HWF.out.1
    · rcases h with h | ⟨rfl, hcp⟩
      · exact absurd h h0
      · rw [HR2.out]
        exact zscan_any (fun t => f (k + t)) (fun t => HFR.out _) w'.heap.size k (n - k) cp R1.size R1.line R1.cr R1.st R1.en w2 (by omega) hcp (by have := HLT.out (by omega); omega) (fun t ht => HC2.out _ (by omega)) HWF.out.1 HWF.out.2
  have HB3 : Hid (Below w'.heap.size w' w2) := HB1.out.trans (HB2.out.mono hsz1)
  have hsz3 : w'.heap.size ≤ w2.heap.size := by omega
  unfold val7
  by_cases hk : n = k
  · subst hk
    have hz := HZ2.out (some ⟨w'.heap.size, 0, none⟩) 0 (.inl (by omega))
    rw [Nat.sub_self] at hz
    have HZ3 : Hid (Calls Try.prog 14 #[.int .i64 R1.size, .int .i64 R1.line, .bool R1.cr, .bool R1.st, .bool R1.en, .slice (some ⟨w'.heap.size, 0, none⟩) 0 0] w2 fun e w' => e = .returned (val7 R2) ∧ Below w2.heap.size w2 w') := hz
    clear hz
    go_wp2_with fail
    refine Calls.mono HZ3.out ?_
    rintro e w3 ⟨rfl, hb3⟩
    have HB4 : Hid (Below w'.heap.size w' w3) := HB3.out.trans (hb3.mono hsz3)
    have HC3 : Hid (∀ t, t < n → w3.cell? ⟨w'.heap.size, t, none⟩ = some (.int .u8 (f t))) := fun t ht => (hb3.cell (p := ⟨w'.heap.size, t, none⟩) (by have := HLT.out (by omega); show w'.heap.size < w2.heap.size; omega)).trans (HC2.out t ht)
    clear hb3
    unfold val7
    go_wp2_with fail
    refine Calls.mono (HS.out _ HC3.out) ?_
    rintro e w4 ⟨rfl, hw⟩
    obtain rfl := hw.symm
    clear hw
    unfold val7
    go_wp2_with fail
    go_ret
    exact ⟨rfl, HB4.out⟩
  · go_wp2_with fail
    refine Calls.mono (HZ2.out _ _ (.inr ⟨rfl, Nat.le_refl _⟩)) ?_
    rintro e w3 ⟨rfl, hb3⟩
    have HB4 : Hid (Below w'.heap.size w' w3) := HB3.out.trans (hb3.mono hsz3)
    have HC3 : Hid (∀ t, t < n → w3.cell? ⟨w'.heap.size, t, none⟩ = some (.int .u8 (f t))) := fun t ht => (hb3.cell (p := ⟨w'.heap.size, t, none⟩) (by have := HLT.out (by omega); show w'.heap.size < w2.heap.size; omega)).trans (HC2.out t ht)
    clear hb3
    unfold val7
    go_wp2_with fail
    refine Calls.mono (HS.out _ HC3.out) ?_
    rintro e w4 ⟨rfl, hw⟩
    obtain rfl := hw.symm
    clear hw
    unfold val7
    go_wp2_with fail
    go_ret
    exact ⟨rfl, HB4.out⟩
end Go.Proofs.Qxb6605477a
