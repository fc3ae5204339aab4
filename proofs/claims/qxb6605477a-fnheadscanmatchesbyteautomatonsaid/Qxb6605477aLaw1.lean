/- Seat b6605477a: the law FnHeadScanMatchesByteAutomaton. -/
import Derived.Test.Qxb6605477aCopy
import Derived.Test.Qxb6605477aZz
namespace Go.Proofs.Qxb6605477a
open Go.RowKit Plain

set_option maxRecDepth 100000 in
set_option maxHeartbeats 1000000 in
theorem auto_nil (size line : Int) (cr st en : Bool) (w : World) :
    Calls Try.prog 13 #[.int .i64 size, .int .i64 line, .bool cr, .bool st, .bool en, .slice none 0 0] w fun e w' => e = .returned (val7 ⟨0, 0, size, line, cr, st, en⟩) ∧ w' = w := by
  go_enter Try.func13, Try.ntmps13
  go_wp2_with fail
  refine wp_loop_rounds 1 ?_
  rw [rounds_succ]
  go_wp2_with fail
  exact bodyPost_ret (v := val7 ⟨0, 0, size, line, cr, st, en⟩) (by simp [results, Try.results13, go_sem, val7]) rfl ⟨rfl, rfl⟩

theorem wf_wrap64 {x : Int} (h : (Lit.int .i64 x).wf = true) : wrap64 x = x := by
  have hb := bounds_i64 h
  unfold wrap64
  omega

set_option maxRecDepth 100000 in
set_option maxHeartbeats 1000000 in
theorem law1_nil (size line : Int) (cr st en : Bool) (w : World) (hsz : wrap64 size = size) :
    Calls Try.prog 5 #[.int .i64 size, .int .i64 line, .bool cr, .bool st, .bool en, .slice none 0 0] w fun e w' => e = .returned (.bool true) ∧ Below w.heap.size w w' := by
  have HSZ : Hid (wrap64 size = size) := hsz
  clear hsz
  go_enter Try.func5, Try.ntmps5
  go_wp2_with fail
  refine (bytes12_yes _ _ _ _ _ _ 0 0 _ (by omega)).mono ?_
  rintro e w' ⟨rfl, rfl⟩
  go_wp2_with fail
  refine (clone_nil _).mono ?_
  rintro e w1 ⟨rfl, hw⟩
  obtain rfl := hw.symm
  go_wp2_with fail
  refine (auto_nil size line cr st en _).mono ?_
  rintro e w1 ⟨rfl, hw⟩
  obtain rfl := hw.symm
  unfold val7
  go_wp2_with fail
  refine (zscan_empty none 0 size line cr st en _ HSZ.out).mono ?_
  rintro e w2 ⟨rfl, hb⟩
  have HB : Hid (Below w'.heap.size w' w2) := hb
  clear hb
  unfold val7
  go_wp2_with fail
  go_ret
  exact ⟨rfl, HB.out⟩

set_option maxRecDepth 100000 in
set_option maxHeartbeats 1000000 in
theorem law1_some (size line : Int) (cr st en : Bool) (x : Addr) (n cap : Nat) (zs : List Int) (w : World) (hsz : wrap64 size = size) (hln : wrap64 line = line) (hn : n ≤ 1048576) (hlc : n ≤ cap) (hzl : zs.length = cap)
    (hzr : ∀ j, 0 ≤ zs.getD j 0 ∧ zs.getD j 0 < 256) (hcell : ∀ i, i < zs.length → w.cell? (x.add i) = some (.int .u8 (zs.getD i 0))) :
    Calls Try.prog 5 #[.int .i64 size, .int .i64 line, .bool cr, .bool st, .bool en, .slice (some x) n cap] w fun e w' => e = .returned (.bool true) ∧ Below w.heap.size w w' := by
  have HSZ : Hid (wrap64 size = size) := hsz
  have HLN : Hid (wrap64 line = line) := hln
  have HCE : Hid (∀ i, i < zs.length → w.cell? (x.add i) = some (.int .u8 (zs.getD i 0))) := hcell
  obtain ⟨f, hf⟩ : ∃ f : Nat → Int, f = fun t => zs.getD t 0 := ⟨_, rfl⟩
  have HFR : Hid (∀ t, 0 ≤ f t ∧ f t < 256) := by rw [hf]; exact hzr
  have HFE : Hid (∀ t, f t = zs.getD t 0) := by rw [hf]; exact fun _ => rfl
  clear hsz hln hzr hf hcell
  go_enter Try.func5, Try.ntmps5
  go_wp2_with fail
  refine (bytes12_yes _ _ _ _ _ _ n cap _ hn).mono ?_
  rintro e w' ⟨rfl, rfl⟩
  go_wp2_with fail
  refine (clone_all _ n cap zs _ hlc hzl hn x rfl HCE.out).mono ?_
  rintro e w1 ⟨rfl, hb1, hlt1, hc1⟩
  have HB1 : Hid (Below w'.heap.size w' w1) := hb1
  have HLT : Hid (0 < n → w'.heap.size < w1.heap.size) := hlt1
  have HC1 : Hid (∀ t, t < n → w1.cell? ⟨w'.heap.size, t, none⟩ = some (.int .u8 (f t))) := fun t ht => by rw [HFE.out]; exact hc1 t ht
  have hsz1 := hb1.size
  clear hb1 hlt1 hc1
  go_wp2_with fail
  refine (auto_any f w'.heap.size n size line cr st en _ hn HC1.out).mono ?_
  rintro e w2 ⟨rfl, hw⟩
  obtain rfl := hw.symm
  clear hw
  obtain ⟨R, hR⟩ : ∃ R, R = auto f n 0 0 size line cr st en := ⟨_, rfl⟩
  have HR : Hid (R = auto f n 0 0 size line cr st en) := hR
  rw [← hR]
  clear hR
  have hZ : Calls Try.prog 14 #[.int .i64 size, .int .i64 line, .bool cr, .bool st, .bool en, .slice (some ⟨w'.heap.size, 0, none⟩) n n] w1 fun e w' => e = .returned (val7 R) ∧ Below w1.heap.size w1 w' := by
    rw [HR.out]
    by_cases h0 : n = 0
    · subst h0
      exact zscan_empty _ 0 size line cr st en w1 HSZ.out
    · exact zscan_any f HFR.out w'.heap.size 0 n n size line cr st en w1 hn (Nat.le_refl _) (HLT.out (by omega)) (fun t ht => by rw [Nat.zero_add]; exact HC1.out t ht) HSZ.out HLN.out
  have HZ : Hid (Calls Try.prog 14 #[.int .i64 size, .int .i64 line, .bool cr, .bool st, .bool en, .slice (some ⟨w'.heap.size, 0, none⟩) n n] w1 fun e w' => e = .returned (val7 R) ∧ Below w1.heap.size w1 w') := hZ
  clear hZ
  unfold val7
  go_wp2_with fail
  refine Calls.mono HZ.out ?_
  rintro e w2 ⟨rfl, hb⟩
  have HB : Hid (Below w'.heap.size w' w2) := HB1.out.trans (hb.mono hsz1)
  clear hb
  unfold val7
  go_wp2_with fail
  go_ret
  exact ⟨rfl, HB.out⟩
end Go.Proofs.Qxb6605477a
