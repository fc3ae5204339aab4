/- Seat b6604795a: the law, where there is a byte at i. -/
import Derived.Test.Qxb6604795aBase
import Derived.Test.Qxb6604795aDoc
import Derived.Deep.RegionWith
namespace Go.Proofs.Qxb6604795a
open Go.RowKit Plain

theorem Try.info3 : (Try.prog.info? 3).map (fun i => (i.zero, i.size, i.bytes)) = some (some (.int .i64 0), 1, 8) := by kernel_rfl

/-- k notes of -1, the rest zero. -/
def ones (n k : Nat) : List Int := List.replicate k (-1) ++ List.replicate (n - k) 0
theorem ones_succ (n k : Nat) (hk : k < n) : (ones n k).set k (-1) = ones n (k + 1) := by
  unfold ones
  have e : n - k = (n - (k + 1)) + 1 := by omega
  rw [List.set_append_right _ _ (by simp), List.length_replicate, Nat.sub_self, e, List.replicate_succ, List.set_cons_zero, List.replicate_succ', List.append_assoc]
  rfl
theorem upd_ones {f : Nat → Int} {n : Nat} {E : List Int} (h : Upd f n (ones n n) E) (i : Nat) (hpos : 0 ≤ E.getD i (-1)) : ∃ q : Nat, E.getD i (-1) = (q : Int) ∧ VF f n i q := by
  rcases h.2 i with e | e
  · exfalso
    have : (ones n n).getD i (-1) = -1 := by
      unfold ones
      rw [Nat.sub_self]
      simp only [List.replicate_zero, List.append_nil, List.getD_eq_getElem?_getD, List.getElem?_replicate]
      split <;> rfl
    omega
  · exact e

set_option maxRecDepth 100000 in
set_option maxHeartbeats 2000000 in
theorem law_main (b o n c i : Nat) (zs : List Int) (w : World) (hn : n ≤ 1048576) (hi : i < n) (hz : n ≤ zs.length) (hzr : ∀ j, 0 ≤ zs.getD j 0 ∧ zs.getD j 0 < 256) (hb : b < w.heap.size) (hc : ∀ t, t < n → w.cell? ⟨b, o + t, none⟩ = some (.int .u8 (zs.getD t 0))) :
    Calls Try.prog 3 #[.slice (some ⟨b, o, none⟩) n c, .int .i64 i] w fun e w' => e = .returned (.bool true) ∧ Below w.heap.size w w' := by
  obtain ⟨i0, hi0, hz0, hz1, hz2⟩ := info_parts Try.info3
  have HC : Hid (∀ t, t < n → w.cell? ⟨b, o + t, none⟩ = some (.int .u8 (zs.getD t 0))) := hc
  obtain ⟨f, hf⟩ : ∃ f : Nat → Int, f = fun t => zs.getD t 0 := ⟨_, rfl⟩
  have HFR : Hid (∀ t, 0 ≤ f t ∧ f t < 256) := by rw [hf]; exact hzr
  have HFE : Hid (∀ t, f t = zs.getD t 0) := by rw [hf]; exact fun _ => rfl
  clear hc hzr hf
  go_enter Try.func3, Try.ntmps3
  go_wp2_with fail
  refine (bytes_yes _ n c _ _ hn).mono ?_
  rintro e w' ⟨rfl, rfl⟩
  go_wp2_with fail
  refine (clone_pos b o n c zs _ hn hz hb HC.out).mono ?_
  rintro e w1 ⟨rfl, hb1, hown1⟩
  have HB1 : Hid (Below w'.heap.size w' w1) := hb1
  have HC1 : Hid (∀ t, t < n → w1.cell? ⟨w'.heap.size, t, none⟩ = some (.int .u8 (f t))) := fun t ht => by
    rw [hown1.cellAt t (by omega), HFE.out]
    simp [List.getElem?_map, ht, List.getElem?_eq_getElem (show t < zs.length by omega)]
  have hlt : w'.heap.size < w1.heap.size := by
    have h := HC1.out i hi
    by_cases e : w'.heap.size < w1.heap.size
    · exact e
    · exfalso
      have : w1.heap[w'.heap.size]? = none := Array.getElem?_eq_none (by omega)
      simp [World.cell?, this] at h
  clear hb1 hown1
  go_wp2_with (first | (at_make; refine wpList_make_full _ rfl (.tmp 25) (.tmp 25) 25 rfl w1.heap.size 3 i0 (.int .i64 0) 1 Try.underlying25 hi0 hz0 hz1 .i64 .i64 _ _ n rfl rfl rfl rfl (by rw [hz2]; omega) (by unfold maxLen; omega) (Nat.le_refl _) ?_; intro w2 hown hgrow))
  have hinv : Inv w1 n w1.heap.size w2 (ones n 0) := by
    refine ⟨(Below.refl _ _).grown hgrow (Nat.le_refl _) (by intro k h; cases h), ?_⟩
    have e := toList_madeCells_one (.int .i64 0) n
    simp only [Nat.mul_one, Value.cells] at hown
    rw [e] at hown
    simpa [ones] using hown
  have HI0 : Hid (Inv w1 n w1.heap.size w2 (ones n 0)) := hinv
  clear hinv hown hgrow
  go_loopw [6] (fun x wr => ∃ k : Nat, k ≤ n ∧ x = .int .i64 k ∧ Hid (Inv w1 n w1.heap.size wr (ones n k))) (fun x _ => n - (intOf x).toNat)
  case atStart => exact ⟨0, Nat.zero_le _, rfl, HI0⟩
  case round =>
    clear HI0
    obtain ⟨k, hk, rfl, HR⟩ := hrel
    by_cases hkn : k < n
    · obtain ⟨hn1, hn2⟩ := HR.out.note k hkn
      go_wp2_with fail
      go_roundw
      case rel => exact ⟨k + 1, by omega, by go_num, by have := HR.out.store k (-1); rw [ones_succ n k hkn] at this; exact this⟩
      case measure => simp [intOf]; omega
    · have hke : k = n := by omega
      subst hke
      go_wp2_with fail
      refine (doc_any w1 f w'.heap.size k w1.heap.size hn hlt HC1.out _ _ HR.out).mono ?_
      rintro e w3 ⟨E3, hinv3, hres⟩
      have HI3 : Hid (Inv w1 k w1.heap.size w3 E3) := hinv3
      clear hinv3
      rcases hres with rfl | ⟨rfl, hu⟩
      · go_wp2_with fail
        go_ret
        exact ⟨rfl, HB1.out.trans (HI3.out.1.mono (by omega))⟩
      · obtain ⟨hn1, hn2⟩ := HI3.out.note i hi
        have HU : Hid (Upd f k (ones k k) E3) := hu
        clear hu
        obtain ⟨v, hve⟩ : ∃ v, v = E3.getD i (-1) := ⟨_, rfl⟩
        rw [← hve] at hn1
        have HVE : Hid (v = E3.getD i (-1)) := hve
        clear hve
        by_cases hneg : v < 0
        · go_wp2_with fail
          go_ret
          exact ⟨rfl, HB1.out.trans (HI3.out.1.mono (by omega))⟩
        · obtain ⟨q, hq0, hv⟩ := upd_ones HU.out i (by rw [← HVE.out]; omega)
          have hq : v = (q : Int) := HVE.out.trans hq0
          rw [hq] at hn1
          have HV : Hid (VF f k i q) := hv
          have hd : decide ((q : Int) < 0) = false := by simp
          have hin : (i : Int) < (k : Int) := by omega
          have HC3 : Hid (∀ t, t < k → w3.cell? ⟨w'.heap.size, t, none⟩ = some (.int .u8 (f t))) := HI3.out.cells hlt HC1.out
          have hz3 : w1.heap.size ≤ w3.heap.size := HI3.out.1.size
          have hz4 : w1.heap.size < w3.heap.size := by
            by_cases e : w1.heap.size < w3.heap.size
            · exact e
            · exfalso
              have : w3.heap[w1.heap.size]? = none := Array.getElem?_eq_none (by omega)
              simp [World.cell?, this] at hn1
          clear hq0 hq hv hneg hn2 hz3
          go_wp2_with fail
          go_region_with (go_at_call 11; refine (zend_any f HFR.out w'.heap.size k i q _ hn (by simp; omega) (by exact HC3.out) hi HV.out).mono ?_; rintro e w4 ⟨rfl, hb4⟩; have hn4 := (hb4.cell (p := ⟨w1.heap.size, i, none⟩) (by simp; omega)).trans hn1)
          all_goals
            go_wp2_with fail
            go_ret
            refine ⟨ret_bool (by simp), HB1.out.trans ((HI3.out.1.mono (by omega)).trans ?_)⟩
            exact ((Below.refl _ _).drew).trans (hb4.mono (by simp; omega))
end Go.Proofs.Qxb6604795a
