/- Seat b6605550a: zzSpans. -/
import Derived.Test.Qxb6605550aProg
import Derived.WalkKit
import Derived.WalkSpells
import Derived.Lib.SliceRun
import Derived.RegionTactic
namespace Go.Proofs.Qxb6605550a
open Go.RowKit

theorem Try.info49 : (Try.prog.info? 49).map (fun i => (i.zero, i.size, i.bytes)) = some (some (.agg #[.int .i64 0, .int .i64 0]), 2, 16) := by kernel_rfl

set_option maxRecDepth 100000 in
set_option maxHeartbeats 1000000 in
theorem spans_pos (a b n : Nat) (h k : Nat → Int) (w : World) (hn : n ≤ 1048576) (ha : a < w.heap.size) (hb : b < w.heap.size) (hca : ∀ t, t < n → w.cell? ⟨a, t, none⟩ = some (.int .i64 (h t))) (hcb : ∀ t, t < n → w.cell? ⟨b, t, none⟩ = some (.int .i64 (k t))) :
    Calls Try.prog 25 #[.slice (some ⟨a, 0, none⟩) n n, .slice (some ⟨b, 0, none⟩) n n] w fun e w' => e = .returned (.slice (some ⟨w.heap.size, 0, none⟩) n n) ∧ Below w.heap.size w w' ∧ (0 < n → w'.cell? ⟨w.heap.size, 0, none⟩ = some (.int .i64 (h 0))) := by
  obtain ⟨i0, hi, hz0, hz1, hz2⟩ := info_parts Try.info49
  have HCA : Hid (∀ t, t < n → w.cell? ⟨a, t, none⟩ = some (.int .i64 (h t))) := hca
  have HCB : Hid (∀ t, t < n → w.cell? ⟨b, t, none⟩ = some (.int .i64 (k t))) := hcb
  clear hca hcb
  have ke := fun (w : World) (a : Option Addr) (n c : Nat) => Lib.run_eql_slice_nil (P := Try.prog) w 33 3 a n c 0 0 Try.underlying33
  go_enter Try.func25, Try.ntmps25
  go_wp2_with (first | (at_make; refine wpList_make_full _ rfl (.tmp 10) (.tmp 10) 41 rfl w.heap.size 49 i0 (.agg #[.int .i64 0, .int .i64 0]) 2 Try.underlying41 hi hz0 hz1 .i64 .i64 _ _ n rfl rfl rfl rfl (by rw [hz2]; omega) (by unfold maxLen; omega) (Nat.le_refl _) ?_; intro w1 hown hgrow))
  have HB1 : Hid (Below w.heap.size w w1) := (Below.refl _ _).grown hgrow (Nat.le_refl _) (by intro k h; cases h)
  have HO1 : Hid (w1.ownsRow w.heap.size 49 2 (.slice (some ⟨w.heap.size, 0, none⟩) n n) n (madeCells (Value.agg #[.int .i64 0, .int .i64 0]).cells (n * 2)).toList) := hown
  clear hown hgrow ke
  go_loopw [6] (fun x wr => ∃ (t : Nat) (xs : List Value), t ≤ n ∧ x = .int .i64 t ∧ Hid (Below w.heap.size w wr ∧ wr.ownsRow w.heap.size 49 2 (.slice (some ⟨w.heap.size, 0, none⟩) n n) n xs ∧ (0 < t → xs[0]? = some (.int .i64 (h 0))))) (fun x _ => n - (intOf x).toNat)
  case atStart => exact ⟨0, _, Nat.zero_le _, rfl, HB1.out, HO1.out, fun h => by omega⟩
  case round =>
    clear HB1 HO1
    obtain ⟨t, xs, htn, rfl, HR⟩ := hrel
    by_cases hlt : t < n
    · have hxa : wr.cell? ⟨a, t, none⟩ = some (.int .i64 (h t)) := (HR.out.1.cell (p := ⟨a, t, none⟩) ha).trans (HCA.out t hlt)
      have hxb : wr.cell? ⟨b, t, none⟩ = some (.int .i64 (k t)) := (HR.out.1.cell (p := ⟨b, t, none⟩) hb).trans (HCB.out t hlt)
      have hlz : (t : Int) < (n : Int) := by omega
      have hlen : xs.length = n * 2 := HR.out.2.1.1
      obtain ⟨u0, hu0⟩ : ∃ u, xs[t * 2]? = some u := ⟨_, List.getElem?_eq_getElem (by omega)⟩
      obtain ⟨u1, hu1⟩ : ∃ u, xs[t * 2 + 1]? = some u := ⟨_, List.getElem?_eq_getElem (by omega)⟩
      have hc0 : wr.cell? ⟨w.heap.size, t * 2, none⟩ = some u0 := (HR.out.2.1.cellAt (t * 2) (by omega)).trans hu0
      have hc1 : wr.cell? ⟨w.heap.size, t * 2 + 1, none⟩ = some u1 := (HR.out.2.1.cellAt (t * 2 + 1) (by omega)).trans hu1
      have hf0 := HR.out.2.1.frozenAt (t * 2)
      have hf1 := HR.out.2.1.frozenAt (t * 2 + 1)
      clear hu0 hu1
      go_wp2_with fail
      go_region
      go_wp2_with fail
      go_roundw
      case rel =>
        refine ⟨t + 1, (xs.set (t * 2) (.int .i64 (h t))).set (t * 2 + 1) (.int .i64 (k t)), by omega, by go_num, ?_, ?_, fun _ => ?_⟩
        · exact Below.drew (Below.setCell (p := ⟨w.heap.size, t * 2 + 1, none⟩) (Below.setCell (p := ⟨w.heap.size, t * 2, none⟩) HR.out.1 (Nat.le_refl _) _) (Nat.le_refl _) _)
        · exact World.ownsRow.drew ((HR.out.2.1.stored (t * 2) (.int .i64 (h t))).1.stored (t * 2 + 1) (.int .i64 (k t))).1
        · rw [List.getElem?_set_ne (by omega)]
          by_cases e : t = 0
          · subst e
            rw [Nat.zero_mul, List.getElem?_set_self (by omega)]
          · rw [List.getElem?_set_ne (by omega)]
            exact HR.out.2.2 (by omega)
      case measure => simp [intOf]; omega
    · go_wp2_with fail
      go_ret
      have htn' : t = n := by omega
      subst htn'
      refine ⟨rfl, HR.out.1, fun h0 => ?_⟩
      rw [HR.out.2.1.cellAt 0 (by omega)]
      exact HR.out.2.2 h0

set_option maxRecDepth 100000 in
theorem spans_nil (a : Option Addr) (n c : Nat) (w : World) : Calls Try.prog 25 #[.slice none 0 0, .slice a n c] w fun e w' => e = .returned (.slice none 0 0) ∧ w' = w := by
  have ke := fun (w : World) (a : Option Addr) (n c : Nat) => Lib.run_eql_slice_nil (P := Try.prog) w 33 3 a n c 0 0 Try.underlying33
  go_enter Try.func25, Try.ntmps25
  go_wp2
  go_ret
  exact ⟨rfl, rfl⟩
set_option maxRecDepth 100000 in
theorem spans_zero (x : Addr) (c : Nat) (a : Option Addr) (n c2 : Nat) (w : World) : Calls Try.prog 25 #[.slice (some x) 0 c, .slice a n c2] w fun e w' => e = .returned (.slice (some ⟨w.heap.size, 0, none⟩) 0 0) ∧ Below w.heap.size w w' := by
  obtain ⟨i0, hi, hz0, hz1, hz2⟩ := info_parts Try.info49
  have ke := fun (w : World) (a : Option Addr) (n c : Nat) => Lib.run_eql_slice_nil (P := Try.prog) w 33 3 a n c 0 0 Try.underlying33
  go_enter Try.func25, Try.ntmps25
  go_wp2_with (first | (at_make; refine wpList_make_full _ rfl (.tmp 10) (.tmp 10) 41 rfl w.heap.size 49 i0 (.agg #[.int .i64 0, .int .i64 0]) 2 Try.underlying41 hi hz0 hz1 .i64 .i64 _ _ 0 rfl rfl rfl rfl (by rw [hz2]; omega) (by unfold maxLen; omega) (Nat.le_refl _) ?_; intro w1 hown hgrow))
  have HB1 : Hid (Below w.heap.size w w1) := (Below.refl _ _).grown hgrow (Nat.le_refl _) (by intro k h; cases h)
  clear hown hgrow ke
  refine wp_loop_rounds 1 ?_
  rw [rounds_succ]
  go_wp2_with fail
  go_ret
  exact ⟨rfl, HB1.out⟩
end Go.Proofs.Qxb6605550a
