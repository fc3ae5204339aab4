/- Seat b6605550a: the copy, at every slice. -/
import Derived.Test.Qxb6605550aBase
import Derived.OpenShut
namespace Go.Proofs.Qxb6605550a
open Go.RowKit

theorem clone_nil (w : World) : Calls Try.prog 9 #[.slice none 0 0] w fun e w' => e = .returned (.slice none 0 0) ∧ w' = w := by
  have ke := fun (w : World) (a : Option Addr) (n c : Nat) => Lib.run_eql_slice_nil (P := Try.prog) w 22 5 a n c 0 0 Try.underlying22
  go_enter Try.func9, Try.ntmps9
  go_wp2
  go_ret
  exact ⟨rfl, rfl⟩

set_option maxHeartbeats 400000 in
theorem clone_zero (x : Addr) (c : Nat) (w : World) :
    Calls Try.prog 9 #[.slice (some x) 0 c] w fun e w' => e = .returned (.slice (some ⟨w.heap.size, 0, none⟩) 0 0) ∧ Below w.heap.size w w' := by
  obtain ⟨i0, hi, hz0, hz1, hz2⟩ := info_parts Try.info5
  have ke := fun (w : World) (a : Option Addr) (n c : Nat) => Lib.run_eql_slice_nil (P := Try.prog) w 22 5 a n c 0 0 Try.underlying22
  go_enter Try.func9, Try.ntmps9
  go_wp2_with (first | (at_make; refine wpList_make_full _ rfl (.tmp 8) (.tmp 8) 22 rfl w.heap.size 5 i0 (.int .u8 0) 1 Try.underlying22 hi hz0 hz1 .i64 .i64 _ _ 0 rfl rfl rfl rfl (by rw [hz2]; omega) (by unfold maxLen; omega) (Nat.le_refl _) ?_; intro w1 hown hgrow))
  have HB : Hid (Below w.heap.size w w1) := (Below.refl _ _).grown hgrow (Nat.le_refl _) (by intro k h; cases h)
  clear hown hgrow ke
  refine wp_loop_rounds 1 ?_
  rw [rounds_succ]
  go_wp2
  go_ret
  exact ⟨rfl, HB.out⟩

/-- The copy of a slice that came in, the bytes told by a function: nil; or n bytes at the head of a block of the call's own (where n > 0). -/
theorem clone_all (a : Option Addr) (len cap : Nat) (zs : List Int) (w : World) (hlc : len ≤ cap) (hzl : zs.length = cap) (hn : len ≤ 1048576) (x : Addr) (hx : a = some x) (hcell : ∀ i, i < zs.length → w.cell? (x.add i) = some (.int .u8 (zs.getD i 0))) :
    Calls Try.prog 9 #[.slice a len cap] w fun e w' => e = .returned (.slice (some ⟨w.heap.size, 0, none⟩) len len) ∧ Below w.heap.size w w' ∧ (0 < len → w.heap.size < w'.heap.size) ∧ ∀ t, t < len → w'.cell? ⟨w.heap.size, t, none⟩ = some (.int .u8 (zs.getD t 0)) := by
  subst hx
  by_cases h0 : len = 0
  · subst h0
    exact (clone_zero x cap w).mono fun e w' ⟨h1, h2⟩ => ⟨h1, h2, fun h => by omega, fun t ht => by omega⟩
  · obtain ⟨b, o, rfl, hc⟩ := ints_at hcell (by omega)
    have hb : b < w.heap.size := by
      have h := hc 0 (by omega)
      by_cases e : b < w.heap.size
      · exact e
      · exfalso
        have : w.heap[b]? = none := Array.getElem?_eq_none (by omega)
        simp [World.cell?, this] at h
    refine (clone_pos b o len cap zs w hn (by omega) hb (fun i hi => hc i (by omega))).mono fun e w' ⟨h1, h2, h3⟩ => ?_
    have hcl : ∀ t, t < len → w'.cell? ⟨w.heap.size, t, none⟩ = some (.int .u8 (zs.getD t 0)) := fun t ht => by
      rw [h3.cellAt t (by omega)]
      simp [List.getElem?_map, ht, List.getD_eq_getElem?_getD, List.getElem?_eq_getElem (show t < zs.length by omega)]
    refine ⟨h1, h2, fun _ => ?_, hcl⟩
    have h := hcl 0 (by omega)
    by_cases e : w.heap.size < w'.heap.size
    · exact e
    · exfalso
      have : w'.heap[w.heap.size]? = none := Array.getElem?_eq_none (by omega)
      simp [World.cell?, this] at h

end Go.Proofs.Qxb6605550a
