/- Seat b6605550a: the copy of a slice of ints. -/
import Derived.Test.Qxb6605550aProg
import Derived.WalkKit
import Derived.WalkSpells
import Derived.Lib.SliceRun
import Derived.OpenShut
namespace Go.Proofs.Qxb6605550a
open Go.RowKit

theorem Try.info3 : (Try.prog.info? 3).map (fun i => (i.zero, i.size, i.bytes)) = some (some (.int .i64 0), 1, 8) := by kernel_rfl

/-- k bytes copied, the rest zero. -/
def ipart (zs : List Int) (n k : Nat) : List Value := (zs.take k).map (.int .i64) ++ List.replicate (n - k) (.int .i64 0)

theorem ipart_succ (zs : List Int) (n k : Nat) (hk : k < n) (hz : n ≤ zs.length) : (ipart zs n k).set k (.int .i64 (zs.getD k 0)) = ipart zs n (k + 1) := by
  unfold ipart
  have hlen : ((zs.take k).map (Value.int .i64)).length = k := by simp; omega
  rw [List.set_append_right _ _ (by omega), hlen, Nat.sub_self]
  have e : n - k = (n - (k + 1)) + 1 := by omega
  rw [e, List.replicate_succ, List.set_cons_zero, List.take_succ_eq_append_getElem (by omega), List.map_append, List.append_assoc]
  simp only [List.getD_eq_getElem?_getD, List.getElem?_eq_getElem (show k < zs.length by omega), Option.getD_some, List.map_cons, List.map_nil, List.cons_append, List.nil_append]

theorem ipart_get (zs : List Int) (n k : Nat) (hk : k < n) (hz : n ≤ zs.length) : ∃ v, (ipart zs n k)[k]? = some v := by
  have : k < (ipart zs n k).length := by unfold ipart; simp; omega
  exact ⟨_, List.getElem?_eq_getElem this⟩

set_option maxHeartbeats 400000 in
theorem iclone_pos (b o n c : Nat) (zs : List Int) (w : World) (hn : n ≤ 1048576) (hz : n ≤ zs.length) (hb : b < w.heap.size) (hc : ∀ i, i < n → w.cell? ⟨b, o + i, none⟩ = some (.int .i64 (zs.getD i 0))) :
    Calls Try.prog 19 #[.slice (some ⟨b, o, none⟩) n c] w fun e w' => e = .returned (.slice (some ⟨w.heap.size, 0, none⟩) n n) ∧ Below w.heap.size w w' ∧ w'.ownsRow w.heap.size 3 1 (.slice (some ⟨w.heap.size, 0, none⟩) n n) n ((zs.take n).map (.int .i64)) := by
  obtain ⟨i0, hi, hz0, hz1, hz2⟩ := info_parts Try.info3
  have ke := fun (w : World) (a : Option Addr) (n c : Nat) => Lib.run_eql_slice_nil (P := Try.prog) w 33 3 a n c 0 0 Try.underlying33
  go_enter Try.func19, Try.ntmps19
  go_wp2_with (first | (at_make; refine wpList_make_full _ rfl (.tmp 8) (.tmp 8) 33 rfl w.heap.size 3 i0 (.int .i64 0) 1 Try.underlying33 hi hz0 hz1 .i64 .i64 _ _ n rfl rfl rfl rfl (by rw [hz2]; omega) (by unfold maxLen; omega) (Nat.le_refl _) ?_; intro w1 hown hgrow))
  simp only [Nat.mul_one] at hown
  have hown0 : w1.ownsRow w.heap.size 3 1 (.slice (some ⟨w.heap.size, 0, none⟩) n n) n (ipart zs n 0) := by
    have e := toList_madeCells_one (.int .i64 0) n
    simp only [Value.cells] at hown
    rw [e] at hown
    simpa [ipart] using hown
  have hb1 : Below w.heap.size w w1 := (Below.refl _ _).grown hgrow (Nat.le_refl _) (by intro k h; cases h)
  clear hown hgrow ke
  go_loopw [4] (fun i wr => ∃ k : Nat, k ≤ n ∧ i = .int .i64 k ∧ Below w.heap.size w wr ∧ wr.ownsRow w.heap.size 3 1 (.slice (some ⟨w.heap.size, 0, none⟩) n n) n (ipart zs n k)) (fun i _ => n - (intOf i).toNat)
  case atStart => exact ⟨0, Nat.zero_le _, rfl, hb1, hown0⟩
  case round =>
    obtain ⟨k, hk, rfl, hb2, hown2⟩ := hrel
    clear hb1 hown0
    by_cases hlt : k < n
    · have hx : wr.cell? ⟨b, o + k, none⟩ = some (.int .i64 (zs.getD k 0)) := (hb2.cell (by exact hb)).trans (hc k hlt)
      obtain ⟨v, hv⟩ := ipart_get zs n k hlt hz
      have hy : wr.cell? ⟨w.heap.size, k, none⟩ = some v := (hown2.cellAt k (by omega)).trans hv
      have hf := hown2.frozenAt k
      have hs := hown2.stored k (.int .i64 (zs.getD k 0))
      rw [ipart_succ zs n k hlt hz] at hs
      have H1 : Hid _ := hs
      have H2 : Hid _ := hb2
      clear hs hown2 hb2 hv hc
      go_wp2
      go_roundw
      case rel => exact ⟨k + 1, by omega, by go_num, H2.out.setCell (Nat.le_refl _) _, H1.out.1⟩
      case measure => simp [intOf]; omega
    · have hkn : k = n := by omega
      subst hkn
      go_wp2
      go_ret
      refine ⟨rfl, hb2, ?_⟩
      simpa [ipart] using hown2

theorem iclone_nil (w : World) : Calls Try.prog 19 #[.slice none 0 0] w fun e w' => e = .returned (.slice none 0 0) ∧ w' = w := by
  have ke := fun (w : World) (a : Option Addr) (n c : Nat) => Lib.run_eql_slice_nil (P := Try.prog) w 33 3 a n c 0 0 Try.underlying33
  go_enter Try.func19, Try.ntmps19
  go_wp2
  go_ret
  exact ⟨rfl, rfl⟩

set_option maxHeartbeats 400000 in
theorem iclone_zero (x : Addr) (c : Nat) (w : World) :
    Calls Try.prog 19 #[.slice (some x) 0 c] w fun e w' => e = .returned (.slice (some ⟨w.heap.size, 0, none⟩) 0 0) ∧ Below w.heap.size w w' := by
  obtain ⟨i0, hi, hz0, hz1, hz2⟩ := info_parts Try.info3
  have ke := fun (w : World) (a : Option Addr) (n c : Nat) => Lib.run_eql_slice_nil (P := Try.prog) w 33 3 a n c 0 0 Try.underlying33
  go_enter Try.func19, Try.ntmps19
  go_wp2_with (first | (at_make; refine wpList_make_full _ rfl (.tmp 8) (.tmp 8) 33 rfl w.heap.size 3 i0 (.int .i64 0) 1 Try.underlying33 hi hz0 hz1 .i64 .i64 _ _ 0 rfl rfl rfl rfl (by rw [hz2]; omega) (by unfold maxLen; omega) (Nat.le_refl _) ?_; intro w1 hown hgrow))
  have HB : Hid (Below w.heap.size w w1) := (Below.refl _ _).grown hgrow (Nat.le_refl _) (by intro k h; cases h)
  clear hown hgrow ke
  refine wp_loop_rounds 1 ?_
  rw [rounds_succ]
  go_wp2
  go_ret
  exact ⟨rfl, HB.out⟩

/-- The copy of a slice that came in, the numbers told: n of them at the head of a block of the call's own (where n > 0). -/
theorem iclone_all (a : Option Addr) (len cap : Nat) (zs : List Int) (w : World) (hlc : len ≤ cap) (hzl : zs.length = cap) (hn : len ≤ 1048576) (x : Addr) (hx : a = some x) (hcell : ∀ i, i < zs.length → w.cell? (x.add i) = some (.int .i64 (zs.getD i 0))) :
    Calls Try.prog 19 #[.slice a len cap] w fun e w' => e = .returned (.slice (some ⟨w.heap.size, 0, none⟩) len len) ∧ Below w.heap.size w w' ∧ (0 < len → w.heap.size < w'.heap.size) ∧ ∀ t, t < len → w'.cell? ⟨w.heap.size, t, none⟩ = some (.int .i64 (zs.getD t 0)) := by
  subst hx
  by_cases h0 : len = 0
  · subst h0
    exact (iclone_zero x cap w).mono fun e w' ⟨h1, h2⟩ => ⟨h1, h2, fun h => by omega, fun t ht => by omega⟩
  · obtain ⟨b, o, rfl, hc⟩ := ints_at hcell (by omega)
    have hb : b < w.heap.size := by
      have h := hc 0 (by omega)
      by_cases e : b < w.heap.size
      · exact e
      · exfalso
        have : w.heap[b]? = none := Array.getElem?_eq_none (by omega)
        simp [World.cell?, this] at h
    refine (iclone_pos b o len cap zs w hn (by omega) hb (fun i hi => hc i (by omega))).mono fun e w' ⟨h1, h2, h3⟩ => ?_
    have hcl : ∀ t, t < len → w'.cell? ⟨w.heap.size, t, none⟩ = some (.int .i64 (zs.getD t 0)) := fun t ht => by
      rw [h3.cellAt t (by omega)]
      simp [List.getElem?_map, ht, List.getD_eq_getElem?_getD, List.getElem?_eq_getElem (show t < zs.length by omega)]
    refine ⟨h1, h2, fun _ => ?_, hcl⟩
    have h := hcl 0 (by omega)
    by_cases e : w.heap.size < w'.heap.size
    · exact e
    · exfalso
      have : w'.heap[w.heap.size]? = none := Array.getElem?_eq_none (by omega)
      simp [World.cell?, this] at h

end Go.Proofs.Qxb6605550a
