/- Seat b6605550a: the shared small functions: the byte copy. -/
import Derived.Test.Qxb6605550aProg
import Derived.WalkKit
import Derived.WalkSpells
import Derived.Lib.SliceRun
namespace Go.Proofs.Qxb6605550a
open Go.RowKit

theorem Try.info5 : (Try.prog.info? 5).map (fun i => (i.zero, i.size, i.bytes)) = some (some (.int .u8 0), 1, 1) := by kernel_rfl

/-- k bytes copied, the rest zero. -/
def part (zs : List Int) (n k : Nat) : List Value := (zs.take k).map (.int .u8) ++ List.replicate (n - k) (.int .u8 0)

theorem part_succ (zs : List Int) (n k : Nat) (hk : k < n) (hz : n ≤ zs.length) : (part zs n k).set k (.int .u8 (zs.getD k 0)) = part zs n (k + 1) := by
  unfold part
  have hlen : ((zs.take k).map (Value.int .u8)).length = k := by simp; omega
  rw [List.set_append_right _ _ (by omega), hlen, Nat.sub_self]
  have e : n - k = (n - (k + 1)) + 1 := by omega
  rw [e, List.replicate_succ, List.set_cons_zero, List.take_succ_eq_append_getElem (by omega), List.map_append, List.append_assoc]
  simp only [List.getD_eq_getElem?_getD, List.getElem?_eq_getElem (show k < zs.length by omega), Option.getD_some, List.map_cons, List.map_nil, List.cons_append, List.nil_append]

theorem part_get (zs : List Int) (n k : Nat) (hk : k < n) (hz : n ≤ zs.length) : ∃ v, (part zs n k)[k]? = some v := by
  have : k < (part zs n k).length := by unfold part; simp; omega
  exact ⟨_, List.getElem?_eq_getElem this⟩

set_option maxHeartbeats 400000 in
theorem clone_pos (b o n c : Nat) (zs : List Int) (w : World) (hn : n ≤ 1048576) (hz : n ≤ zs.length) (hb : b < w.heap.size) (hc : ∀ i, i < n → w.cell? ⟨b, o + i, none⟩ = some (.int .u8 (zs.getD i 0))) :
    Calls Try.prog 9 #[.slice (some ⟨b, o, none⟩) n c] w fun e w' => e = .returned (.slice (some ⟨w.heap.size, 0, none⟩) n n) ∧ Below w.heap.size w w' ∧ w'.ownsRow w.heap.size 5 1 (.slice (some ⟨w.heap.size, 0, none⟩) n n) n ((zs.take n).map (.int .u8)) := by
  obtain ⟨i0, hi, hz0, hz1, hz2⟩ := info_parts Try.info5
  have ke := fun (w : World) (a : Option Addr) (n c : Nat) => Lib.run_eql_slice_nil (P := Try.prog) w 22 5 a n c 0 0 Try.underlying22
  go_enter Try.func9, Try.ntmps9
  go_wp2_with (first | (at_make; refine wpList_make_full _ rfl (.tmp 8) (.tmp 8) 22 rfl w.heap.size 5 i0 (.int .u8 0) 1 Try.underlying22 hi hz0 hz1 .i64 .i64 _ _ n rfl rfl rfl rfl (by rw [hz2]; omega) (by unfold maxLen; omega) (Nat.le_refl _) ?_; intro w1 hown hgrow))
  simp only [Nat.mul_one] at hown
  have hown0 : w1.ownsRow w.heap.size 5 1 (.slice (some ⟨w.heap.size, 0, none⟩) n n) n (part zs n 0) := by
    have e := toList_madeCells_one (.int .u8 0) n
    simp only [Value.cells] at hown
    rw [e] at hown
    simpa [part] using hown
  have hb1 : Below w.heap.size w w1 := (Below.refl _ _).grown hgrow (Nat.le_refl _) (by intro k h; cases h)
  clear hown hgrow ke
  go_loopw [4] (fun i wr => ∃ k : Nat, k ≤ n ∧ i = .int .i64 k ∧ Below w.heap.size w wr ∧ wr.ownsRow w.heap.size 5 1 (.slice (some ⟨w.heap.size, 0, none⟩) n n) n (part zs n k)) (fun i _ => n - (intOf i).toNat)
  case atStart => exact ⟨0, Nat.zero_le _, rfl, hb1, hown0⟩
  case round =>
    obtain ⟨k, hk, rfl, hb2, hown2⟩ := hrel
    clear hb1 hown0
    by_cases hlt : k < n
    · have hx : wr.cell? ⟨b, o + k, none⟩ = some (.int .u8 (zs.getD k 0)) := (hb2.cell (by exact hb)).trans (hc k hlt)
      obtain ⟨v, hv⟩ := part_get zs n k hlt hz
      have hy : wr.cell? ⟨w.heap.size, k, none⟩ = some v := (hown2.cellAt k (by omega)).trans hv
      have hf := hown2.frozenAt k
      have hs := hown2.stored k (.int .u8 (zs.getD k 0))
      rw [part_succ zs n k hlt hz] at hs
      have H1 : Hid _ := hs
      have H2 : Hid _ := hb2
      clear hs hown2 hb2 hv hc
      go_wp2
      go_roundw
      case rel => exact ⟨k + 1, by omega, by go_num, H2.out.setCell (Nat.le_refl _) _, H1.out.1⟩
      case measure => simp [intOf]; omega
    · have hkn : k = n := by omega
      subst hkn
      go_wp2
      go_ret
      refine ⟨rfl, hb2, ?_⟩
      simpa [part] using hown2
end Go.Proofs.Qxb6605550a
