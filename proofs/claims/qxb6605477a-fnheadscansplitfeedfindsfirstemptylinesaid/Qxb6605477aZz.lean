/- Seat b6605477a: ZZheadScan computes 'auto'; at an empty slice, wherever it lies, too. -/
import Derived.Test.Qxb6605477aScan
import Derived.Deep.QuietTactic
import Derived.BigQuiet
namespace Go.Proofs.Qxb6605477a
open Go.RowKit Plain

set_option maxRecDepth 100000 in
set_option maxHeartbeats 1000000 in
theorem zscan_any (f : Nat → Int) (hf : ∀ t, 0 ≤ f t ∧ f t < 256) (b o n cp : Nat) (size line : Int) (cr st en : Bool) (w : World) (hn : n ≤ 1048576) (hcp : n ≤ cp) (hb : b < w.heap.size) (hc : ∀ t, t < n → w.cell? ⟨b, o + t, none⟩ = some (.int .u8 (f t)))
    (hsz : wrap64 size = size) (hln : wrap64 line = line) :
    Calls Try.prog 14 #[.int .i64 size, .int .i64 line, .bool cr, .bool st, .bool en, .slice (some ⟨b, o, none⟩) n cp] w fun e w' => e = .returned (val7 (auto f n 0 0 size line cr st en)) ∧ Below w.heap.size w w' := by
  have HF : Hid (∀ t, 0 ≤ f t ∧ f t < 256) := hf
  have HSZ : Hid (wrap64 size = size) := hsz
  have HLN : Hid (wrap64 line = line) := hln
  have HC : Hid (∀ (x : Obj) t, t < n → (w.alloc x).cell? ⟨b, o + t, none⟩ = some (.int .u8 (f t))) := fun x t ht => (((Below.refl w.heap.size w).alloc (Nat.le_refl _) x).cell (p := ⟨b, o + t, none⟩) hb).trans (hc t ht)
  clear hf hc hsz hln
  go_enter Try.func14, Try.ntmps14
  go_wp2_with fail
  refine (scan_any f HF.out b o n cp w.heap.size size line cr st en _ hn hcp hb (HC.out _) ⟨by simp, by simp, by simp, by simp, by simp, fun j => by simp⟩ HSZ.out HLN.out).mono ?_
  rintro e w' ⟨R, hR, rfl, hb2, hfl⟩
  have HR : Hid (R = auto f n 0 0 size line cr st en) := hR
  obtain ⟨c0, c1, c2, c3, c4, _⟩ := hfl
  have HB : Hid (Below w.heap.size w w') := ((Below.refl _ _).alloc (Nat.le_refl _) _).trans hb2
  clear hb2 hR
  go_wp2_with fail
  go_quiet (fail)
  go_wp2_with fail
  exact bodyPost_ret (v := val7 R) (by simp [results, Try.results14, go_sem, val7]) rfl ⟨by rw [HR.out], HB.out.trans ⟨rfl, rfl, rfl, Nat.le_refl _, fun _ _ => rfl⟩⟩

set_option maxRecDepth 100000 in
set_option maxHeartbeats 1000000 in
theorem scan_empty (a : Option Addr) (cp g : Nat) (size line : Int) (cr st en : Bool) (w : World) (hfld : Fld g w size line cr st en) (hsz : wrap64 size = size) :
    Calls Try.prog 18 #[.pointer (some ⟨g, 0, none⟩), .slice a 0 cp] w fun e w' => e = .returned (.tuple #[.int .i64 0, .int .i64 0]) ∧ Below g w w' ∧ Fld g w' size line cr st en := by
  have HFL : Hid (Fld g w size line cr st en) := hfld
  obtain ⟨c0, c1, c2, c3, c4, fz⟩ := hfld
  have f0 := fz 0
  have f3 := fz 3
  have HFL2 : Hid (Fld g ((w.setCell ⟨g, 0, none⟩ (.int .i64 size)).setCell ⟨g, 3, none⟩ (.bool st)) size line cr st en) := (HFL.out.set0 _).set3 _
  have HB2 : Hid (Below g w ((w.setCell ⟨g, 0, none⟩ (.int .i64 size)).setCell ⟨g, 3, none⟩ (.bool st))) := Below.setCell (p := ⟨g, 3, none⟩) (Below.setCell (p := ⟨g, 0, none⟩) (Below.refl _ _) (Nat.le_refl g) _) (Nat.le_refl g) _
  clear fz HFL
  cases st
  all_goals
    go_enter Try.func18, Try.ntmps18
    go_wp2_with fail
    refine wp_loop_rounds 1 ?_
    rw [rounds_succ]
    go_wp2_with fail
    refine wp_loop_rounds 1 ?_
    rw [rounds_succ]
    go_wp2_with fail
    go_ret2
    exact ⟨rfl, HB2.out, HFL2.out⟩

set_option maxRecDepth 100000 in
set_option maxHeartbeats 1000000 in
theorem zscan_empty (a : Option Addr) (cp : Nat) (size line : Int) (cr st en : Bool) (w : World) (hsz : wrap64 size = size) :
    Calls Try.prog 14 #[.int .i64 size, .int .i64 line, .bool cr, .bool st, .bool en, .slice a 0 cp] w fun e w' => e = .returned (val7 ⟨0, 0, size, line, cr, st, en⟩) ∧ Below w.heap.size w w' := by
  have HSZ : Hid (wrap64 size = size) := hsz
  clear hsz
  go_enter Try.func14, Try.ntmps14
  go_wp2_with fail
  refine (scan_empty a cp w.heap.size size line cr st en _ ⟨by simp, by simp, by simp, by simp, by simp, fun j => by simp⟩ HSZ.out).mono ?_
  rintro e w' ⟨rfl, hb2, hfl⟩
  obtain ⟨c0, c1, c2, c3, c4, _⟩ := hfl
  have HB : Hid (Below w.heap.size w w') := ((Below.refl _ _).alloc (Nat.le_refl _) _).trans hb2
  clear hb2
  go_wp2_with fail
  go_quiet (fail)
  go_wp2_with fail
  exact bodyPost_ret (v := val7 ⟨0, 0, size, line, cr, st, en⟩) (by simp [results, Try.results14, go_sem, val7]) rfl ⟨rfl, HB.out.trans ⟨rfl, rfl, rfl, Nat.le_refl _, fun _ _ => rfl⟩⟩
end Go.Proofs.Qxb6605477a
