/- Seat b6605550a: ZZScannerAhead, whole. -/
import Derived.Test.Qxb6605550aZahead
namespace Go.Proofs.Qxb6605550a
open Go.RowKit AP

theorem cell_new5 (w : World) (cs : Array Value) (t : TypeId) (i : Nat) (v : Value) (h : cs[i]? = some v) : (w.alloc (.cells cs t)).cell? ⟨w.heap.size, i, none⟩ = some v := by
  have h2 : (w.alloc (.cells cs t)).heap[w.heap.size]? = some (.cells cs t) := by
    show (w.heap.push _)[w.heap.size]? = _
    exact Array.getElem?_push_size
  unfold World.cell?
  rw [h2]
  exact h

theorem ahead_any (f : Nat → Int) (hf : ∀ t, 0 ≤ f t ∧ f t < 256) (s n m : Nat) (a a4 : Option Addr) (cs c pos last : Int) (k0 : 0 ≤ c) (k1 : c < 256) (w : World) (hn : n ≤ 1048576) (hm : m ≤ 1048576) (hd : last ≤ pos → 0 ≤ pos ∧ pos ≤ (n : Int) ∧ (0 < m → pos ≤ cs))
    (h0 : w.cell? ⟨s, 0, none⟩ = some (.slice a n n)) (h1 : w.cell? ⟨s, 1, none⟩ = some (.int .i64 pos)) (h4 : w.cell? ⟨s, 4, none⟩ = some (.slice a4 m m)) (ha : BV w a n f) (hsv : SV w a4 m cs) :
    Calls Try.prog 26 #[.pointer (some ⟨s, 0, none⟩), .int .u8 c, .int .i64 last] w fun e w' => ∃ (r : Int) (d : Nat), e = .returned (.int .i64 r) ∧ Ah f n m cs c pos last r ∧ w' = w.drewN d := by
  by_cases hl : pos < last
  · exact (ahead_last s pos c last w h1 hl).mono fun e w' ⟨e1, e2⟩ => ⟨last, 0, e1, .inl ⟨hl, rfl⟩, e2⟩
  · have hl2 : last ≤ pos := by omega
    obtain ⟨d1, d2, d3⟩ := hd hl2
    obtain ⟨p, rfl⟩ : ∃ p : Nat, pos = (p : Int) := ⟨pos.toNat, by omega⟩
    rcases ha with ⟨rfl, rfl⟩ | ⟨g, rfl, hc⟩
    · obtain rfl : p = 0 := by omega
      exact (ahead_none f s m a4 cs c last w hm d3 hl2 h0 h1 h4 hsv).mono fun e w' ⟨r, d, e1, e2, e3⟩ => ⟨r, d, e1, .inr ⟨hl2, 0, r, rfl, rfl, e2⟩, e3⟩
    · exact (ahead_some f hf s g n p m a4 cs c last k0 k1 w hn (by omega) hm d3 hl2 h0 h1 h4 hc hsv).mono fun e w' ⟨r, d, e1, e2, e3⟩ => ⟨r, d, e1, .inr ⟨hl2, p, r, rfl, rfl, e2⟩, e3⟩

theorem Below.drewN' {B : Nat} {a w : World} (h : Below B a w) (d : Nat) : Below B a (w.drewN d) := ⟨h.os, h.tape, h.output, h.size, h.block⟩

set_option maxRecDepth 100000 in
set_option maxHeartbeats 2000000 in
theorem zahead_any (a a4 a5 : Option Addr) (n m : Nat) (f h k : Nat → Int) (pos q b c last : Int) (w : World) (hn : n ≤ 1048576) (hm : m ≤ 1048576)
    (hf : ∀ t, 0 ≤ f t ∧ f t < 256) (k0 : 0 ≤ c) (k1 : c < 256) (hd : last ≤ pos → 0 ≤ pos ∧ pos ≤ (n : Int) ∧ (0 < m → pos ≤ h 0)) (ha : BV w a n f) (h4 : IV w a4 m h) (h5 : IV w a5 m k) :
    Calls Try.prog 20 #[.slice a n n, .int .i64 pos, .int .i64 q, .int .i64 b, .slice a4 m m, .slice a5 m m, .int .u8 c, .int .i64 last] w fun e w' => ∃ r, e = .returned (.int .i64 r) ∧ Ah f n m (h 0) c pos last r ∧ Below w.heap.size w w' := by
  have HA : Hid (BV w a n f) := ha
  have H4 : Hid (IV w a4 m h) := h4
  have H5 : Hid (IV w a5 m k) := h5
  have HF : Hid (∀ t, 0 ≤ f t ∧ f t < 256) := hf
  have HD : Hid (last ≤ pos → 0 ≤ pos ∧ pos ≤ (n : Int) ∧ (0 < m → pos ≤ h 0)) := hd
  clear ha h4 h5 hf hd
  go_enter Try.func20, Try.ntmps20
  go_wp2_with fail
  refine (spans_all a4 a5 m h k w hm H4.out H5.out).mono ?_
  rintro e w1 ⟨a', rfl, hb1, hsv⟩
  have HB1 : Hid (Below w.heap.size w w1) := hb1
  have HSV : Hid (SV w1 a' m (h 0)) := hsv
  have HBV : Hid (BV w1 a n f) := HA.out.below hb1 (Nat.le_refl _)
  clear hb1 hsv
  go_wp2_with fail
  have hsz := HB1.out.size
  have hal : Below w1.heap.size w1 (w1.alloc (.cells #[.slice a n n, .int .i64 pos, .int .i64 q, .int .i64 b, .slice a' m m] 44)) := (Below.refl _ _).alloc (Nat.le_refl _) _
  refine (ahead_any f HF.out w1.heap.size n m a a' (h 0) c pos last k0 k1 _ hn hm HD.out (cell_new5 _ _ _ 0 _ rfl) (cell_new5 _ _ _ 1 _ rfl) (cell_new5 _ _ _ 4 _ rfl) (HBV.out.below hal (Nat.le_refl _)) (HSV.out.below hal (Nat.le_refl _))).mono ?_
  rintro e w2 ⟨r, d, rfl, hah, hw2⟩
  have HAH : Hid (Ah f n m (h 0) c pos last r) := hah
  have HB2 : Hid (Below w.heap.size w w2) := by rw [hw2]; exact Below.drewN' (HB1.out.trans (hal.mono hsz)) d
  clear hah hw2 hal hsz
  go_wp2_with fail
  go_ret
  exact ⟨r, rfl, HAH.out, HB2.out⟩
end Go.Proofs.Qxb6605550a
