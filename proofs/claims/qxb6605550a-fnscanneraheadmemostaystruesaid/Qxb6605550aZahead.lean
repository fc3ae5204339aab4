/- Seat b6605550a: ZZScannerAhead. -/
import Derived.Test.Qxb6605550aAhead
import Derived.Test.Qxb6605550aSpans
namespace Go.Proofs.Qxb6605550a
open Go.RowKit AP

/-- A slice of n ints: nil, or at the head of a block. -/
def IV (w : World) (a : Option Addr) (n : Nat) (h : Nat → Int) : Prop := (a = none ∧ n = 0) ∨ ∃ g, a = some ⟨g, 0, none⟩ ∧ ∀ t, t < n → w.cell? ⟨g, t, none⟩ = some (.int .i64 (h t))

theorem cell_lt {w : World} {a : Addr} {v : Value} (h : w.cell? a = some v) : a.block < w.heap.size := by
  by_cases e : a.block < w.heap.size
  · exact e
  · exfalso
    have : w.heap[a.block]? = none := Array.getElem?_eq_none (by omega)
    simp [World.cell?, this] at h

theorem BV.below {w w' : World} {a : Option Addr} {n B : Nat} {f : Nat → Int} (h : BV w a n f) (hb : Below B w w') (hB : w.heap.size ≤ B) : BV w' a n f := by
  rcases h with h | ⟨g, rfl, hc⟩
  · exact .inl h
  · exact .inr ⟨g, rfl, fun t ht => (hb.cell (p := ⟨g, t, none⟩) (Nat.lt_of_lt_of_le (cell_lt (hc t ht)) hB)).trans (hc t ht)⟩
theorem IV.below {w w' : World} {a : Option Addr} {n B : Nat} {f : Nat → Int} (h : IV w a n f) (hb : Below B w w') (hB : w.heap.size ≤ B) : IV w' a n f := by
  rcases h with h | ⟨g, rfl, hc⟩
  · exact .inl h
  · exact .inr ⟨g, rfl, fun t ht => (hb.cell (p := ⟨g, t, none⟩) (Nat.lt_of_lt_of_le (cell_lt (hc t ht)) hB)).trans (hc t ht)⟩
theorem SV.below {w w' : World} {a : Option Addr} {m B : Nat} {cs : Int} (h : SV w a m cs) (hb : Below B w w') (hB : w.heap.size ≤ B) : SV w' a m cs := by
  rcases h with h | ⟨g, rfl, hc⟩
  · exact .inl h
  · exact .inr ⟨g, rfl, fun h0 => (hb.cell (p := ⟨g, 0, none⟩) (Nat.lt_of_lt_of_le (cell_lt (hc h0)) hB)).trans (hc h0)⟩

theorem spans_all (a4 a5 : Option Addr) (m : Nat) (h k : Nat → Int) (w : World) (hm : m ≤ 1048576) (h4 : IV w a4 m h) (h5 : IV w a5 m k) :
    Calls Try.prog 25 #[.slice a4 m m, .slice a5 m m] w fun e w' => ∃ a', e = .returned (.slice a' m m) ∧ Below w.heap.size w w' ∧ SV w' a' m (h 0) := by
  rcases h4 with ⟨rfl, rfl⟩ | ⟨g4, rfl, hc4⟩
  · exact (spans_nil a5 0 0 w).mono fun e w' ⟨h1, h2⟩ => ⟨none, h1, h2 ▸ Below.refl _ _, .inl ⟨rfl, rfl⟩⟩
  · by_cases h0 : m = 0
    · subst h0
      exact (spans_zero _ 0 a5 0 0 w).mono fun e w' ⟨h1, h2⟩ => ⟨_, h1, h2, .inr ⟨_, rfl, fun h => by omega⟩⟩
    · rcases h5 with ⟨_, h⟩ | ⟨g5, rfl, hc5⟩
      · exact absurd h h0
      · exact (spans_pos g4 g5 m h k w hm (cell_lt (hc4 0 (by omega))) (cell_lt (hc5 0 (by omega))) hc4 hc5).mono fun e w' ⟨h1, h2, h3⟩ => ⟨_, h1, h2, .inr ⟨_, rfl, h3⟩⟩

set_option maxRecDepth 100000 in
set_option maxHeartbeats 2000000 in
theorem ahead_none (f : Nat → Int) (s m : Nat) (a4 : Option Addr) (cs c last : Int) (w : World) (hm : m ≤ 1048576) (hcs : 0 < m → (0 : Int) ≤ cs) (hl : last ≤ 0)
    (h0 : w.cell? ⟨s, 0, none⟩ = some (.slice none 0 0)) (h1 : w.cell? ⟨s, 1, none⟩ = some (.int .i64 0)) (h4 : w.cell? ⟨s, 4, none⟩ = some (.slice a4 m m)) (hsv : SV w a4 m cs) :
    Calls Try.prog 26 #[.pointer (some ⟨s, 0, none⟩), .int .u8 c, .int .i64 last] w fun e w' => ∃ (r : Nat) (d : Nat), e = .returned (.int .i64 r) ∧ Look f c 0 (lim 0 0 m cs) r ∧ w' = w.drewN d := by
  have hL := lim_bd 0 0 m cs (Nat.le_refl _) hcs
  have HLK : Hid (Look f c 0 (lim 0 0 m cs) 0) := ⟨Nat.le_refl _, hL.1, fun t a b => by omega, .inl (by omega)⟩
  clear hL
  by_cases hE1 : last = 0
  · subst hE1
    go_enter Try.func26, Try.ntmps26
    go_wp2_with fail
    go_ret
    exact ⟨0, 0, rfl, HLK.out, rfl⟩
  · have hne : (last == 0) = false := by simpa using hE1
    have hll : ¬ (0 : Int) < last := by omega
    clear hE1
    rcases hsv with ⟨rfl, rfl⟩ | ⟨g4, rfl, hg4⟩
    · go_enter Try.func26, Try.ntmps26
      go_wp2_with fail
      go_quiet (fail)
      go_wp2_with fail
      go_quiet ((go_at_call 27; exact (index_nil c _).mono fun _ _ h => ⟨h.1, _, h.2⟩))
      go_wp2_with fail
      go_ret
      exact ⟨0, _, rfl, HLK.out, by first | rfl | exact World.drewN_drewN _ _ _⟩
    · by_cases hm0 : 0 < m
      · have hx := hg4 hm0
        have hp := hcs hm0
        have hp2 : ¬ cs < 0 := by omega
        have hmz : (0 : Int) < (m : Int) := by omega
        clear hg4 hcs
        go_enter Try.func26, Try.ntmps26
        go_wp2_with fail
        go_quiet (fail)
        go_wp2_with fail
        go_quiet ((go_at_call 27; exact (index_nil c _).mono fun _ _ h => ⟨h.1, _, h.2⟩))
        go_wp2_with fail
        go_ret
        exact ⟨0, _, rfl, HLK.out, by first | rfl | exact World.drewN_drewN _ _ _⟩
      · clear hg4 hcs
        obtain rfl : m = 0 := by omega
        go_enter Try.func26, Try.ntmps26
        go_wp2_with fail
        go_quiet (fail)
        go_wp2_with fail
        go_quiet ((go_at_call 27; exact (index_nil c _).mono fun _ _ h => ⟨h.1, _, h.2⟩))
        go_wp2_with fail
        go_ret
        exact ⟨0, _, rfl, HLK.out, by first | rfl | exact World.drewN_drewN _ _ _⟩
end Go.Proofs.Qxb6605550a
