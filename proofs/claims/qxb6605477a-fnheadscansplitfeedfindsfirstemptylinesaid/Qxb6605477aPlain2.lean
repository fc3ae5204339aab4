/- Seat b6605477a: the plain part of the second law: two feeds are one; the search for the first empty line. -/
import Derived.Test.Qxb6605477aPlain
namespace Go.Proofs.Qxb6605477a.Plain
open Go.RowKit (wrap64)

/-- Two feeds. -/
theorem auto_append (f : Nat → Int) (m : Nat) : ∀ (k p s : Nat) (sz ln : Int) (c st en : Bool), auto f (m + k) p s sz ln c st en =
    auto f m (auto f k p s sz ln c st en).taken (auto f k p s sz ln c st en).start (auto f k p s sz ln c st en).size (auto f k p s sz ln c st en).line (auto f k p s sz ln c st en).cr (auto f k p s sz ln c st en).st (auto f k p s sz ln c st en).en
  | 0, p, s, sz, ln, c, st, en => rfl
  | k + 1, p, s, sz, ln, c, st, en => by
    rw [show m + (k + 1) = (m + k) + 1 from by omega]
    cases st with
    | false =>
      by_cases h : f p = 13 ∨ f p = 10
      · rw [auto_skip f _ p s sz ln c en h, auto_skip f k p s sz ln c en h]
        exact auto_append f m k _ _ _ _ _ _ _
      · rw [auto_on f _ p s sz ln c en h, auto_on f k p s sz ln c en h]
        cases en with
        | true => rw [auto_stop, auto_stop, auto_stop]
        | false =>
          by_cases h10 : f p = 10
          · exact absurd (.inr h10) h
          · rw [auto_byte f _ p s sz ln c h10, auto_byte f k p s sz ln c h10]
            exact auto_append f m k _ _ _ _ _ _ _
    | true =>
      cases en with
      | true => rw [auto_stop, auto_stop, auto_stop]
      | false =>
        by_cases h10 : f p = 10
        · rw [auto_lf f _ p s sz ln c h10, auto_lf f k p s sz ln c h10]
          exact auto_append f m k _ _ _ _ _ _ _
        · rw [auto_byte f _ p s sz ln c h10, auto_byte f k p s sz ln c h10]
          exact auto_append f m k _ _ _ _ _ _ _

/-- All was taken, or the head has ended. -/
theorem auto_all (f : Nat → Int) : ∀ (k p s : Nat) (sz ln : Int) (c st en : Bool), (auto f k p s sz ln c st en).taken = p + k ∨ ((auto f k p s sz ln c st en).st = true ∧ (auto f k p s sz ln c st en).en = true)
  | 0, p, s, sz, ln, c, st, en => .inl rfl
  | k + 1, p, s, sz, ln, c, st, en => by
    have e : p + (k + 1) = p + 1 + k := by omega
    rw [e]
    cases st with
    | false =>
      by_cases h : f p = 13 ∨ f p = 10
      · rw [auto_skip f k p s sz ln c en h]
        exact auto_all f k _ _ _ _ _ _ _
      · rw [auto_on f k p s sz ln c en h]
        cases en with
        | true => rw [auto_stop]; exact .inr ⟨rfl, rfl⟩
        | false =>
          by_cases h10 : f p = 10
          · exact absurd (.inr h10) h
          · rw [auto_byte f k p s sz ln c h10]
            exact auto_all f k _ _ _ _ _ _ _
    | true =>
      cases en with
      | true => rw [auto_stop]; exact .inr ⟨rfl, rfl⟩
      | false =>
        by_cases h10 : f p = 10
        · rw [auto_lf f k p s sz ln c h10]
          exact auto_all f k _ _ _ _ _ _ _
        · rw [auto_byte f k p s sz ln c h10]
          exact auto_all f k _ _ _ _ _ _ _

/-- The same bytes, counted from d on. -/
theorem auto_shift (f : Nat → Int) (d d0 : Nat) : ∀ (k p s : Nat) (sz ln : Int) (c st en : Bool), auto f k (d + p) (d0 + s) sz ln c st en =
    ⟨d0 + (auto (fun t => f (d + t)) k p s sz ln c st en).start, d + (auto (fun t => f (d + t)) k p s sz ln c st en).taken, (auto (fun t => f (d + t)) k p s sz ln c st en).size, (auto (fun t => f (d + t)) k p s sz ln c st en).line, (auto (fun t => f (d + t)) k p s sz ln c st en).cr, (auto (fun t => f (d + t)) k p s sz ln c st en).st, (auto (fun t => f (d + t)) k p s sz ln c st en).en⟩
  | 0, p, s, sz, ln, c, st, en => rfl
  | k + 1, p, s, sz, ln, c, st, en => by
    have ih := auto_shift f d d0 k (p + 1)
    have ih1 := ih s
    have ih2 := ih (s + 1)
    rw [show d + (p + 1) = d + p + 1 from by omega] at ih1 ih2
    rw [show d0 + (s + 1) = d0 + s + 1 from by omega] at ih2
    cases st with
    | false =>
      by_cases h : f (d + p) = 13 ∨ f (d + p) = 10
      · rw [auto_skip f k (d + p) (d0 + s) sz ln c en h, auto_skip (fun t => f (d + t)) k p s sz ln c en h]
        exact ih2 _ _ _ _ _
      · rw [auto_on f k (d + p) (d0 + s) sz ln c en h, auto_on (fun t => f (d + t)) k p s sz ln c en h]
        cases en with
        | true => rw [auto_stop, auto_stop]
        | false =>
          by_cases h10 : f (d + p) = 10
          · exact absurd (.inr h10) h
          · rw [auto_byte f k (d + p) (d0 + s) sz ln c h10, auto_byte (fun t => f (d + t)) k p s sz ln c h10]
            exact ih1 _ _ _ _ _
    | true =>
      cases en with
      | true => rw [auto_stop, auto_stop]
      | false =>
        by_cases h10 : f (d + p) = 10
        · rw [auto_lf f k (d + p) (d0 + s) sz ln c h10, auto_lf (fun t => f (d + t)) k p s sz ln c h10]
          exact ih1 _ _ _ _ _
        · rw [auto_byte f k (d + p) (d0 + s) sz ln c h10, auto_byte (fun t => f (d + t)) k p s sz ln c h10]
          exact ih1 _ _ _ _ _

/-- Fed k bytes, then m more: the two results add up, the fields are the second feed's. -/
theorem two_feeds (f : Nat → Int) (k m : Nat) (sz ln : Int) (c st en : Bool) (R1 R2 : St) (h1 : R1 = auto f k 0 0 sz ln c st en) (h2 : R2 = auto (fun t => f (k + t)) m 0 0 R1.size R1.line R1.cr R1.st R1.en) :
    auto f (m + k) 0 0 sz ln c st en = ⟨R1.start + R2.start, R1.taken + R2.taken, R2.size, R2.line, R2.cr, R2.st, R2.en⟩ := by
  rw [auto_append f m k, ← h1]
  rcases auto_all f k 0 0 sz ln c st en with h | ⟨h, h'⟩
  · rw [← h1, Nat.zero_add] at h
    have := auto_shift f k R1.start m 0 0 R1.size R1.line R1.cr R1.st R1.en
    rw [← h2, Nat.add_zero, Nat.add_zero] at this
    rw [h, this]
  · rw [← h1] at h h'
    rw [h, h', auto_stop] at h2
    rw [h, h', auto_stop, h2]
    rfl

/-- The taken bytes and the skipped ones are no more than there are. -/
theorem auto_bound (f : Nat → Int) : ∀ (k p s : Nat) (sz ln : Int) (c st en : Bool), (auto f k p s sz ln c st en).taken ≤ p + k ∧ (auto f k p s sz ln c st en).start ≤ s + k
  | 0, p, s, sz, ln, c, st, en => ⟨Nat.le_refl _, Nat.le_refl _⟩
  | k + 1, p, s, sz, ln, c, st, en => by
    have ih := auto_bound f k (p + 1)
    rw [auto]
    split
    · have := ih (s + 1) (wrap64 (sz + 1)) ln c false en; omega
    · split
      · exact ⟨by show p ≤ _; omega, by show s ≤ _; omega⟩
      · split
        · have := ih s (wrap64 (sz + 1)) 0 false true (ends ln c); omega
        · have := ih s (wrap64 (sz + 1)) (wrap64 (ln + 1)) (f p == 13) true false; omega

theorem auto_wf (f : Nat → Int) : ∀ (k p s : Nat) (sz ln : Int) (c st en : Bool), wrap64 sz = sz → wrap64 ln = ln → wrap64 (auto f k p s sz ln c st en).size = (auto f k p s sz ln c st en).size ∧ wrap64 (auto f k p s sz ln c st en).line = (auto f k p s sz ln c st en).line
  | 0, p, s, sz, ln, c, st, en, h1, h2 => ⟨h1, h2⟩
  | k + 1, p, s, sz, ln, c, st, en, h1, h2 => by
    rw [auto]
    split
    · exact auto_wf f k _ _ _ _ _ _ _ (wrap_idem _) h2
    · split
      · exact ⟨h1, h2⟩
      · split
        · exact auto_wf f k _ _ _ _ _ _ _ (wrap_idem _) (by unfold wrap64; omega)
        · exact auto_wf f k _ _ _ _ _ _ _ (wrap_idem _) (wrap_idem _)

/-! ### The search -/
/-- ls: where the line that j stands in begins. -/
def Ls (f : Nat → Int) (q j ls : Nat) : Prop := q ≤ ls ∧ ls ≤ j ∧ (ls = q ∨ f (ls - 1) = 10) ∧ ∀ t, ls ≤ t → t < j → f t ≠ 10

theorem Ls.unique {f : Nat → Int} {q j a b : Nat} (ha : Ls f q j a) (hb : Ls f q j b) : a = b := by
  obtain ⟨a1, a2, a3, a4⟩ := ha
  obtain ⟨b1, b2, b3, b4⟩ := hb
  rcases Nat.lt_trichotomy a b with h | h | h
  · rcases b3 with e | e
    · omega
    · exact absurd e (a4 (b - 1) (by omega) (by omega))
  · exact h
  · rcases a3 with e | e
    · omega
    · exact absurd e (b4 (a - 1) (by omega) (by omega))

/-- The automaton, where j bytes have been taken and the head has not ended. -/
def At (f : Nat → Int) (n q j : Nat) (R : St) : Prop := ∃ ls, Ls f q j ls ∧ auto f (n - j) j q (j : Int) (((j - ls : Nat)) : Int) (decide (ls < j) && f (j - 1) == 13) true false = R

/-- Go's search condition. -/
def Cnd (f : Nat → Int) (q j : Nat) : Prop := f j = 10 ∧ (f (j - 1) = 10 ∨ (f (j - 1) = 13 ∧ q + 2 ≤ j ∧ f (j - 2) = 10))

theorem wrap_small (x : Int) (h0 : 0 ≤ x) (h1 : x ≤ 2000000) : wrap64 x = x := by unfold wrap64; omega

theorem at_first {f : Nat → Int} {n q : Nat} {R : St} (hq : q < n) (hn : n ≤ 1048576) (hf : ¬ (f q = 13 ∨ f q = 10)) (h : auto f (n - q) q q (q : Int) 0 false false false = R) : At f n q (q + 1) R := by
  refine ⟨q, ⟨Nat.le_refl _, by omega, .inl rfl, fun t a b => ?_⟩, ?_⟩
  · obtain rfl : t = q := by omega
    exact fun e => hf (.inr e)
  · obtain ⟨g, hg⟩ : ∃ g, n - q = g + 1 := ⟨n - q - 1, by omega⟩
    rw [hg, auto_on f g q q _ _ _ _ hf, auto_byte f g q q _ _ _ (fun e => hf (.inr e)), wrap_small _ (by omega) (by omega)] at h
    rw [show n - (q + 1) = g from by omega, ← h]
    have e1 : (decide (q < q + 1) && f (q + 1 - 1) == 13) = (f q == 13) := by simp
    have e2 : ((q + 1 - q : Nat) : Int) = wrap64 (0 + 1) := by rw [wrap_small _ (by omega) (by omega)]; omega
    rw [e1, e2]
    push_cast
    rfl

theorem ends_iff {f : Nat → Int} {q j ls : Nat} (hq : ¬ (f q = 13 ∨ f q = 10)) (hj : q + 1 ≤ j) (h : Ls f q j ls) :
    ends (((j - ls : Nat)) : Int) (decide (ls < j) && f (j - 1) == 13) = true ↔ (f (j - 1) = 10 ∨ (f (j - 1) = 13 ∧ q + 2 ≤ j ∧ f (j - 2) = 10)) := by
  obtain ⟨h1, h2, h3, h4⟩ := h
  unfold ends
  simp only [Bool.or_eq_true, Bool.and_eq_true, beq_iff_eq, decide_eq_true_eq]
  constructor
  · rintro (e | ⟨e, _, e13⟩)
    · have : ls = j := by omega
      subst this
      rcases h3 with e' | e'
      · omega
      · exact .inl e'
    · have hls : ls = j - 1 := by omega
      rcases h3 with e' | e'
      · exfalso
        apply hq
        left
        rw [← e', hls]
        exact e13
      · have hne : ls ≠ q := fun x => hq (.inl (by rw [← x, hls]; exact e13))
        refine .inr ⟨e13, by omega, ?_⟩
        rw [show j - 2 = ls - 1 from by omega]
        exact e'
  · rintro (e | ⟨e13, hj2, e10⟩)
    · left
      have : ls = j := by
        by_cases hl : ls = j
        · exact hl
        · exact absurd e (h4 (j - 1) (by omega) (by omega))
      omega
    · right
      have hlj : ls ≠ j := fun x => by
        rcases h3 with e' | e'
        · omega
        · rw [x, e13] at e'; simp at e'
      have : ls = j - 1 := by
        by_cases hl : ls = j - 1
        · exact hl
        · exact absurd e10 (h4 (j - 2) (by omega) (by omega))
      exact ⟨by omega, by omega, e13⟩

theorem at_next {f : Nat → Int} {n q j : Nat} {R : St} (hq : ¬ (f q = 13 ∨ f q = 10)) (hqj : q + 1 ≤ j) (hj : j < n) (hn : n ≤ 1048576) (h : At f n q j R) (hc : ¬ Cnd f q j) : At f n q (j + 1) R := by
  obtain ⟨ls, hls, h⟩ := h
  obtain ⟨g, hg⟩ : ∃ g, n - j = g + 1 := ⟨n - j - 1, by omega⟩
  have hg2 : n - (j + 1) = g := by omega
  by_cases h10 : f j = 10
  · have he : ends (((j - ls : Nat)) : Int) (decide (ls < j) && f (j - 1) == 13) = false := by
      rw [Bool.eq_false_iff]
      intro x
      exact hc ⟨h10, (ends_iff hq hqj hls).1 x⟩
    rw [hg, auto_lf f g j q _ _ _ h10, he, wrap_small _ (by omega) (by omega)] at h
    refine ⟨j + 1, ⟨by omega, Nat.le_refl _, .inr h10, fun t a b => by omega⟩, ?_⟩
    rw [hg2, ← h]
    simp
  · obtain ⟨h1, h2, h3, h4⟩ := hls
    rw [hg, auto_byte f g j q _ _ _ h10, wrap_small _ (by omega) (by omega), wrap_small _ (by omega) (by omega)] at h
    refine ⟨ls, ⟨h1, by omega, h3, fun t a b => ?_⟩, ?_⟩
    · by_cases e : t = j
      · rw [e]; exact h10
      · exact h4 t a (by omega)
    · rw [hg2, ← h]
      have e1 : (decide (ls < j + 1) && f (j + 1 - 1) == 13) = (f j == 13) := by simp; intro; omega
      have e2 : ((j + 1 - ls : Nat) : Int) = ((j - ls : Nat) : Int) + 1 := by omega
      rw [e1, e2]
      push_cast
      rfl

theorem at_hit {f : Nat → Int} {n q j : Nat} {R : St} (hq : ¬ (f q = 13 ∨ f q = 10)) (hqj : q + 1 ≤ j) (hj : j < n) (hn : n ≤ 1048576) (h : At f n q j R) (hc : Cnd f q j) : R = ⟨q, j + 1, (j : Int) + 1, 0, false, true, true⟩ := by
  obtain ⟨ls, hls, h⟩ := h
  obtain ⟨g, hg⟩ : ∃ g, n - j = g + 1 := ⟨n - j - 1, by omega⟩
  have he : ends (((j - ls : Nat)) : Int) (decide (ls < j) && f (j - 1) == 13) = true := (ends_iff hq hqj hls).2 hc.2
  rw [hg, auto_lf f g j q _ _ _ hc.1, he, wrap_small _ (by omega) (by omega), auto_stop] at h
  exact h.symm

theorem at_end {f : Nat → Int} {n q ls : Nat} {R : St} (hqn : q + 1 ≤ n) (h : At f n q n R) (hl : Ls f q n ls) : R = ⟨q, n, (n : Int), ((n : Int) - (ls : Int)), f (n - 1) == 13, true, false⟩ := by
  obtain ⟨ls', hls, h⟩ := h
  obtain rfl := hls.unique hl
  rw [Nat.sub_self, auto] at h
  rw [← h]
  have e1 : (decide (ls' < n) && f (n - 1) == 13) = (f (n - 1) == 13) := by
    by_cases e : ls' < n
    · simp [e]
    · have : ls' = n := by have := hls.2.1; omega
      rcases hls.2.2.1 with x | x
      · omega
      · rw [this] at x
        simp [e, x]
  have e2 : ((n - ls' : Nat) : Int) = (n : Int) - (ls' : Int) := by have := hls.2.1; omega
  rw [e1, e2]
end Go.Proofs.Qxb6605477a.Plain
