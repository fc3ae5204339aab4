/- Seat b6605550a: the plain part of stringEnd: no Go in sight. The bytes are a function f, their number n. -/
namespace Go.Proofs.Qxb6605550a.Plain

/-- A reader: s steps lead from a to b; each begins below n, none at a quote; a backslash is stepped over together with the byte behind it. -/
def rd (f : Nat → Int) (n : Nat) : Nat → Nat → Nat → Prop
  | 0, a, b => a = b
  | s + 1, a, b => a < n ∧ ((f a ≠ 34 ∧ f a ≠ 92 ∧ rd f n s (a + 1) b) ∨ (f a = 92 ∧ rd f n s (a + 2) b))

theorem rd_le (f : Nat → Int) (n : Nat) : ∀ (s a b : Nat), rd f n s a b → a ≤ b
  | 0, a, b, h => by simp only [rd] at h; omega
  | s + 1, a, b, h => by
    simp only [rd] at h
    rcases h with ⟨_, ⟨_, _, h⟩ | ⟨_, h⟩⟩
    · have := rd_le f n s _ _ h; omega
    · have := rd_le f n s _ _ h; omega

theorem rd_snoc (f : Nat → Int) (n : Nat) : ∀ (s a b c : Nat), rd f n s a b → b < n → (f b ≠ 34 ∧ f b ≠ 92 ∧ c = b + 1) ∨ (f b = 92 ∧ c = b + 2) → rd f n (s + 1) a c
  | 0, a, b, c, h, hb, k => by
    simp only [rd] at h ⊢
    subst h
    rcases k with ⟨k1, k2, rfl⟩ | ⟨k1, rfl⟩
    · exact ⟨hb, .inl ⟨k1, k2, rfl⟩⟩
    · exact ⟨hb, .inr ⟨k1, rfl⟩⟩
  | s + 1, a, b, c, h, hb, k => by
    simp only [rd] at h
    rcases h with ⟨h0, ⟨h1, h2, h⟩ | ⟨h1, h⟩⟩
    · exact ⟨h0, .inl ⟨h1, h2, rd_snoc f n s _ _ _ h hb k⟩⟩
    · exact ⟨h0, .inr ⟨h1, rd_snoc f n s _ _ _ h hb k⟩⟩

def Rd (f : Nat → Int) (n a b : Nat) : Prop := ∃ s, rd f n s a b
theorem Rd.refl (f : Nat → Int) (n a : Nat) : Rd f n a a := ⟨0, rfl⟩
theorem Rd.le {f : Nat → Int} {n a b : Nat} (h : Rd f n a b) : a ≤ b := h.elim fun s h => rd_le f n s a b h
theorem Rd.one {f : Nat → Int} {n a b : Nat} (h : Rd f n a b) (hb : b < n) (h1 : f b ≠ 34) (h2 : f b ≠ 92) : Rd f n a (b + 1) := h.elim fun s h => ⟨s + 1, rd_snoc f n s a b _ h hb (.inl ⟨h1, h2, rfl⟩)⟩
theorem Rd.two {f : Nat → Int} {n a b : Nat} (h : Rd f n a b) (hb : b < n) (h1 : f b = 92) : Rd f n a (b + 2) := h.elim fun s h => ⟨s + 1, rd_snoc f n s a b _ h hb (.inr ⟨h1, rfl⟩)⟩

/-- Where the reader stops. -/
def Tm (f : Nat → Int) (n q : Nat) : Prop := (q < n ∧ f q = 34) ∨ n ≤ q
/-- What it answers. -/
def Ans (f : Nat → Int) (n p : Nat) (r : Int) : Prop := ∃ q, Rd f n p q ∧ ((q < n ∧ f q = 34 ∧ r = (q : Int)) ∨ (n ≤ q ∧ r = -1))

theorem rd_det (f : Nat → Int) (n : Nat) : ∀ (s s' a q q' : Nat), rd f n s a q → rd f n s' a q' → Tm f n q → Tm f n q' → q = q'
  | 0, 0, a, q, q', h, h', _, _ => by simp only [rd] at h h'; omega
  | 0, s' + 1, a, q, q', h, h', ht, _ => by
    simp only [rd] at h h'
    subst h
    exfalso
    rcases ht with ⟨_, ht⟩ | ht
    · rcases h' with ⟨_, ⟨h1, _⟩ | ⟨h1, _⟩⟩
      · exact h1 ht
      · rw [ht] at h1; simp at h1
    · omega
  | s + 1, 0, a, q, q', h, h', _, ht => by
    simp only [rd] at h h'
    subst h'
    exfalso
    rcases ht with ⟨_, ht⟩ | ht
    · rcases h with ⟨_, ⟨h1, _⟩ | ⟨h1, _⟩⟩
      · exact h1 ht
      · rw [ht] at h1; simp at h1
    · omega
  | s + 1, s' + 1, a, q, q', h, h', ht, ht' => by
    simp only [rd] at h h'
    rcases h with ⟨_, ⟨_, h2, h⟩ | ⟨h1, h⟩⟩
    · rcases h' with ⟨_, ⟨_, _, h'⟩ | ⟨h1', _⟩⟩
      · exact rd_det f n s s' _ _ _ h h' ht ht'
      · exact absurd h1' h2
    · rcases h' with ⟨_, ⟨_, h2', _⟩ | ⟨_, h'⟩⟩
      · exact absurd h1 h2'
      · exact rd_det f n s s' _ _ _ h h' ht ht'

theorem Ans.unique {f : Nat → Int} {n p : Nat} {r r' : Int} (h : Ans f n p r) (h' : Ans f n p r') : r = r' := by
  obtain ⟨q, ⟨s, hs⟩, h⟩ := h
  obtain ⟨q', ⟨s', hs'⟩, h'⟩ := h'
  have e : q = q' := rd_det f n s s' p q q' hs hs' (h.elim (fun x => .inl ⟨x.1, x.2.1⟩) (fun x => .inr x.1)) (h'.elim (fun x => .inl ⟨x.1, x.2.1⟩) (fun x => .inr x.1))
  subst e
  rcases h with ⟨a, b, c⟩ | ⟨a, c⟩ <;> rcases h' with ⟨a', b', c'⟩ | ⟨a', c'⟩ <;> omega

theorem ans_exists (f : Nat → Int) (n : Nat) : ∀ (g p : Nat), n - p ≤ g → ∃ q, Rd f n p q ∧ Tm f n q
  | 0, p, h => ⟨p, Rd.refl f n p, .inr (by omega)⟩
  | g + 1, p, h => by
    by_cases hp : p < n
    · by_cases h34 : f p = 34
      · exact ⟨p, Rd.refl f n p, .inl ⟨hp, h34⟩⟩
      · by_cases h92 : f p = 92
        · obtain ⟨q, ⟨s, hs⟩, ht⟩ := ans_exists f n g (p + 2) (by omega)
          exact ⟨q, ⟨s + 1, hp, .inr ⟨h92, hs⟩⟩, ht⟩
        · obtain ⟨q, ⟨s, hs⟩, ht⟩ := ans_exists f n g (p + 1) (by omega)
          exact ⟨q, ⟨s + 1, hp, .inl ⟨h34, h92, hs⟩⟩, ht⟩
    · exact ⟨p, Rd.refl f n p, .inr (by omega)⟩

/-- THE PARITY: the reader comes from p to where it stops, q; e is the first quote from p on; from 'sl' up to e all are backslashes, and 'sl' is p or stands behind no backslash. -/
theorem rd_quote (f : Nat → Int) (n q e sl : Nat) (hq : Tm f n q) (hen : e < n) (he : f e = 34) (hse : sl ≤ e) (hb : ∀ t, sl ≤ t → t < e → f t = 92) : ∀ (s p : Nat), rd f n s p q → p ≤ sl → (sl = p ∨ f (sl - 1) ≠ 92) → (∀ t, p ≤ t → t < e → f t ≠ 34) →
    ((e - sl) % 2 = 0 → e = q) ∧ ((e - sl) % 2 = 1 → e < q ∧ ∃ s', rd f n s' (e + 1) q)
  | 0, p, h, hps, hsl, hno => by
    simp only [rd] at h
    subst h
    have hq34 : f p = 34 := by
      rcases hq with ⟨_, h⟩ | h
      · exact h
      · omega
    have h1 : ¬ p < e := fun hlt => hno p (Nat.le_refl _) hlt hq34
    have h2 : e = p := by omega
    refine ⟨fun _ => h2, fun h => ?_⟩
    omega
  | s + 1, p, h, hps, hsl, hno => by
    simp only [rd] at h
    rcases h with ⟨_, ⟨h1, h2, h⟩ | ⟨h1, h⟩⟩
    · have hpe : p ≠ e := fun h => h1 (h ▸ he)
      have hne : sl ≠ p := fun h => h2 (hb p (by omega) (by omega))
      exact rd_quote f n q e sl hq hen he hse hb s (p + 1) h (by omega) (hsl.elim (fun h => absurd h hne) .inr) (fun t a b => hno t (by omega) b)
    · have hpe : p ≠ e := fun h => by rw [h, he] at h1; simp at h1
      have hle := rd_le f n s _ _ h
      by_cases hsp : sl = p
      · by_cases he1 : e = p + 1
        · subst he1
          refine ⟨fun h => by omega, fun _ => ⟨by omega, s, h⟩⟩
        · have hb' : ∀ t, p + 2 ≤ t → t < e → f t = 92 := fun t a b => hb t (by omega) b
          have ih := rd_quote f n q e (p + 2) hq hen he (by omega) hb' s (p + 2) h (Nat.le_refl _) (.inl rfl) (fun t a b => hno t (by omega) b)
          have e1 : (e - sl) % 2 = (e - (p + 2)) % 2 := by omega
          rw [e1]
          exact ih
      · have hs1 : sl ≠ p + 1 := fun h => by
          rcases hsl with h' | h'
          · exact hsp h'
          · rw [h] at h'; exact h' h1
        exact rd_quote f n q e sl hq hen he hse hb s (p + 2) h (by omega) (hsl.elim (fun h => absurd h hsp) .inr) (fun t a b => hno t (by omega) b)

theorem round_even {f : Nat → Int} {n p q e sl : Nat} (hr : Rd f n p q) (hq : Tm f n q) (hen : e < n) (he : f e = 34) (hse : sl ≤ e) (hb : ∀ t, sl ≤ t → t < e → f t = 92) (hps : p ≤ sl) (hsl : sl = p ∨ f (sl - 1) ≠ 92) (hno : ∀ t, p ≤ t → t < e → f t ≠ 34) (h : (e - sl) % 2 = 0) : e = q :=
  hr.elim fun s hr => (rd_quote f n q e sl hq hen he hse hb s p hr hps hsl hno).1 h
theorem round_odd {f : Nat → Int} {n p q e sl : Nat} (hr : Rd f n p q) (hq : Tm f n q) (hen : e < n) (he : f e = 34) (hse : sl ≤ e) (hb : ∀ t, sl ≤ t → t < e → f t = 92) (hps : p ≤ sl) (hsl : sl = p ∨ f (sl - 1) ≠ 92) (hno : ∀ t, p ≤ t → t < e → f t ≠ 34) (h : (e - sl) % 2 = 1) : e < q ∧ Rd f n (e + 1) q :=
  hr.elim fun s hr => (rd_quote f n q e sl hq hen he hse hb s p hr hps hsl hno).2 h
end Go.Proofs.Qxb6605550a.Plain
