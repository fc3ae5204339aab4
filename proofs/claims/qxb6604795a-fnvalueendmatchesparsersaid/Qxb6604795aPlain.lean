/- Seat b6604795a: the plain part: no Go in sight. The bytes are a function f, their number n. -/
namespace Go.Proofs.Qxb6604795a.Plain

/-- One of JSON's white-space bytes. -/
def Sp (c : Int) : Prop := c = 32 ∨ c = 9 ∨ c = 10 ∨ c = 13
/-- What may follow a number or a literal. -/
def Dl (c : Int) : Prop := c = 44 ∨ c = 125 ∨ c = 93 ∨ c = 32 ∨ c = 9 ∨ c = 13 ∨ c = 10
def Op (c : Int) : Prop := c = 123 ∨ c = 91
def Cl (c : Int) : Prop := c = 125 ∨ c = 93
/-- Neither a quote nor a bracket. -/
def Pl (c : Int) : Prop := c ≠ 34 ∧ c ≠ 123 ∧ c ≠ 91 ∧ c ≠ 125 ∧ c ≠ 93
/-- A byte of a number or a literal. -/
def Sc (c : Int) : Prop := Pl c ∧ ¬ Dl c

/-! ### A reader of a string's inside: s steps lead from a to b; none begins at a quote. -/
def rd (f : Nat → Int) : Nat → Nat → Nat → Prop
  | 0, a, b => a = b
  | s + 1, a, b => (f a ≠ 34 ∧ f a ≠ 92 ∧ rd f s (a + 1) b) ∨ (f a = 92 ∧ rd f s (a + 2) b)

theorem rd_le (f : Nat → Int) : ∀ (s a b : Nat), rd f s a b → a ≤ b
  | 0, a, b, h => by simp only [rd] at h; omega
  | s + 1, a, b, h => by
    simp only [rd] at h
    rcases h with ⟨_, _, h⟩ | ⟨_, h⟩
    · have := rd_le f s _ _ h; omega
    · have := rd_le f s _ _ h; omega

theorem rd_snoc (f : Nat → Int) : ∀ (s a b c : Nat), rd f s a b → (f b ≠ 34 ∧ f b ≠ 92 ∧ c = b + 1) ∨ (f b = 92 ∧ c = b + 2) → rd f (s + 1) a c
  | 0, a, b, c, h, k => by
    simp only [rd] at h ⊢
    subst h
    rcases k with ⟨k1, k2, rfl⟩ | ⟨k1, rfl⟩
    · exact .inl ⟨k1, k2, rfl⟩
    · exact .inr ⟨k1, rfl⟩
  | s + 1, a, b, c, h, k => by
    simp only [rd] at h
    rcases h with ⟨h1, h2, h⟩ | ⟨h1, h⟩
    · exact .inl ⟨h1, h2, rd_snoc f s _ _ _ h k⟩
    · exact .inr ⟨h1, rd_snoc f s _ _ _ h k⟩

/-- The reader comes from a to b. -/
def Rd (f : Nat → Int) (a b : Nat) : Prop := ∃ s, rd f s a b
theorem Rd.refl (f : Nat → Int) (a : Nat) : Rd f a a := ⟨0, rfl⟩
theorem Rd.le {f : Nat → Int} {a b : Nat} (h : Rd f a b) : a ≤ b := h.elim fun s h => rd_le f s a b h
theorem Rd.one {f : Nat → Int} {a b : Nat} (h : Rd f a b) (h1 : f b ≠ 34) (h2 : f b ≠ 92) : Rd f a (b + 1) := h.elim fun s h => ⟨s + 1, rd_snoc f s a b _ h (.inl ⟨h1, h2, rfl⟩)⟩
theorem Rd.two {f : Nat → Int} {a b : Nat} (h : Rd f a b) (h1 : f b = 92) : Rd f a (b + 2) := h.elim fun s h => ⟨s + 1, rd_snoc f s a b _ h (.inr ⟨h1, rfl⟩)⟩

/-- THE PARITY: the reader comes from p to the quote at q; e is the first quote from p on; behind 'sl' up to e all are backslashes, and 'sl' is p or stands behind no backslash. -/
theorem rd_quote (f : Nat → Int) (q e sl : Nat) (hq : f q = 34) (he : f e = 34) (hse : sl ≤ e) (hb : ∀ t, sl ≤ t → t < e → f t = 92) : ∀ (s p : Nat), rd f s p q → p ≤ sl → (sl = p ∨ f (sl - 1) ≠ 92) → (∀ t, p ≤ t → t < e → f t ≠ 34) →
    ((e - sl) % 2 = 0 → e = q) ∧ ((e - sl) % 2 = 1 → e < q ∧ ∃ s', rd f s' (e + 1) q)
  | 0, p, h, hps, hsl, hno => by
    simp only [rd] at h
    subst h
    have h1 : ¬ p < e := fun hlt => hno p (Nat.le_refl _) hlt hq
    have h2 : e = p := by omega
    refine ⟨fun _ => h2, fun h => ?_⟩
    omega
  | s + 1, p, h, hps, hsl, hno => by
    simp only [rd] at h
    rcases h with ⟨h1, h2, h⟩ | ⟨h1, h⟩
    · have hpe : p ≠ e := fun h => h1 (h ▸ he)
      have hne : sl ≠ p := fun h => h2 (hb p (by omega) (by omega))
      exact rd_quote f q e sl hq he hse hb s (p + 1) h (by omega) (hsl.elim (fun h => absurd h hne) .inr) (fun t a b => hno t (by omega) b)
    · have hpe : p ≠ e := fun h => by rw [h, he] at h1; simp at h1
      have hle := rd_le f s _ _ h
      by_cases hsp : sl = p
      · by_cases he1 : e = p + 1
        · subst he1
          refine ⟨fun h => by omega, fun _ => ⟨by omega, s, h⟩⟩
        · have hb' : ∀ t, p + 2 ≤ t → t < e → f t = 92 := fun t a b => hb t (by omega) b
          have ih := rd_quote f q e (p + 2) hq he (by omega) hb' s (p + 2) h (Nat.le_refl _) (.inl rfl) (fun t a b => hno t (by omega) b)
          have e1 : (e - sl) % 2 = (e - (p + 2)) % 2 := by omega
          rw [e1]
          exact ih
      · have hs1 : sl ≠ p + 1 := fun h => by
          rcases hsl with h' | h'
          · exact hsp h'
          · rw [h] at h'; exact h' h1
        exact rd_quote f q e sl hq he hse hb s (p + 2) h (by omega) (hsl.elim (fun h => absurd h hsp) .inr) (fun t a b => hno t (by omega) b)

/-- A string: its opening quote at i, its end j behind its closing quote. -/
def Str (f : Nat → Int) (n i j : Nat) : Prop := ∃ q, j = q + 1 ∧ q < n ∧ Rd f (i + 1) q ∧ f q = 34
theorem Str.lt {f : Nat → Int} {n i j : Nat} (h : Str f n i j) : i + 1 < j ∧ j ≤ n := by
  obtain ⟨q, rfl, h1, h2, _⟩ := h
  have := h2.le
  omega

/-! ### The bracket scanner: s steps lead from depth d at a to depth d' at a'; it never falls to depth 0. -/
def brk (f : Nat → Int) (n : Nat) : Nat → Nat → Nat → Nat → Nat → Prop
  | 0, d, a, d', a' => d = d' ∧ a = a'
  | s + 1, d, a, d', a' => a < n ∧ ((f a = 34 ∧ ∃ k, Str f n a k ∧ brk f n s d k d' a') ∨ (Op (f a) ∧ brk f n s (d + 1) (a + 1) d' a') ∨ (Cl (f a) ∧ 2 ≤ d ∧ brk f n s (d - 1) (a + 1) d' a') ∨ (Pl (f a) ∧ brk f n s d (a + 1) d' a'))

theorem brk_trans (f : Nat → Int) (n : Nat) : ∀ (s d a d' a' t d'' a'' : Nat), brk f n s d a d' a' → brk f n t d' a' d'' a'' → brk f n (s + t) d a d'' a''
  | 0, d, a, d', a', t, d'', a'', h, k => by
    simp only [brk] at h
    obtain ⟨rfl, rfl⟩ := h
    rw [Nat.zero_add]; exact k
  | s + 1, d, a, d', a', t, d'', a'', h, k => by
    simp only [brk] at h
    rw [Nat.add_right_comm]
    simp only [brk]
    obtain ⟨hn, h⟩ := h
    refine ⟨hn, ?_⟩
    rcases h with ⟨h1, x, h2, h⟩ | ⟨h1, h⟩ | ⟨h1, h2, h⟩ | ⟨h1, h⟩
    · exact .inl ⟨h1, x, h2, brk_trans f n s _ _ _ _ t _ _ h k⟩
    · exact .inr (.inl ⟨h1, brk_trans f n s _ _ _ _ t _ _ h k⟩)
    · exact .inr (.inr (.inl ⟨h1, h2, brk_trans f n s _ _ _ _ t _ _ h k⟩))
    · exact .inr (.inr (.inr ⟨h1, brk_trans f n s _ _ _ _ t _ _ h k⟩))

/-- At every depth from 1 on, the scanner comes from a to b and stands at the same depth. -/
def Brk (f : Nat → Int) (n a b : Nat) : Prop := ∀ d, 1 ≤ d → ∃ s, brk f n s d a d b
theorem Brk.refl (f : Nat → Int) (n a : Nat) : Brk f n a a := fun _ _ => ⟨0, rfl, rfl⟩
theorem Brk.trans {f : Nat → Int} {n a b c : Nat} (h : Brk f n a b) (k : Brk f n b c) : Brk f n a c := fun d hd => by
  obtain ⟨s, h⟩ := h d hd
  obtain ⟨t, k⟩ := k d hd
  exact ⟨s + t, brk_trans f n s d a d b t d c h k⟩
theorem Brk.one {f : Nat → Int} {n a : Nat} (ha : a < n) (h : Pl (f a)) : Brk f n a (a + 1) := fun _ _ => ⟨1, ha, .inr (.inr (.inr ⟨h, rfl, rfl⟩))⟩
theorem Brk.str {f : Nat → Int} {n a b : Nat} (ha : f a = 34) (h : Str f n a b) : Brk f n a b := fun _ _ => ⟨1, by have := h.lt; omega, .inl ⟨ha, b, h, rfl, rfl⟩⟩
theorem Brk.run {f : Nat → Int} {n : Nat} : ∀ (k a : Nat), a + k ≤ n → (∀ t, a ≤ t → t < a + k → Pl (f t)) → Brk f n a (a + k)
  | 0, a, _, _ => Brk.refl f n a
  | k + 1, a, h, hp => by
    have h1 : Brk f n a (a + 1) := Brk.one (by omega) (hp a (Nat.le_refl _) (by omega))
    have h2 := Brk.run (f := f) (n := n) k (a + 1) (by omega) (fun t x y => hp t (by omega) (by omega))
    have e : a + 1 + k = a + (k + 1) := by omega
    rw [e] at h2
    exact h1.trans h2
theorem Brk.range {f : Nat → Int} {n a b : Nat} (hab : a ≤ b) (hb : b ≤ n) (hp : ∀ t, a ≤ t → t < b → Pl (f t)) : Brk f n a b := by
  have := Brk.run (f := f) (n := n) (b - a) a (by omega) (fun t x y => hp t x (by omega))
  rwa [show a + (b - a) = b from by omega] at this
theorem Sp.pl {c : Int} (h : Sp c) : Pl c := by unfold Sp at h; unfold Pl; omega
theorem Brk.sp {f : Nat → Int} {n a b : Nat} (hab : a ≤ b) (hb : b ≤ n) (hp : ∀ t, a ≤ t → t < b → Sp (f t)) : Brk f n a b := Brk.range hab hb fun t x y => (hp t x y).pl
/-- A pair of brackets round what the scanner passes over. -/
theorem Brk.wrap {f : Nat → Int} {n a e : Nat} (ha : a < n) (he : e < n) (h1 : Op (f a)) (h2 : Cl (f e)) (h : Brk f n (a + 1) e) : Brk f n a (e + 1) := fun d hd => by
  obtain ⟨s, h⟩ := h (d + 1) (by omega)
  refine ⟨s + 1 + 1, ha, .inr (.inl ⟨h1, ?_⟩)⟩
  exact brk_trans f n s _ _ _ _ 1 _ _ h ⟨he, .inr (.inr (.inl ⟨h2, by omega, by omega, rfl⟩))⟩

/-! ### A value from i to j -/
def Con (f : Nat → Int) (n i j : Nat) : Prop := Op (f i) ∧ ∃ e, j = e + 1 ∧ e < n ∧ i < e ∧ Cl (f e) ∧ Brk f n (i + 1) e
def Sca (f : Nat → Int) (n i j : Nat) : Prop := i < j ∧ j ≤ n ∧ ∀ t, i ≤ t → t < j → Sc (f t)
/-- The parser's word. -/
def VE (f : Nat → Int) (n i j : Nat) : Prop := (f i = 34 ∧ Str f n i j) ∨ Con f n i j ∨ Sca f n i j
/-- The same, with what follows a number or a literal. -/
def VF (f : Nat → Int) (n i j : Nat) : Prop := (f i = 34 ∧ Str f n i j) ∨ Con f n i j ∨ (Sca f n i j ∧ (j = n ∨ Dl (f j)))
theorem VE.full {f : Nat → Int} {n i j : Nat} (h : VE f n i j) (hf : j = n ∨ Dl (f j)) : VF f n i j := by
  rcases h with h | h | h
  · exact .inl h
  · exact .inr (.inl h)
  · exact .inr (.inr ⟨h, hf⟩)
theorem VE.lt {f : Nat → Int} {n i j : Nat} (h : VE f n i j) : i < j ∧ j ≤ n := by
  rcases h with ⟨_, h⟩ | ⟨_, e, rfl, h1, h2, _⟩ | ⟨h1, h2, _⟩
  · have := h.lt; omega
  · omega
  · omega
theorem VE.brk {f : Nat → Int} {n i j : Nat} (h : VE f n i j) : Brk f n i j := by
  rcases h with ⟨h1, h⟩ | ⟨h1, e, rfl, h2, h3, h4, h5⟩ | ⟨h1, h2, h3⟩
  · exact Brk.str h1 h
  · exact Brk.wrap (by omega) h2 h1 h4 h5
  · exact Brk.range (by omega) h2 fun t x y => (h3 t x y).1

/-! ### The parser's notes: at each place -1, or a value's end -/
def Upd (f : Nat → Int) (n : Nat) (E E' : List Int) : Prop := E'.length = E.length ∧ ∀ p, E'.getD p (-1) = E.getD p (-1) ∨ ∃ q : Nat, E'.getD p (-1) = (q : Int) ∧ VF f n p q
theorem Upd.refl (f : Nat → Int) (n : Nat) (E : List Int) : Upd f n E E := ⟨rfl, fun _ => .inl rfl⟩
theorem Upd.trans {f : Nat → Int} {n : Nat} {A B C : List Int} (h : Upd f n A B) (k : Upd f n B C) : Upd f n A C := by
  refine ⟨k.1.trans h.1, fun p => ?_⟩
  rcases k.2 p with e | e
  · rcases h.2 p with e' | e'
    · exact .inl (e.trans e')
    · rw [e]; exact .inr e'
  · exact .inr e
theorem Upd.set {f : Nat → Int} {n : Nat} {A B : List Int} (h : Upd f n A B) (i j : Nat) (hv : VF f n i j) : Upd f n A (B.set i (j : Int)) := by
  refine ⟨by simpa using h.1, fun p => ?_⟩
  by_cases hp : i = p
  · subst hp
    by_cases hl : i < B.length
    · right
      refine ⟨j, ?_, hv⟩
      simp [List.getD_eq_getElem?_getD, hl]
    · left
      have h1 := h.1
      rw [List.getD_eq_getElem?_getD, List.getD_eq_getElem?_getD, List.getElem?_eq_none (by simp; omega), List.getElem?_eq_none (by omega)]
  · have e : (B.set i (j : Int)).getD p (-1) = B.getD p (-1) := by simp [List.getD_eq_getElem?_getD, List.getElem?_set_ne hp]
    rw [e]
    exact h.2 p

/-- What the parser of a value leaves: its own note still wants what follows. -/
def Val (f : Nat → Int) (n : Nat) (E E' : List Int) (i j : Nat) : Prop := VE f n i j ∧ ∃ E1, Upd f n E E1 ∧ E' = E1.set i (j : Int)
theorem Val.upd {f : Nat → Int} {n : Nat} {E E' : List Int} {i j : Nat} (h : Val f n E E' i j) (hf : j = n ∨ Dl (f j)) : Upd f n E E' := by
  obtain ⟨h1, E1, h2, rfl⟩ := h
  exact h2.set i j (h1.full hf)
theorem Val.len {f : Nat → Int} {n : Nat} {E E' : List Int} {i j : Nat} (h : Val f n E E' i j) : E'.length = E.length := by
  obtain ⟨h1, E1, h2, rfl⟩ := h
  simpa using h2.1

/-- What follows a value: white space up to k, and at k one of the three signs, or the end. -/
theorem follow {f : Nat → Int} {n j k : Nat} (hjk : j ≤ k) (hs : ∀ t, j ≤ t → t < k → Sp (f t)) (hk : k = n ∨ f k = 44 ∨ f k = 125 ∨ f k = 93) : j = n ∨ Dl (f j) := by
  by_cases h : j = k
  · subst h
    rcases hk with h | h
    · exact .inl h
    · right; unfold Dl; omega
  · have := hs j (Nat.le_refl _) (by omega)
    right; unfold Sp at this; unfold Dl; omega
end Go.Proofs.Qxb6604795a.Plain
