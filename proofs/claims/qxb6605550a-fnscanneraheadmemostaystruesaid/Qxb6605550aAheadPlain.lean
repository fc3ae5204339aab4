/- Seat b6605550a: the plain part of 'ahead'. -/
namespace Go.Proofs.Qxb6605550a.AP

/-- How far a look from p reaches: the end of n bytes, 16384 bytes, the first clean start cs (where m > 0). -/
def top (n p : Nat) : Nat := if n ≤ p + 16384 then n else p + 16384
def lim (n p m : Nat) (cs : Int) : Nat := if 0 < m ∧ cs < (top n p : Int) then cs.toNat else top n p

theorem top_bd (n p : Nat) (h : p ≤ n) : p ≤ top n p ∧ top n p ≤ n := by unfold top; split <;> omega
theorem lim_bd (n p m : Nat) (cs : Int) (h : p ≤ n) (hc : 0 < m → (p : Int) ≤ cs) : p ≤ lim n p m cs ∧ lim n p m cs ≤ n := by
  have := top_bd n p h
  unfold lim
  split
  · rename_i h2
    have := hc h2.1
    omega
  · exact this
theorem lim_mono (n p p2 m : Nat) (cs : Int) (h : p ≤ p2) (_h2 : p2 ≤ n) : lim n p m cs ≤ lim n p2 m cs := by
  unfold lim top
  repeat' split
  all_goals omega

/-- What a look finds: the first c from p on below L, or L. -/
def Look (f : Nat → Int) (c : Int) (p L r : Nat) : Prop := p ≤ r ∧ r ≤ L ∧ (∀ t, p ≤ t → t < r → f t ≠ c) ∧ (r = L ∨ f r = c)

theorem Look.unique {f : Nat → Int} {c : Int} {p L r r' : Nat} (h : Look f c p L r) (h' : Look f c p L r') : r = r' := by
  obtain ⟨a1, a2, a3, a4⟩ := h
  obtain ⟨b1, b2, b3, b4⟩ := h'
  rcases Nat.lt_trichotomy r r' with h | h | h
  · rcases a4 with e | e
    · omega
    · exact absurd e (b3 r a1 h)
  · exact h
  · rcases b4 with e | e
    · omega
    · exact absurd e (a3 r' b1 h)

/-- The whole answer: 'last' where it lies beyond p, else a look's. -/
def Ah (f : Nat → Int) (n m : Nat) (cs c : Int) (pos last r : Int) : Prop :=
  (pos < last ∧ r = last) ∨ (last ≤ pos ∧ ∃ p k : Nat, pos = (p : Int) ∧ r = (k : Int) ∧ Look f c p (lim n p m cs) k)

theorem Ah.unique {f : Nat → Int} {n m : Nat} {cs c pos last r r' : Int} (h : Ah f n m cs c pos last r) (h' : Ah f n m cs c pos last r') : r = r' := by
  rcases h with ⟨a, rfl⟩ | ⟨a, p, k, hp, rfl, h⟩
  · rcases h' with ⟨_, rfl⟩ | ⟨b, _⟩
    · rfl
    · omega
  · rcases h' with ⟨b, _⟩ | ⟨_, p', k', hp', rfl, h'⟩
    · omega
    · have e : p = p' := by omega
      subst e
      rw [h.unique h']

/-- What was answered, handed back, is answered again. -/
theorem Ah.again {f : Nat → Int} {n m : Nat} {cs c pos last got r : Int} (h : Ah f n m cs c pos last got) (h' : Ah f n m cs c pos got r) : r = got := by
  rcases h' with ⟨_, rfl⟩ | ⟨a, p, k, hp, rfl, hl⟩
  · rfl
  · rcases h with ⟨b, rfl⟩ | ⟨b, p', k', hp', rfl, hl'⟩
    · omega
    · have e : p = p' := by omega
      subst e
      rw [hl.unique hl']
theorem Ah.dom {f : Nat → Int} {n m : Nat} {cs c pos last got : Int} (h : Ah f n m cs c pos last got) (hg : got ≤ pos) : last ≤ pos := by
  rcases h with ⟨b, rfl⟩ | ⟨b, _⟩
  · omega
  · exact b

/-- The remembered answer is the fresh one. -/
theorem Ah.memo {f : Nat → Int} {n m : Nat} {cs c pos last got pos2 memo fresh : Int} (h : Ah f n m cs c pos last got) (hl : last ≤ pos) (h12 : pos ≤ pos2) (h2g : pos2 ≤ got) (hgn : got < (n : Int)) (hc : f got.toNat = c)
    (hm : Ah f n m cs c pos2 got memo) (hf : Ah f n m cs c pos2 (pos2 - 1) fresh) (hpn : pos2 ≤ (n : Int)) : memo = fresh := by
  rcases hf with ⟨b, _⟩ | ⟨_, p2, k2, hp2, rfl, hf⟩
  · omega
  · rcases hm with ⟨b, rfl⟩ | ⟨_, p3, k3, hp3, rfl, hm⟩
    · rcases h with ⟨b', _⟩ | ⟨_, p, k, hp, rfl, h⟩
      · omega
      · have hk : f k = c := by simpa using hc
        have : Look f c p2 (lim n p2 m cs) k := by
          have hmono := lim_mono n p p2 m cs (by omega) (by omega)
          exact ⟨by omega, by have := h.2.1; omega, fun t a b => h.2.2.1 t (by omega) b, .inr hk⟩
        rw [this.unique hf]
    · have e : p2 = p3 := by omega
      subst e
      rw [hm.unique hf]
end Go.Proofs.Qxb6605550a.AP
