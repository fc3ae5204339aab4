/- Seat b6605477a: the plain part: the byte automaton. The bytes are a function f, their number n. -/
import Derived.RowKit
namespace Go.Proofs.Qxb6605477a.Plain
open Go.RowKit (wrap64)

theorem wrap_wrap (a b : Int) : wrap64 (wrap64 a + b) = wrap64 (a + b) := by unfold wrap64; omega
theorem wrap_idem (a : Int) : wrap64 (wrap64 a) = wrap64 a := by unfold wrap64; omega

/-- The two results and the scanner's five fields. -/
structure St where
  start : Nat
  taken : Nat
  size : Int
  line : Int
  cr : Bool
  st : Bool
  en : Bool

/-- Does an LF end the head here? -/
def ends (line : Int) (cr : Bool) : Bool := line == 0 || (line == 1 && cr)

/-- g bytes are left; p: the next one. -/
def auto (f : Nat → Int) : Nat → Nat → Nat → Int → Int → Bool → Bool → Bool → St
  | 0, p, start, size, line, cr, st, en => ⟨start, p, size, line, cr, st, en⟩
  | g + 1, p, start, size, line, cr, st, en =>
    if st = false ∧ (f p = 13 ∨ f p = 10) then auto f g (p + 1) (start + 1) (wrap64 (size + 1)) line cr false en
    else if en = true then ⟨start, p, size, line, cr, true, en⟩
    else if f p = 10 then auto f g (p + 1) start (wrap64 (size + 1)) 0 false true (ends line cr)
    else auto f g (p + 1) start (wrap64 (size + 1)) (wrap64 (line + 1)) (f p == 13) true false

theorem auto_skip (f : Nat → Int) (g p start : Nat) (size line : Int) (cr en : Bool) (h : f p = 13 ∨ f p = 10) :
    auto f (g + 1) p start size line cr false en = auto f g (p + 1) (start + 1) (wrap64 (size + 1)) line cr false en := by
  rw [auto, if_pos ⟨rfl, h⟩]
theorem auto_on (f : Nat → Int) (g p start : Nat) (size line : Int) (cr en : Bool) (h : ¬ (f p = 13 ∨ f p = 10)) :
    auto f (g + 1) p start size line cr false en = auto f (g + 1) p start size line cr true en := by
  unfold auto
  rw [if_neg (fun x => h x.2), if_neg (fun (x : true = false ∧ _) => by cases x.1)]
theorem auto_stop (f : Nat → Int) (g p start : Nat) (size line : Int) (cr : Bool) : auto f g p start size line cr true true = ⟨start, p, size, line, cr, true, true⟩ := by
  cases g with
  | zero => rfl
  | succ g => rw [auto, if_neg (fun x => by cases x.1), if_pos rfl]
theorem auto_lf (f : Nat → Int) (g p start : Nat) (size line : Int) (cr : Bool) (h : f p = 10) :
    auto f (g + 1) p start size line cr true false = auto f g (p + 1) start (wrap64 (size + 1)) 0 false true (ends line cr) := by
  rw [auto, if_neg (fun x => by cases x.1), if_neg (fun x => by cases x), if_pos h]
theorem auto_byte (f : Nat → Int) (g p start : Nat) (size line : Int) (cr : Bool) (h : f p ≠ 10) :
    auto f (g + 1) p start size line cr true false = auto f g (p + 1) start (wrap64 (size + 1)) (wrap64 (line + 1)) (f p == 13) true false := by
  rw [auto, if_neg (fun x => by cases x.1), if_neg (fun x => by cases x), if_neg h]

/-- m bytes without an LF. -/
theorem auto_run (f : Nat → Int) (start : Nat) : ∀ (m g p : Nat) (size line : Int) (cr : Bool), (∀ t, t < m → f (p + t) ≠ 10) → wrap64 size = size → wrap64 line = line →
    auto f (g + m) p start size line cr true false = auto f g (p + m) start (wrap64 (size + (m : Int))) (wrap64 (line + (m : Int))) (if m = 0 then cr else f (p + m - 1) == 13) true false
  | 0, g, p, size, line, cr, _, hs, hl => by
    simp only [Nat.add_zero, if_true, Int.natCast_zero, Int.add_zero, hs, hl]
  | m + 1, g, p, size, line, cr, hno, hs, hl => by
    have h0 : f p ≠ 10 := hno 0 (by omega)
    rw [show g + (m + 1) = (g + m) + 1 from by omega, auto_byte f (g + m) p start size line cr h0,
      auto_run f start m g (p + 1) _ _ _ (fun t ht => by have := hno (t + 1) (by omega); rwa [show p + 1 + t = p + (t + 1) from by omega]) (wrap_idem _) (wrap_idem _), wrap_wrap, wrap_wrap]
    have e1 : p + 1 + m = p + (m + 1) := by omega
    have e2 : size + 1 + (m : Int) = size + ((m + 1 : Nat) : Int) := by push_cast; omega
    have e3 : line + 1 + (m : Int) = line + ((m + 1 : Nat) : Int) := by push_cast; omega
    rw [e1, e2, e3]
    by_cases hm : m = 0
    · subst hm; simp
    · rw [if_neg hm, if_neg (by omega)]

/-- The white lines ahead of the head. -/
theorem auto_lead (f : Nat → Int) (en cr : Bool) (line : Int) : ∀ (m g p start : Nat) (size : Int), (∀ t, t < m → f (p + t) = 13 ∨ f (p + t) = 10) → wrap64 size = size →
    auto f (g + m) p start size line cr false en = auto f g (p + m) (start + m) (wrap64 (size + (m : Int))) line cr false en
  | 0, g, p, start, size, _, hs => by simp only [Nat.add_zero, Int.natCast_zero, Int.add_zero, hs]
  | m + 1, g, p, start, size, h, hs => by
    rw [show g + (m + 1) = (g + m) + 1 from by omega, auto_skip f (g + m) p start size line cr en (h 0 (by omega)),
      auto_lead f en cr line m g (p + 1) (start + 1) _ (fun t ht => by have := h (t + 1) (by omega); rwa [show p + 1 + t = p + (t + 1) from by omega]) (wrap_idem _), wrap_wrap]
    have e1 : p + 1 + m = p + (m + 1) := by omega
    have e4 : start + 1 + m = start + (m + 1) := by omega
    have e2 : size + 1 + (m : Int) = size + ((m + 1 : Nat) : Int) := by push_cast; omega
    rw [e1, e2, e4]
end Go.Proofs.Qxb6605477a.Plain
