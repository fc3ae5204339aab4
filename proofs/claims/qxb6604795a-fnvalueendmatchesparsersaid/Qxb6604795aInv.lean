/- Seat b6604795a: the parser's notes in memory; the contracts of its three functions that call one another. -/
import Derived.Test.Qxb6604795aLiteral
namespace Go.Proofs.Qxb6604795a
open Go.RowKit Plain

/-- Below block g the world is as W0 was; at block g lie the n notes E. -/
def Inv (W0 : World) (n g : Nat) (w : World) (E : List Int) : Prop :=
  Below g W0 w ∧ w.ownsRow g 3 1 (.slice (some ⟨g, 0, none⟩) n n) n (E.map (.int .i64))

theorem Inv.len {W0 w : World} {n g : Nat} {E : List Int} (h : Inv W0 n g w E) : E.length = n := by
  have := h.2.1
  simpa using this
theorem Inv.cells {W0 w : World} {n g b : Nat} {E : List Int} {f : Nat → Int} (h : Inv W0 n g w E) (hb : b < g) (hc : ∀ t, t < n → W0.cell? ⟨b, t, none⟩ = some (.int .u8 (f t))) : ∀ t, t < n → w.cell? ⟨b, t, none⟩ = some (.int .u8 (f t)) :=
  fun t ht => (h.1.cell (p := ⟨b, t, none⟩) hb).trans (hc t ht)
theorem Inv.drewN {W0 w : World} {n g : Nat} {E : List Int} (h : Inv W0 n g w E) (d : Nat) : Inv W0 n g (w.drewN d) E :=
  ⟨h.1.trans ⟨rfl, rfl, rfl, Nat.le_refl _, fun _ _ => rfl⟩, h.2⟩
theorem Inv.note {W0 w : World} {n g : Nat} {E : List Int} (h : Inv W0 n g w E) (i : Nat) (hi : i < n) : w.cell? ⟨g, i, none⟩ = some (.int .i64 (E.getD i (-1))) ∧ w.frozen? ⟨g, i, none⟩ = false := by
  have hl := h.len
  refine ⟨(h.2.cellAt i (by omega)).trans ?_, h.2.frozenAt i⟩
  simp [List.getElem?_map, List.getD_eq_getElem?_getD, List.getElem?_eq_getElem (show i < E.length by omega)]
theorem Inv.store {W0 w : World} {n g : Nat} {E : List Int} (h : Inv W0 n g w E) (i : Nat) (x : Int) : Inv W0 n g (w.setCell ⟨g, i, none⟩ (.int .i64 x)) (E.set i x) := by
  refine ⟨h.1.setCell (Nat.le_refl _) _, ?_⟩
  have := (h.2.stored i (.int .i64 x)).1
  rwa [← List.map_set] at this

def ValC (W0 : World) (f : Nat → Int) (b n g i : Nat) : Prop :=
  ∀ (x dep : Int) (w : World) (E : List Int), x = (i : Int) → Inv W0 n g w E →
    Calls Try.prog 32 #[.slice (some ⟨b, 0, none⟩) n n, .int .i64 x, .int .i64 dep, .slice (some ⟨g, 0, none⟩) n n] w fun e w' => ∃ E', Inv W0 n g w' E' ∧ Two (Val f n E E' i) e

/-- What the parser of an object or an array, from i on, leaves. -/
def Body (f : Nat → Int) (n : Nat) (E E' : List Int) (i j : Nat) : Prop := Upd f n E E' ∧ ∃ e, j = e + 1 ∧ e < n ∧ i < e ∧ Cl (f e) ∧ Brk f n (i + 1) e

theorem body_close {f : Nat → Int} {n : Nat} {E E' : List Int} {i j : Nat} (hu : Upd f n E E') (hij : i < j) (hj : j < n) (hcl : f j = 125 ∨ f j = 93) (hb : Brk f n (i + 1) j) : Body f n E E' i (j + 1) :=
  ⟨hu, j, rfl, hj, hij, hcl, hb⟩
/-- One member of an object: from its key at j to its comma or its brace at m. -/
theorem member {f : Nat → Int} {n i j k k2 j3 v m : Nat} (hb : Brk f n (i + 1) j) (hq : f j = 34) (hs : Str f n j k) (h1 : k ≤ k2) (h2 : k2 < n) (hp : ∀ t, k ≤ t → t < k2 → Sp (f t)) (hco : f k2 = 58) (h3 : k2 + 1 ≤ j3) (h4 : j3 ≤ n) (hp2 : ∀ t, k2 + 1 ≤ t → t < j3 → Sp (f t))
    (hv : VE f n j3 v) (h5 : v ≤ m) (h6 : m ≤ n) (hp3 : ∀ t, v ≤ t → t < m → Sp (f t)) : Brk f n (i + 1) m :=
  (((((hb.trans (Brk.str hq hs)).trans (Brk.sp h1 (by omega) hp)).trans (Brk.one h2 (by unfold Pl; omega))).trans (Brk.sp h3 h4 hp2)).trans hv.brk).trans (Brk.sp h5 h6 hp3)
theorem comma {f : Nat → Int} {n i m p : Nat} (hb : Brk f n (i + 1) m) (hm : m < n) (hc : f m = 44) (h1 : m + 1 ≤ p) (h2 : p ≤ n) (hp : ∀ t, m + 1 ≤ t → t < p → Sp (f t)) : Brk f n (i + 1) p :=
  (hb.trans (Brk.one hm (by unfold Pl; omega))).trans (Brk.sp h1 h2 hp)
end Go.Proofs.Qxb6604795a
