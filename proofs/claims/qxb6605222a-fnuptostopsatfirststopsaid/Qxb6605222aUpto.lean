/- Seat b6605222a: the parser's upTo. -/
import Derived.Test.Qxb6605222aAny
import Derived.RegionTactic
namespace Go.Proofs.Qxb6605222a
open Go.RowKit

theorem zero45 : ∀ w, (zeroValue 45).run Try.prog w = .ok (.agg (Array.replicate 256 (.bool false))) w := fun w => by kernel_rfl

theorem ascii_list (chars : ByteArray) (ha : ∀ k (h : k < chars.size), (chars[k]'h).toNat < 128) : ∀ (j : Nat) b, chars.data.toList[j]? = some b → b.toNat < 128 := by
  intro j b hj
  obtain ⟨hl, he⟩ := List.getElem?_eq_some_iff.1 hj
  have hl' : j < chars.size := by rw [Lib.size_eq]; exact hl
  have := ha j hl'
  rw [← he]
  exact this

theorem any_all (s chars : ByteArray) (w : World) (hs : s.size ≤ 1048576) (hcs : chars.size ≤ 1048576) (ha : ∀ k (h : k < chars.size), (chars[k]'h).toNat < 128) :
    Calls Try.prog 16 #[.string s, .string chars] w fun e w' => e = .returned (.int .i64 (Lib.indexAny s.data.toList chars.data.toList)) ∧ Below w.heap.size w w' := by
  by_cases h0 : chars.size = 0
  · exact (Try.strings_IndexAny_none s chars w h0).mono fun e w' ⟨h1, h2⟩ => ⟨h1, h2 ▸ Below.refl _ _⟩
  by_cases h1 : chars.size = 1
  · exact (Try.strings_IndexAny_one s chars w h1 (ascii_list chars ha)).mono fun e w' ⟨h1, h2⟩ => ⟨h1, h2 ▸ Below.refl _ _⟩
  by_cases h8 : s.size ≤ 8
  · exact any_short s chars w (by omega) h8 ha
  · refine (Try.strings_IndexAny_long zero45 s chars w (by omega) (by omega) (by omega) (by omega) (ascii_list chars ha)).mono fun e w' ⟨h1, h2⟩ => ⟨h1, ?_⟩
    subst h2
    exact ((Below.refl _ _).alloc (Nat.le_refl _) _).alloc (by simp) _

/-- Where the first stop lies. -/
theorem any_first (C : List UInt8) : ∀ S : List UInt8, (∃ k : Nat, Lib.indexAny S C = (k : Int) ∧ k < S.length ∧ Lib.NoAny S C k ∧ ∃ x, S[k]? = some x ∧ C.contains x = true) ∨ (Lib.indexAny S C = -1 ∧ Lib.NoAny S C S.length)
  | [] => .inr ⟨rfl, fun j b h => by simp at h⟩
  | b :: l => by
    by_cases hb : C.contains b = true
    · exact .inl ⟨0, by rw [Lib.indexAny, if_pos hb]; rfl, by simp, Lib.NoAny.zero _ _, b, rfl, hb⟩
    · have hb' : C.contains b = false := by simpa using hb
      have step : ∀ n, Lib.NoAny l C n → Lib.NoAny (b :: l) C (n + 1) := fun n h j y hj hy => by
        cases j with
        | zero => simp at hy; subst hy; exact hb'
        | succ j => exact h j y (by omega) (by simpa using hy)
      rcases any_first C l with ⟨k, e, hk, hno, x, hx, hc⟩ | ⟨e, hno⟩
      · refine .inl ⟨k + 1, ?_, by simp; omega, step k hno, x, by simpa using hx, hc⟩
        rw [Lib.indexAny, if_neg hb, e, if_neg (by simp)]
        push_cast
        rfl
      · refine .inr ⟨?_, step _ hno⟩
        rw [Lib.indexAny, if_neg hb, e, if_pos (by simp)]

/-- From i on: up to the first stop, or to the end. -/
def Upto (s chars : ByteArray) (i j : Nat) : Prop :=
  i ≤ j ∧ j ≤ s.size ∧ (∀ t (h : t < s.size), i ≤ t → t < j → chars.data.toList.contains (s[t]'h) = false) ∧ (j = s.size ∨ ∃ h : j < s.size, chars.data.toList.contains (s[j]'h) = true)

theorem rest_at (s : ByteArray) (i k : Nat) (hk : i + k < s.size) : (s.extract i s.size).data.toList[k]? = some (s[i + k]'hk) := by
  rw [Lib.extract_data, List.getElem?_take, if_pos (by omega), List.getElem?_drop]
  exact data_at s (i + k) hk

theorem upto_hit (s chars : ByteArray) (i k : Nat) (hk : k < (s.extract i s.size).data.toList.length) (hi : i ≤ s.size) (hno : Lib.NoAny (s.extract i s.size).data.toList chars.data.toList k) (x : UInt8) (hx : (s.extract i s.size).data.toList[k]? = some x) (hc : chars.data.toList.contains x = true) : Upto s chars i (i + k) := by
  have hl : i + k < s.size := by
    rw [Lib.extract_data] at hk
    simp only [List.length_take, List.length_drop] at hk
    have := Lib.size_eq s
    omega
  refine ⟨by omega, by omega, fun t h a b => ?_, .inr ⟨hl, ?_⟩⟩
  · have h1 := rest_at s i (t - i) (by omega)
    have e : i + (t - i) = t := by omega
    have h2 : s[i + (t - i)]'(by omega) = s[t]'h := by congr 1
    rw [h2] at h1
    exact hno (t - i) _ (by omega) h1
  · rw [rest_at s i k hl] at hx
    rw [Option.some.inj hx]
    exact hc
theorem upto_end (s chars : ByteArray) (i : Nat) (hi : i ≤ s.size) (hno : Lib.NoAny (s.extract i s.size).data.toList chars.data.toList (s.extract i s.size).data.toList.length) : Upto s chars i s.size := by
  refine ⟨hi, by omega, fun t h a b => ?_, .inl rfl⟩
  have h1 := rest_at s i (t - i) (by omega)
  have h2 : s[i + (t - i)]'(by omega) = s[t]'h := by congr 1; omega
  rw [h2] at h1
  exact hno (t - i) _ ((List.getElem?_eq_some_iff.1 h1).1) h1

set_option maxRecDepth 100000 in
theorem rest_any (g : Nat) (s : ByteArray) (i : Nat) (w : World) (hi : i ≤ s.size) (h0 : w.cell? ⟨g, 0, none⟩ = some (.string s)) (h1 : w.cell? ⟨g, 1, none⟩ = some (.int .i64 i)) :
    Calls Try.prog 20 #[.pointer (some ⟨g, 0, none⟩)] w fun e w' => e = .returned (.string (s.extract i s.size)) ∧ ∃ n, w' = w.drewN n := by
  have hi2 : (i : Int) ≤ (s.size : Int) := by omega
  go_enter Try.func20, Try.ntmps20
  go_wp2_with fail
  go_quiet (fail)
  go_wp2_with fail
  go_ret
  exact ⟨rfl, _, rfl⟩

theorem cell_set {w : World} {a : Addr} {u v : Value} (h : w.cell? a = some u) : (w.setCell a v).cell? a = some v := World.cell?_setCell_same w a v h
theorem ret_str {a b : ByteArray} (h : a = b) : Ending.returned (.string a) = .returned (.string b) := by rw [h]
theorem cut_cut (s : ByteArray) (i k : Nat) (h : i + k ≤ s.size) : (s.extract i s.size).extract 0 k = s.extract i (i + k) := by
  rw [Lib.extract_eq, Lib.extract_data, Lib.extract_eq]
  congr 2
  rw [List.drop_zero, List.take_take]
  congr 1
  omega

set_option maxRecDepth 100000 in
set_option maxHeartbeats 1000000 in
theorem upto_any (g : Nat) (s chars : ByteArray) (i : Nat) (w : World) (hs : s.size ≤ 1048576) (hcs : chars.size ≤ 1048576) (ha : ∀ k (h : k < chars.size), (chars[k]'h).toNat < 128) (hi : i ≤ s.size) (hg : g < w.heap.size)
    (h0 : w.cell? ⟨g, 0, none⟩ = some (.string s)) (h1 : w.cell? ⟨g, 1, none⟩ = some (.int .i64 i)) (hf : w.frozen? ⟨g, 1, none⟩ = false) :
    Calls Try.prog 15 #[.pointer (some ⟨g, 0, none⟩), .string chars] w fun e w' => ∃ j : Nat, e = .returned (.string (s.extract i j)) ∧ Upto s chars i j ∧ Below g w w' ∧ w'.cell? ⟨g, 1, none⟩ = some (.int .i64 j) := by
  have HA : Hid (∀ k (h : k < chars.size), (chars[k]'h).toNat < 128) := ha
  clear ha
  have hes : (s.extract i s.size).size ≤ 1048576 := by
    rw [ByteArray.size_extract]
    omega
  go_enter Try.func15, Try.ntmps15
  go_wp2_with fail
  refine (rest_any g s i _ hi h0 h1).mono ?_
  rintro e w1 ⟨rfl, n1, rfl⟩
  go_wp2_with fail
  refine (any_all _ chars _ hes hcs HA.out).mono ?_
  rintro e w2 ⟨rfl, hb2⟩
  have hc0 : w2.cell? ⟨g, 0, none⟩ = some (.string s) := (hb2.cell (p := ⟨g, 0, none⟩) hg).trans h0
  have hc1 : w2.cell? ⟨g, 1, none⟩ = some (.int .i64 i) := (hb2.cell (p := ⟨g, 1, none⟩) hg).trans h1
  have hf1 : w2.frozen? ⟨g, 1, none⟩ = false := (hb2.frozen (p := ⟨g, 1, none⟩) hg).trans hf
  have HB2 : Hid (Below g w w2) := (below_drewN (Below.refl _ _) _).trans (hb2.mono (by show g ≤ w.heap.size; omega))
  clear hb2 h0 h1 hf
  rcases any_first chars.data.toList (s.extract i s.size).data.toList with ⟨k, e, hk, hno, x, hx, hc⟩ | ⟨e, hno⟩
  · have HU : Hid (Upto s chars i (i + k)) := upto_hit s chars i k hk hi hno x hx hc
    have hik := HU.out.2.1
    have hk2 : k ≤ (s.extract i s.size).size := by rw [Lib.size_eq]; omega
    rw [e]
    clear hk hno hx hc e
    go_wp2_with fail
    refine (rest_any g s i _ hi hc0 hc1).mono ?_
    rintro e w3 ⟨rfl, n3, rfl⟩
    go_wp2_with fail
    go_ret
    refine ⟨i + k, by rw [← cut_cut s i k hik]; rfl, HU.out, ?_, ?_⟩
    · exact Below.setCell (p := ⟨g, 1, none⟩) (below_drewN HB2.out _) (Nat.le_refl g) _
    · exact (cell_set (u := .int .i64 i) (by exact hc1)).trans (by push_cast; rfl)
  · have HU : Hid (Upto s chars i s.size) := upto_end s chars i hi hno
    rw [e]
    clear hno e
    go_wp2_with fail
    refine (rest_any g s i _ hi hc0 hc1).mono ?_
    rintro e w3 ⟨rfl, n3, rfl⟩
    go_wp2_with fail
    refine (rest_any g s i _ hi (by exact hc0) (by exact hc1)).mono ?_
    rintro e w3 ⟨rfl, n4, rfl⟩
    have hsub : s.size - i ≤ (s.extract i s.size).size := by rw [ByteArray.size_extract]; omega
    go_wp2_with fail
    go_ret
    refine ⟨s.size, ?_, HU.out, ?_, ?_⟩
    · have e := cut_cut s i (s.size - i) (by omega)
      rw [show i + (s.size - i) = s.size from by omega] at e
      exact ret_str e
    · exact Below.setCell (p := ⟨g, 1, none⟩) (by repeat (first | exact HB2.out | apply below_drewN)) (Nat.le_refl g) _
    · refine (cell_set (u := .int .i64 i) (by exact hc1)).trans ?_
      congr 2
      omega
end Go.Proofs.Qxb6605222a
