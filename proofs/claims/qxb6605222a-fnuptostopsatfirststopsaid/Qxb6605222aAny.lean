/- Seat b6605222a: strings.IndexAny at whatever string, the stops ASCII. -/
import Derived.Test.Qxb6605222aRune
namespace Go.Proofs.Qxb6605222a
open Go.RowKit

theorem data_at (s : ByteArray) (k : Nat) (h : k < s.size) : s.data.toList[k]? = some (s[k]'h) := Lib.data_getElem? s k h

theorem not_among (chars : ByteArray) (ha : ∀ k (h : k < chars.size), (chars[k]'h).toNat < 128) (x : UInt8) (hx : 128 ≤ x.toNat) : chars.data.toList.contains x = false := by
  rw [Bool.eq_false_iff]
  intro hc
  have hm : x ∈ chars.data.toList := by simpa using hc
  obtain ⟨j, hj, e⟩ := List.getElem_of_mem hm
  have hj' : j < chars.size := by rw [Lib.size_eq]; exact hj
  have h1 := ha j hj'
  have h2 : chars[j]'hj' = x := e
  rw [h2] at h1
  omega

/-- Over the bytes of one code point beyond ASCII. -/
theorem noany_span (s chars : ByteArray) (i : Nat) (hi : i < s.size) (hhi : 128 ≤ (s[i]'hi).toNat) (ha : ∀ k (h : k < chars.size), (chars[k]'h).toNat < 128) (hno : Lib.NoAny s.data.toList chars.data.toList i) :
    Lib.NoAny s.data.toList chars.data.toList (i + (Utf8.decode s i).2) := by
  intro j b hj hb
  by_cases h : j < i
  · exact hno j b h hb
  · obtain ⟨h1, h2⟩ := decode_span s i hi hhi (j - i) (by omega)
    have e : i + (j - i) = j := by omega
    rw [data_at s j (by omega)] at hb
    have hb' : s[i + (j - i)]'h1 = b := by
      have := Option.some.inj hb
      rw [← this]
      congr 1
    rw [hb'] at h2
    exact not_among chars ha b h2

theorem span_le (s : ByteArray) (i : Nat) (hi : i < s.size) (hhi : 128 ≤ (s[i]'hi).toNat) : i + (Utf8.decode s i).2 ≤ s.size := by
  have h1 := (decode_high s i hi hhi).2
  obtain ⟨h2, _⟩ := decode_span s i hi hhi ((Utf8.decode s i).2 - 1) (by omega)
  omega

set_option maxRecDepth 100000 in
set_option maxHeartbeats 1000000 in
theorem any_short (s chars : ByteArray) (w : World) (h2 : 2 ≤ chars.size) (h8 : s.size ≤ 8) (ha : ∀ k (h : k < chars.size), (chars[k]'h).toNat < 128) :
    Calls Try.prog 16 #[.string s, .string chars] w fun e w' => e = .returned (.int .i64 (Lib.indexAny s.data.toList chars.data.toList)) ∧ Below w.heap.size w w' := by
  have HA : Hid (∀ k (h : k < chars.size), (chars[k]'h).toNat < 128) := ha
  clear ha
  have hemp : chars.toList.isEmpty = false := by
    rw [Lib.toList_data]
    cases h : chars.data.toList with
    | nil => have := Lib.size_eq chars; rw [h, List.length_nil] at this; omega
    | cons _ _ => rfl
  have hn1 : ((chars.size : Int) == 1) = false := beq_eq_false_iff_ne.2 (by omega)
  have h8z : decide ((8 : Int) < (s.size : Int)) = false := decide_eq_false (by omega)
  go_enter Try.func16, Try.ntmps16
  go_wp2_with fail
  refine (Try.strings_shouldUseASCIISet _ _).mono ?_
  rintro e w' ⟨rfl, rfl⟩
  rw [h8z]
  go_wp2_with fail
  go_loopg [9, 10] s.size (fun g _ _ wx => ∃ i : Nat, i + g = s.size ∧ Hid (Below w'.heap.size w' wx) ∧ wx.heap[w'.heap.size]? = some (.stringIter s i) ∧ Hid (Lib.NoAny s.data.toList chars.data.toList i))
  case atStart => exact ⟨0, by omega, (Below.refl w'.heap.size w').alloc (Nat.le_refl _) (.stringIter s 0), World.iter_heap _ _ _, Lib.NoAny.zero _ _⟩
  case round =>
    obtain ⟨i, hig, HB, hit, HN⟩ := hrel
    cases gk with
    | zero =>
      obtain rfl : i = s.size := by omega
      have hnx := fun ty => Lib.run_next_end_at (P := Try.prog) _ _ _ _ ty hit (by omega)
      clear hit
      go_wp2_with fail
      go_ret
      exact ⟨by rw [Lib.indexAny_none (by rw [← Lib.size_eq]; exact HN.out)]; rfl, HB.out⟩
    | succ g =>
      have hi : i < s.size := by omega
      by_cases hlo : (s[i]'hi).toNat < 128
      · have hnx := fun ty => Lib.run_next_ascii_at (P := Try.prog) _ _ _ _ ty hit hi hlo
        obtain ⟨x, hx⟩ : ∃ x : UInt8, s[i]'hi = x := ⟨_, rfl⟩
        have Hx : Hid (s.data.toList[i]? = some x) := by rw [← hx]; exact data_at s i hi
        rw [hx] at hnx hlo
        clear hx
        have HIT : Hid _ := Lib.iterAt_heap _ _ _ _ (i + 1) hit
        have HB2 : Hid _ := Lib.below_iterAt HB.out (Nat.le_refl _) s (i + 1)
        clear hit
        have hcon := Lib.contains_iff_indexByte chars.data.toList x
        have hback : ((x.toNat : Int)).toNat.toUInt8 = x := by simp
        cases hin : chars.data.toList.contains x
        · rw [hin] at hcon
          have HIN : Hid (chars.data.toList.contains x = false) := hin
          have hlt : ¬ ((0 : Int) ≤ Lib.indexByte chars.data.toList x) := of_decide_eq_false hcon.symm
          clear hcon hin
          go_wp2_with fail
          refine (Try.strings_IndexRune_ascii _ _ _ (by omega) (by omega)).mono ?_
          rintro e w2 ⟨rfl, rfl⟩
          rw [hback]
          go_wp2_with fail
          go_roundg g
          case measure => omega
          case rel => exact ⟨i + 1, by omega, HB2.out, HIT.out, HN.out.succ Hx.out HIN.out⟩
        · rw [hin] at hcon
          have HIN : Hid (chars.data.toList.contains x = true) := hin
          have hge : (0 : Int) ≤ Lib.indexByte chars.data.toList x := of_decide_eq_true hcon.symm
          clear hcon hin
          go_wp2_with fail
          refine (Try.strings_IndexRune_ascii _ _ _ (by omega) (by omega)).mono ?_
          rintro e w2 ⟨rfl, rfl⟩
          rw [hback]
          go_wp2_with fail
          go_ret
          exact ⟨by rw [Lib.indexAny_hit HN.out Hx.out HIN.out]; rfl, HB2.out⟩
      · have hhi : 128 ≤ (s[i]'hi).toNat := by omega
        have hnx := fun ty => Lib.run_next_any_at (P := Try.prog) _ _ _ _ ty hit hi
        have hsp := span_le s i hi hhi
        have HN2 : Hid (Lib.NoAny s.data.toList chars.data.toList (i + (Utf8.decode s i).2)) := noany_span s chars i hi hhi HA.out HN.out
        obtain ⟨hd1, hd2⟩ := decode_high s i hi hhi
        generalize Utf8.decode s i = D at hnx hsp HN2 hd1 hd2
        obtain ⟨r, wd⟩ := D
        simp only at hnx hsp HN2 hd1 hd2
        have HIT : Hid _ := Lib.iterAt_heap _ _ _ _ (i + wd) hit
        have HB2 : Hid _ := Lib.below_iterAt HB.out (Nat.le_refl _) s (i + wd)
        have hlt := (Array.getElem?_eq_some_iff.1 hit).1
        have hsz := Lib.iterAt_size wr w'.heap.size s (i + wd)
        clear hit hlo hhi
        go_wp2_with fail
        refine (rune_high _ _ _ (by omega) HA.out).mono ?_
        rintro e w2 ⟨rfl, hb2⟩
        have HB3 : Hid _ := HB2.out.trans (hb2.mono (by rw [hsz]; omega))
        have HIT2 : Hid _ := (hb2.block w'.heap.size (by rw [hsz]; exact hlt)).trans HIT.out
        clear hb2 hsz hlt
        go_wp2_with fail
        go_roundg (g + 1 - wd)
        case measure => omega
        case rel => exact ⟨i + wd, by omega, HB3.out, HIT2.out, HN2.out⟩
end Go.Proofs.Qxb6605222a
