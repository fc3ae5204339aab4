/- Seat b6605222a: strings.IndexRune at a rune beyond ASCII, in an ASCII string: -1. -/
import Derived.Test.Qxb6605222aShelf
import Derived.WalkKit
import Derived.WalkSpells
import Derived.WalkLawsBesides
import Derived.Lib.OthersKept
import Derived.Deep.LoopGhost
import Derived.Deep.QuietTactic
import Derived.BigQuiet
namespace Go.Proofs.Qxb6605222a
open Go.RowKit

theorem byte_get (s : ByteArray) (t : Nat) (h : t < s.size) : s.get! t = s[t]'h := by
  simp [ByteArray.get!, getElem!_pos, h]
  rfl

/-- The bytes of one code point that begins beyond ASCII all lie beyond ASCII. -/
theorem decode_span (s : ByteArray) (pos : Nat) (h : pos < s.size) (ha : 128 ≤ (s[pos]'h).toNat) : ∀ k, k < (Utf8.decode s pos).2 → ∃ h' : pos + k < s.size, 128 ≤ (s[pos + k]'h').toNat := by
  have hn : ¬ (s[pos]'h).toNat < 128 := by omega
  have hone : ∀ k, k < 1 → ∃ h' : pos + k < s.size, 128 ≤ (s[pos + k]'h').toNat := fun k hk => by
    obtain rfl : k = 0 := by omega
    exact ⟨h, ha⟩
  have hcont : ∀ k, (decide (pos + k < s.size) && (s.get! (pos + k)).toNat / 64 == 2) = true → ∃ h' : pos + k < s.size, 128 ≤ (s[pos + k]'h').toNat := fun k hk => by
    rw [Bool.and_eq_true] at hk
    have h1 : pos + k < s.size := of_decide_eq_true hk.1
    have h2 := beq_iff_eq.1 hk.2
    rw [byte_get s (pos + k) h1] at h2
    exact ⟨h1, by omega⟩
  simp only [Utf8.decode, get_at s pos h, hn, if_false]
  split
  · rename_i hc
    rw [Bool.and_eq_true] at hc
    split
    · intro k hk
      have : k = 0 ∨ k = 1 := by simp at hk; omega
      rcases this with rfl | rfl
      · exact ⟨h, ha⟩
      · exact hcont 1 hc.2
    · exact hone
  · split
    · rename_i hc
      rw [Bool.and_eq_true, Bool.and_eq_true] at hc
      split
      · intro k hk
        have : k = 0 ∨ k = 1 ∨ k = 2 := by simp at hk; omega
        rcases this with rfl | rfl | rfl
        · exact ⟨h, ha⟩
        · exact hcont 1 hc.1.2
        · exact hcont 2 hc.2
      · exact hone
    · split
      · rename_i hc
        rw [Bool.and_eq_true, Bool.and_eq_true, Bool.and_eq_true] at hc
        split
        · intro k hk
          have : k = 0 ∨ k = 1 ∨ k = 2 ∨ k = 3 := by simp at hk; omega
          rcases this with rfl | rfl | rfl | rfl
          · exact ⟨h, ha⟩
          · exact hcont 1 hc.1.1.2
          · exact hcont 2 hc.1.2
          · exact hcont 3 hc.2
        · exact hone
      · exact hone

/-- The last byte of a code point beyond ASCII lies beyond ASCII. -/
theorem enc_high (r : Int) (h : 128 ≤ r) : ∃ k, (Utf8.encode r).size = k + 1 ∧ k ≤ 3 ∧ ∃ h' : k < (Utf8.encode r).size, 128 ≤ ((Utf8.encode r)[k]'h').toNat := by
  obtain ⟨c, hc, he⟩ : ∃ c : Nat, 128 ≤ c ∧ (if Utf8.valid r then r.toNat else Utf8.runeError) = c := by
    split
    · exact ⟨_, by omega, rfl⟩
    · exact ⟨_, by decide, rfl⟩
  have hb : 128 ≤ (UInt8.ofNat (128 + c % 64)).toNat := by
    rw [UInt8.toNat_ofNat']
    omega
  have e : (∃ x, Utf8.encode r = ⟨#[x, UInt8.ofNat (128 + c % 64)]⟩) ∨ (∃ x y, Utf8.encode r = ⟨#[x, y, UInt8.ofNat (128 + c % 64)]⟩) ∨ (∃ x y z, Utf8.encode r = ⟨#[x, y, z, UInt8.ofNat (128 + c % 64)]⟩) := by
    unfold Utf8.encode
    simp only [he]
    by_cases h2 : c < 2048
    · exact .inl ⟨_, by rw [if_neg (by omega), if_pos h2]⟩
    · by_cases h3 : c < 65536
      · exact .inr (.inl ⟨_, _, by rw [if_neg (by omega), if_neg h2, if_pos h3]⟩)
      · exact .inr (.inr ⟨_, _, _, by rw [if_neg (by omega), if_neg h2, if_neg h3]⟩)
  rcases e with ⟨x, e⟩ | ⟨x, y, e⟩ | ⟨x, y, z, e⟩
  · rw [e]; exact ⟨1, rfl, by omega, Nat.lt_succ_self 1, hb⟩
  · rw [e]; exact ⟨2, rfl, by omega, Nat.lt_succ_self 2, hb⟩
  · rw [e]; exact ⟨3, rfl, by omega, Nat.lt_succ_self 3, hb⟩

theorem no_byte (l : List UInt8) (c : UInt8) (h : ∀ (j : Nat) b, l[j]? = some b → b ≠ c) : Lib.indexByte l c = -1 := by
  have := Lib.contains_iff_indexByte l c
  have hc : l.contains c = false := by
    rw [Bool.eq_false_iff]
    intro hc
    have hm : c ∈ l := by simpa using hc
    obtain ⟨j, hj, e⟩ := List.getElem_of_mem hm
    exact h j c (by rw [List.getElem?_eq_getElem hj, e]) rfl
  rw [hc] at this
  have h1 := Lib.indexByte_ge l c
  have h2 : ¬ 0 ≤ Lib.indexByte l c := of_decide_eq_false this.symm
  omega

set_option maxRecDepth 100000 in
set_option maxHeartbeats 1000000 in
theorem rune_err (s : ByteArray) (w : World) (ha : ∀ k (h : k < s.size), (s[k]'h).toNat < 128) :
    Calls Try.prog 21 #[.string s, .int .i32 65533] w fun e w' => e = .returned (.int .i64 (-1)) ∧ Below w.heap.size w w' := by
  have HA : Hid (∀ k (h : k < s.size), (s[k]'h).toNat < 128) := ha
  clear ha
  go_enter Try.func21, Try.ntmps21
  go_wp2_with fail
  go_loopg [5, 6] s.size (fun g _ _ wx => ∃ i : Nat, i + g = s.size ∧ wx = w.iter s i)
  case atStart => exact ⟨0, by omega, rfl⟩
  case round =>
    obtain ⟨i, hig, rfl⟩ := hrel
    cases gk with
    | zero =>
      obtain rfl : i = s.size := by omega
      have hnx := fun ty => run_next_end (P := Try.prog) w s s.size ty (by omega)
      go_wp2_with fail
      go_ret
      exact ⟨rfl, (Below.refl w.heap.size w).alloc (Nat.le_refl _) (.stringIter s s.size)⟩
    | succ g =>
      have hi : i < s.size := by omega
      have hlo := HA.out i hi
      have hnx := fun ty => run_next_ascii (P := Try.prog) w s i ty hi hlo
      have hne : (((s[i]'hi).toNat : Int) == 65533) = false := by simp; omega
      go_wp2_with fail
      go_roundg g
      case measure => omega
      case rel => exact ⟨i + 1, by omega, rfl⟩

theorem ib_none (t : ByteArray) (x : Int) (w : World) (ht : ∀ (j : Nat) b, t.data.toList[j]? = some b → b.toNat < 128) (h0 : 128 ≤ x) (h1 : x < 256) :
    Calls Try.prog 27 #[.string t, .int .u8 x] w fun e w' => e = .returned (.int .i64 (-1)) ∧ w' = w := by
  have := Try.strings_IndexByte t x w
  rwa [no_byte _ _ (fun j b hj e => by
    have h := ht j b hj
    rw [e] at h
    have : (x.toNat.toUInt8).toNat = x.toNat := by
      show (UInt8.ofNat x.toNat).toNat = _
      rw [UInt8.toNat_ofNat']
      omega
    omega)] at this
theorem high_extract (s : ByteArray) (a : Nat) (ha : ∀ k (h : k < s.size), (s[k]'h).toNat < 128) : ∀ (j : Nat) b, (s.extract a s.size).data.toList[j]? = some b → b.toNat < 128 := by
  intro j b hj
  rw [Lib.extract_data, List.getElem?_take] at hj
  split at hj
  · rw [List.getElem?_drop] at hj
    obtain ⟨hl, he⟩ := List.getElem?_eq_some_iff.1 hj
    have hl' : a + j < s.size := by rw [Lib.size_eq]; exact hl
    have := ha (a + j) hl'
    rw [← he]
    exact this
  · cases hj

set_option maxRecDepth 100000 in
set_option maxHeartbeats 1000000 in
theorem rune_far (s : ByteArray) (c : Int) (w : World) (hc : 128 ≤ c) (hne : (c == 65533) = false) (ha : ∀ k (h : k < s.size), (s[k]'h).toNat < 128) :
    Calls Try.prog 21 #[.string s, .int .i32 c] w fun e w' => e = .returned (.int .i64 (-1)) ∧ Below w.heap.size w w' := by
  have HA : Hid (∀ k (h : k < s.size), (s[k]'h).toNat < 128) := ha
  clear ha
  go_enter Try.func21, Try.ntmps21
  go_wp2_with fail
  refine (Try.utf8_ValidRune c _).mono ?_
  rintro e w' ⟨rfl, rfl⟩
  generalize Lib.validRune c = B
  cases B with
  | false =>
    go_wp2_with fail
    go_ret
    exact ⟨rfl, Below.refl _ _⟩
  | true =>
    obtain ⟨rs, hrs, k, hk, hk3, hk', hlast⟩ : ∃ rs, Utf8.encode c = rs ∧ ∃ k, rs.size = k + 1 ∧ k ≤ 3 ∧ ∃ h' : k < rs.size, 128 ≤ (rs[k]'h').toNat := ⟨_, rfl, enc_high c hc⟩
    have hlen : (rs.size : Int) - 1 = (k : Int) := by omega
    have hr4 : rs.size ≤ 4 := by omega
    have hr1 : 1 ≤ rs.size := by omega
    have hkr : (k : Int) < (rs.size : Int) := by omega
    clear hk
    by_cases hks : k < s.size
    · have hlo := HA.out k hks
      have hdiff : (((s[k]'hks).toNat : Int) != ((rs[k]'hk').toNat : Int)) = true := by simp; omega
      have hkz : (k : Int) < (s.size : Int) := by omega
      have hkz1 : (k : Int) + 1 ≤ (s.size : Int) := by omega
      have hk0 : (0 : Int) ≤ (k : Int) + 1 := by omega
      have hkn : ((k : Int) + 1).toNat = k + 1 := by omega
      have hw1 : IntKind.i64.wrap ((k : Int) + 1) = (k : Int) + 1 := by rw [IntKind.wrap_i64]; omega
      have HIB : Hid (∀ w, Calls Try.prog 27 #[.string (s.extract (k + 1) s.size), .int .u8 ((rs[k]'hk').toNat : Int)] w fun e w' => e = .returned (.int .i64 (-1)) ∧ w' = w) := fun w => ib_none _ _ w (high_extract s (k + 1) HA.out) (by omega) (by have := (rs[k]'hk').toNat_lt; omega)
      go_wp2_with fail
      go_step3
      go_wp2_with fail
      refine wp_loop_rounds 1 ?_
      rw [rounds_succ]
      go_wp2_with fail
      go_step3
      go_wp2_with fail
      go_quiet (fail)
      go_wp2_with fail
      go_quiet ((go_at_call 27; exact (HIB.out _).mono fun _ _ h => ⟨h.1, _, h.2⟩))
      go_wp2_with fail
      rw [Exit.noGoto_ret]
      simp only [Exit.inBlock, Exit.then]
      rw [Exit.noGoto_ret]
      simp only [Exit.inBlock]
      go_ret
      exact ⟨rfl, by repeat (first | exact Below.refl _ _ | apply below_drewN)⟩
    · go_wp2_with fail
      go_step3
      go_wp2_with fail
      refine wp_loop_rounds 1 ?_
      rw [rounds_succ]
      go_wp2_with fail
      repeat rw [Exit.noGoto_ret]
      go_ret
      exact ⟨rfl, Below.refl _ _⟩

/-- Whatever rune beyond ASCII. -/
theorem rune_high (s : ByteArray) (c : Int) (w : World) (hc : 128 ≤ c) (ha : ∀ k (h : k < s.size), (s[k]'h).toNat < 128) :
    Calls Try.prog 21 #[.string s, .int .i32 c] w fun e w' => e = .returned (.int .i64 (-1)) ∧ Below w.heap.size w w' := by
  by_cases h : c = 65533
  · subst h; exact rune_err s w ha
  · exact rune_far s c w hc (by simpa using h) ha
end Go.Proofs.Qxb6605222a
