/- Seat b6605222a: the law. -/
import Derived.Test.Qxb6605222aUpto
namespace Go.Proofs.Qxb6605222a
open Go.RowKit

set_option maxRecDepth 100000 in
set_option maxHeartbeats 1000000 in
theorem zup_any (s chars : ByteArray) (i : Nat) (w : World) (hs : s.size ≤ 1048576) (hcs : chars.size ≤ 1048576) (ha : ∀ k (h : k < chars.size), (chars[k]'h).toNat < 128) (hi : i ≤ s.size) :
    Calls Try.prog 13 #[.string s, .int .i64 i, .string chars] w fun e w' => ∃ j : Nat, e = .returned (.tuple #[.string (s.extract i j), .int .i64 j]) ∧ Upto s chars i j ∧ Below w.heap.size w w' := by
  have HA : Hid (∀ k (h : k < chars.size), (chars[k]'h).toNat < 128) := ha
  clear ha
  go_enter Try.func13, Try.ntmps13
  go_wp2_with fail
  refine (upto_any w.heap.size s chars i _ hs hcs HA.out hi (by simp) (by simp) (by simp) (by simp)).mono ?_
  rintro e w' ⟨j, rfl, hu, hb, hc⟩
  have HU : Hid (Upto s chars i j) := hu
  have HB : Hid (Below w.heap.size w w') := ((Below.refl _ _).alloc (Nat.le_refl _) _).trans hb
  clear hu hb
  go_wp2_with fail
  go_quiet (fail)
  go_wp2_with fail
  go_ret2
  exact ⟨j, rfl, HU.out, below_drewN HB.out _⟩

theorem zb_yes (s t : ByteArray) (i : Int) (w : World) (h : s.size + t.size ≤ 1048576) : Calls Try.prog 12 #[.string s, .int .i64 i, .string t] w fun e w' => e = .returned (.bool true) ∧ w' = w := by
  go_enter Try.func12, Try.ntmps12
  go_wp2
  go_ret
  exact ⟨rfl, rfl⟩
theorem zb_no (s t : ByteArray) (i : Int) (w : World) (h1 : s.size ≤ maxLen) (h2 : t.size ≤ maxLen) (h : 1048576 < s.size + t.size) : Calls Try.prog 12 #[.string s, .int .i64 i, .string t] w fun e w' => e = .returned (.bool false) ∧ w' = w := by
  unfold maxLen at h1 h2
  by_cases h3 : 1048576 < s.size
  · go_enter Try.func12, Try.ntmps12
    go_wp2
    go_ret
    exact ⟨rfl, rfl⟩
  · by_cases h4 : 1048576 < t.size
    · go_enter Try.func12, Try.ntmps12
      go_wp2
      go_ret
      exact ⟨rfl, rfl⟩
    · go_enter Try.func12, Try.ntmps12
      go_wp2
      go_ret
      exact ⟨rfl, rfl⟩

theorem zero30 : ∀ w, (zeroValue 30).run Try.prog w = .ok (.agg (Array.replicate 256 (.bool false))) w := fun w => by kernel_rfl

/-- The set at block g: which bytes are among the first k of t. -/
def SetAt (t : ByteArray) (g k : Nat) (w : World) : Prop := (∀ x : UInt8, w.cell? ⟨g, x.toNat, none⟩ = some (.bool ((t.data.toList.take k).contains x))) ∧ ∀ j, w.frozen? ⟨g, j, none⟩ = false

theorem set_zero (t : ByteArray) (w : World) : SetAt t w.heap.size 0 (w.alloc (.cells (Array.replicate 256 (.bool false)) 30)) := by
  refine ⟨fun x => ?_, fun j => by simp⟩
  rw [World.cell?_alloc_at _ _ _ _ rfl]
  have := x.toNat_lt
  simp [this]

theorem take_more (t : ByteArray) (k : Nat) (hk : k < t.size) (x : UInt8) : (t.data.toList.take (k + 1)).contains x = ((t.data.toList.take k).contains x || x == t[k]'hk) := by
  rw [List.take_add_one, data_at t k hk]
  by_cases h : x = t[k]'hk <;> simp [h]

theorem set_succ {t : ByteArray} {g k : Nat} {w : World} (h : SetAt t g k w) (hk : k < t.size) : SetAt t g (k + 1) (w.setCell ⟨g, (t[k]'hk).toNat, none⟩ (.bool true)) := by
  refine ⟨fun x => ?_, fun j => by rw [World.frozen?_setCell]; exact h.2 j⟩
  by_cases e : x = t[k]'hk
  · subst e
    rw [cell_set (h.1 _), take_more t k hk]
    simp
  · have hne : (⟨g, (t[k]'hk).toNat, none⟩ : Addr) ≠ ⟨g, x.toNat, none⟩ := fun h => by
      simp only [Addr.mk.injEq, true_and, and_true] at h
      exact e (UInt8.toNat_inj.1 h.symm)
    rw [World.cell?_setCell_other _ _ _ _ hne, h.1 x, take_more t k hk]
    simp [e]

set_option maxRecDepth 100000 in
set_option maxHeartbeats 2000000 in
theorem law_main (s t : ByteArray) (i : Nat) (w : World) (h : s.size + t.size ≤ 1048576) (hi : i ≤ s.size) :
    Calls Try.prog 5 #[.string s, .int .i64 i, .string t] w fun e w' => e = .returned (.bool true) ∧ Below w.heap.size w w' := by
  go_enter Try.func5, Try.ntmps5
  go_wp2_with fail
  refine (zb_yes s t _ _ h).mono ?_
  rintro e w' ⟨rfl, rfl⟩
  have z30 := zero30
  go_wp2_with fail
  clear z30
  go_loopw [8] (fun x wr => ∃ k : Nat, k ≤ t.size ∧ x = .int .i64 k ∧ Hid (Below w'.heap.size w' wr) ∧ Hid (SetAt t w'.heap.size k wr) ∧ Hid (∀ q (hq : q < t.size), q < k → (t[q]'hq).toNat < 128)) (fun x _ => t.size - (intOf x).toNat)
  case atStart => exact ⟨0, Nat.zero_le _, rfl, (Below.refl _ _).alloc (Nat.le_refl _) _, set_zero t w', fun q hq h => by omega⟩
  case round =>
    obtain ⟨k, hk, rfl, HB, HS, HA⟩ := hrel
    by_cases hlt : k < t.size
    · by_cases hhi : 128 ≤ ((t[k]'hlt).toNat : Int)
      · go_wp2_with fail
        go_ret
        exact ⟨rfl, HB.out⟩
      · have hc := HS.out.1 (t[k]'hlt)
        have hf := HS.out.2 (t[k]'hlt).toNat
        have h256 : ((t[k]'hlt).toNat : Int) < 256 := by omega
        go_wp2_with fail
        go_roundw
        case rel => exact ⟨k + 1, by omega, by go_num, HB.out.setCell (Nat.le_refl _) _, set_succ HS.out hlt, fun q hq h => by
          by_cases e : q = k
          · subst e; omega
          · exact HA.out q hq (by omega)⟩
        case measure => simp [intOf]; omega
    · have hke : k = t.size := by omega
      subst hke
      go_wp2_with fail
      refine (zup_any s t i _ (by omega) (by omega) (fun q hq => HA.out q hq hq) hi).mono ?_
      rintro e w2 ⟨j, rfl, hu, hb2⟩
      have HU : Hid (Upto s t i j) := hu
      have hij := hu.1
      have hjs := hu.2.1
      have HB2 : Hid (Below w'.heap.size w' w2) := HB.out.trans (hb2.mono HB.out.size)
      have hlt2 : w'.heap.size < wr.heap.size := by
        have h := HS.out.1 0
        by_cases e : w'.heap.size < wr.heap.size
        · exact e
        · exfalso
          have : wr.heap[w'.heap.size]? = none := Array.getElem?_eq_none (by omega)
          simp [World.cell?, this] at h
      have HC : Hid (∀ x : UInt8, w2.cell? ⟨w'.heap.size, x.toNat, none⟩ = some (.bool (t.data.toList.contains x))) := fun x => by
        rw [hb2.cell (p := ⟨w'.heap.size, x.toNat, none⟩) hlt2, HS.out.1 x, List.take_of_length_le (by rw [← Lib.size_eq]; exact Nat.le_refl _)]
      clear hu hb2 HB HS HA hlt hk hlt2
      go_wp2_with fail
      go_loop [12] (fun x => ∃ p : Nat, x = .int .i64 p ∧ i ≤ p ∧ p ≤ j) (fun x => j - (intOf x).toNat)
      case atStart => exact ⟨i, rfl, Nat.le_refl _, hij⟩
      case round =>
        obtain ⟨p, rfl, h1, h2⟩ := hrel
        by_cases hp : p < j
        · have hps : p < s.size := by omega
          have hno := HU.out.2.2.1 p hps h1 hp
          have hc := HC.out (s[p]'hps)
          rw [hno] at hc
          have h256 : ((s[p]'hps).toNat : Int) < 256 := by have := (s[p]'hps).toNat_lt; omega
          clear hno
          go_wp2_with fail
          go_round
          case rel => exact ⟨p + 1, by go_num, by omega, by omega⟩
          case measure => simp [intOf]; omega
        · rcases HU.out.2.2.2 with hje | ⟨hjl, hyes⟩
          · have hje' : ((j : Int) == (s.size : Int)) = true := by simp; omega
            clear hje
            go_wp2_with fail
            go_ret
            exact ⟨rfl, HB2.out⟩
          · have hje' : ((j : Int) == (s.size : Int)) = false := by simp; omega
            have hc := HC.out (s[j]'hjl)
            rw [hyes] at hc
            have h256 : ((s[j]'hjl).toNat : Int) < 256 := by have := (s[j]'hjl).toNat_lt; omega
            clear hyes
            go_wp2_with fail
            go_ret
            exact ⟨rfl, HB2.out⟩
end Go.Proofs.Qxb6605222a
