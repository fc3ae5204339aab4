/- Seat b6604795a: valueEnd. -/
import Derived.Test.Qxb6604795aEnd
namespace Go.Proofs.Qxb6604795a
open Go.RowKit Plain

theorem alloc_cells {w : World} {n b : Nat} {f : Nat → Int} (hb : b < w.heap.size) (hc : ∀ t, t < n → w.cell? ⟨b, t, none⟩ = some (.int .u8 (f t))) (o : Obj) : ∀ t, t < n → (w.alloc o).cell? ⟨b, t, none⟩ = some (.int .u8 (f t)) :=
  fun t ht => (((Below.refl w.heap.size w).alloc (Nat.le_refl _) o).cell (p := ⟨b, t, none⟩) hb).trans (hc t ht)

set_option maxRecDepth 100000 in
set_option maxHeartbeats 1000000 in
theorem vend_str (f : Nat → Int) (hf : ∀ t, 0 ≤ f t ∧ f t < 256) (b n i j : Nat) (w : World) (hn : n ≤ 1048576) (hb : b < w.heap.size) (hc : ∀ t, t < n → w.cell? ⟨b, t, none⟩ = some (.int .u8 (f t))) (hi : i < n) (hq : f i = 34) (hs : Str f n i j) :
    Calls Try.prog 33 #[.agg #[.slice (some ⟨b, 0, none⟩) n n], .int .i64 i] w fun e w' => e = .returned (.int .i64 j) ∧ Below w.heap.size w w' := by
  have HF : Hid (∀ t, 0 ≤ f t ∧ f t < 256) := hf
  have HC : Hid (∀ (o : Obj) t, t < n → (w.alloc o).cell? ⟨b, t, none⟩ = some (.int .u8 (f t))) := alloc_cells hb hc
  have hx := HC.out (.cells #[.slice (some ⟨b, 0, none⟩) n n] 56) i hi
  have HS : Hid (Str f n i j) := hs
  have HQ : Hid (f i = 34) := hq
  clear hf hc hs
  go_enter Try.func33, Try.ntmps33
  go_wp2_with fail
  refine (end_any f HF.out b n i j _ hn (by simp; omega) (HC.out _) HQ.out HS.out).mono ?_
  rintro e w' ⟨rfl, hbel⟩
  have HB : Hid (Below (w.heap.size + 1) (w.alloc (.cells #[.slice (some ⟨b, 0, none⟩) n n] 56)) w') := by unfold Hid; simpa using hbel
  clear hbel
  go_wp2_with fail
  go_ret
  exact ⟨rfl, ((Below.refl _ _).alloc (Nat.le_refl _) _).trans (HB.out.mono (by omega))⟩

set_option maxRecDepth 100000 in
set_option maxHeartbeats 1000000 in
theorem vend_sca (f : Nat → Int) (b n i j : Nat) (w : World) (hn : n ≤ 1048576) (hb : b < w.heap.size) (hc : ∀ t, t < n → w.cell? ⟨b, t, none⟩ = some (.int .u8 (f t))) (hi : i < n) (hs : Sca f n i j) (hfo : j = n ∨ Dl (f j)) :
    Calls Try.prog 33 #[.agg #[.slice (some ⟨b, 0, none⟩) n n], .int .i64 i] w fun e w' => e = .returned (.int .i64 j) ∧ Below w.heap.size w w' := by
  have HC : Hid (∀ (o : Obj) t, t < n → (w.alloc o).cell? ⟨b, t, none⟩ = some (.int .u8 (f t))) := alloc_cells hb hc
  have hx := HC.out (.cells #[.slice (some ⟨b, 0, none⟩) n n] 56) i hi
  obtain ⟨hij, hjn, hsc⟩ := hs
  have HS : Hid (∀ t, i ≤ t → t < j → Sc (f t)) := hsc
  have HFO : Hid (j = n ∨ Dl (f j)) := hfo
  have h0 := hsc i (Nat.le_refl _) hij
  unfold Sc Pl at h0
  have e1 : (f i == 34) = false := by simp; omega
  have e2 : (f i == 123) = false := by simp; omega
  have e3 : (f i == 91) = false := by simp; omega
  clear hc hsc hfo h0
  go_enter Try.func33, Try.ntmps33
  go_wp2_with fail
  clear hx e1 e2 e3
  go_loop [1] (fun x => ∃ p : Nat, x = .int .i64 p ∧ i ≤ p ∧ p ≤ j) (fun x => n - (intOf x).toNat)
  case atStart => exact ⟨i, rfl, Nat.le_refl _, by omega⟩
  case round =>
    obtain ⟨p, rfl, h1, h2⟩ := hrel
    by_cases hp : p < j
    · have hx := HC.out (.cells #[.slice (some ⟨b, 0, none⟩) n n] 56) p (by omega)
      have hs := HS.out p h1 hp
      unfold Sc Pl Dl at hs
      have d1 : (f p == 44) = false := by simp; omega
      have d2 : (f p == 125) = false := by simp; omega
      have d3 : (f p == 93) = false := by simp; omega
      have d4 : (f p == 32) = false := by simp; omega
      have d5 : (f p == 9) = false := by simp; omega
      have d6 : (f p == 13) = false := by simp; omega
      have d7 : (f p == 10) = false := by simp; omega
      clear hs
      go_wp2_with fail
      go_round
      case rel => exact ⟨p + 1, by go_num, by omega, by omega⟩
      case measure => simp [intOf]; omega
    · have hpj : p = j := by omega
      subst hpj
      by_cases hpn : p < n
      · have hx := HC.out (.cells #[.slice (some ⟨b, 0, none⟩) n n] 56) p hpn
        have hd : Dl (f p) := by rcases HFO.out with h | h; · omega
                                 · exact h
        unfold Dl at hd
        clear HFO HS
        rcases hd with hd | hd | hd | hd | hd | hd | hd
        all_goals
          go_wp2_with fail
          go_ret
          exact ⟨rfl, (Below.refl _ _).alloc (Nat.le_refl _) _⟩
      · clear HFO HS
        go_wp2_with fail
        go_ret
        exact ⟨rfl, (Below.refl _ _).alloc (Nat.le_refl _) _⟩

theorem brk_le (f : Nat → Int) (n : Nat) : ∀ (s d a d' a' : Nat), brk f n s d a d' a' → a ≤ a'
  | 0, d, a, d', a', h => by simp only [brk] at h; omega
  | s + 1, d, a, d', a', h => by
    simp only [brk] at h
    obtain ⟨_, h⟩ := h
    rcases h with ⟨_, x, h2, h⟩ | ⟨_, h⟩ | ⟨_, _, h⟩ | ⟨_, h⟩
    · have := brk_le f n s _ _ _ _ h; have := h2.lt; omega
    · have := brk_le f n s _ _ _ _ h; omega
    · have := brk_le f n s _ _ _ _ h; omega
    · have := brk_le f n s _ _ _ _ h; omega

set_option maxRecDepth 100000 in
set_option maxHeartbeats 2000000 in
theorem vend_con (f : Nat → Int) (hf : ∀ t, 0 ≤ f t ∧ f t < 256) (b n i j : Nat) (w : World) (hn : n ≤ 1048576) (hb : b < w.heap.size) (hc : ∀ t, t < n → w.cell? ⟨b, t, none⟩ = some (.int .u8 (f t))) (hi : i < n) (hs : Con f n i j) :
    Calls Try.prog 33 #[.agg #[.slice (some ⟨b, 0, none⟩) n n], .int .i64 i] w fun e w' => e = .returned (.int .i64 j) ∧ Below w.heap.size w w' := by
  have HF : Hid (∀ t, 0 ≤ f t ∧ f t < 256) := hf
  obtain ⟨hop, m, rfl, hm, him, hcl, hbrk⟩ := hs
  have HC : Hid (∀ (o : Obj) t, t < n → (w.alloc o).cell? ⟨b, t, none⟩ = some (.int .u8 (f t))) := alloc_cells hb hc
  have hx := HC.out (.cells #[.slice (some ⟨b, 0, none⟩) n n] 56) i hi
  have HCL : Hid (f m = 125 ∨ f m = 93) := hcl
  have HB : Hid (∃ s, brk f n s 1 (i + 1) 1 m) := hbrk 1 (Nat.le_refl _)
  have HOP : Hid (f i = 123 ∨ f i = 91) := hop
  unfold Plain.Op at hop
  clear hf hc hcl hbrk
  rcases hop with hop | hop
  all_goals
    go_enter Try.func33, Try.ntmps33
    go_wp2_with fail
    clear hx hop
    go_loopw [1, 6] (fun x d wr => ∃ p dd : Nat, x = .int .i64 p ∧ d = .int .i64 dd ∧ dd ≤ p ∧ p ≤ m ∧ Below (w.heap.size + 1) (w.alloc (.cells #[.slice (some ⟨b, 0, none⟩) n n] 56)) wr ∧ Hid ((dd = 0 ∧ p = i) ∨ (1 ≤ dd ∧ ∃ s, brk f n s dd p 1 m))) (fun x _ _ => n - (intOf x).toNat)
    case atStart => exact ⟨i, 0, rfl, rfl, Nat.zero_le _, by omega, Below.refl _ _, .inl ⟨rfl, rfl⟩⟩
    case round =>
      obtain ⟨p, dd, rfl, rfl, h1, h2, hbel, HR⟩ := hrel
      have hx : wr.cell? ⟨b, p, none⟩ = some (.int .u8 (f p)) := (hbel.cell (p := ⟨b, p, none⟩) (by show b < w.heap.size + 1; omega)).trans (HC.out _ p (by omega))
      have hbox : wr.cell? ⟨w.heap.size, 0, none⟩ = some (.slice (some ⟨b, 0, none⟩) n n) := (hbel.cell (p := ⟨w.heap.size, 0, none⟩) (by show w.heap.size < w.heap.size + 1; omega)).trans (by simp)
      have HBEL : Hid (Below (w.heap.size + 1) (w.alloc (.cells #[.slice (some ⟨b, 0, none⟩) n n] 56)) wr) := hbel
      clear hbel
      rcases HR.out with ⟨rfl, rfl⟩ | ⟨hdd, s, hs⟩
      · rcases HOP.out with ho | ho
        · clear HR
          go_wp2_with fail
          go_roundw
          case rel => exact ⟨p + 1, 1, by go_num, by go_num, by omega, by omega, HBEL.out, .inr ⟨Nat.le_refl _, HB.out⟩⟩
          case measure => simp [intOf]; omega
        · clear HR
          go_wp2_with fail
          go_roundw
          case rel => exact ⟨p + 1, 1, by go_num, by go_num, by omega, by omega, HBEL.out, .inr ⟨Nat.le_refl _, HB.out⟩⟩
          case measure => simp [intOf]; omega
      · clear HR
        cases s with
        | zero =>
          simp only [brk] at hs
          obtain ⟨rfl, rfl⟩ := hs
          rcases HCL.out with hc | hc
          · go_wp2_with fail
            go_ret
            exact ⟨rfl, ((Below.refl _ _).alloc (Nat.le_refl _) _).trans (HBEL.out.mono (by omega))⟩
          · go_wp2_with fail
            go_ret
            exact ⟨rfl, ((Below.refl _ _).alloc (Nat.le_refl _) _).trans (HBEL.out.mono (by omega))⟩
        | succ s =>
          simp only [brk] at hs
          obtain ⟨hpn, hs⟩ := hs
          rcases hs with ⟨hq, k, hstr, hs⟩ | ⟨ho, hs⟩ | ⟨hc, hd2, hs⟩ | ⟨hpl, hs⟩
          · have hkm := brk_le f n s _ _ _ _ hs
            have hkl := hstr.lt
            have HST : Hid (Str f n p k) := hstr
            have HQ : Hid (f p = 34) := hq
            have HS : Hid (∃ s, brk f n s dd k 1 m) := ⟨s, hs⟩
            have hsz : w.heap.size + 1 ≤ wr.heap.size := by have := HBEL.out.size; simpa using this
            have HCW : Hid (∀ t, t < n → wr.cell? ⟨b, t, none⟩ = some (.int .u8 (f t))) := fun t ht => (HBEL.out.cell (p := ⟨b, t, none⟩) (by show b < w.heap.size + 1; omega)).trans (HC.out _ t ht)
            clear hs hstr
            go_wp2_with fail
            refine (end_any f HF.out b n p k _ hn (by omega) HCW.out HQ.out HST.out).mono ?_
            rintro e w2 ⟨rfl, hb2⟩
            have HB2 : Hid (Below (w.heap.size + 1) wr w2) := hb2.mono hsz
            clear hb2
            go_wp2_with fail
            go_roundw
            case rel => exact ⟨k, dd, rfl, rfl, by omega, hkm, HBEL.out.trans HB2.out, .inr ⟨hdd, HS.out⟩⟩
            case measure => simp [intOf]; omega
          · have hkm := brk_le f n s _ _ _ _ hs
            have HS : Hid (∃ s, brk f n s (dd + 1) (p + 1) 1 m) := ⟨s, hs⟩
            clear hs
            unfold Plain.Op at ho
            rcases ho with ho | ho
            · go_wp2_with fail
              go_roundw
              case rel => exact ⟨p + 1, dd + 1, by go_num, by go_num, by omega, hkm, HBEL.out, .inr ⟨by omega, HS.out⟩⟩
              case measure => simp [intOf]; omega
            · go_wp2_with fail
              go_roundw
              case rel => exact ⟨p + 1, dd + 1, by go_num, by go_num, by omega, hkm, HBEL.out, .inr ⟨by omega, HS.out⟩⟩
              case measure => simp [intOf]; omega
          · have hkm := brk_le f n s _ _ _ _ hs
            have HS : Hid (∃ s, brk f n s (dd - 1) (p + 1) 1 m) := ⟨s, hs⟩
            have hd0 : ((dd : Int) - 1 == 0) = false := by simp; omega
            have ed : ((dd : Int) - 1) = ((dd - 1 : Nat) : Int) := by omega
            have ED : Hid (((dd : Int) - 1) = ((dd - 1 : Nat) : Int)) := ed
            clear hs ed
            unfold Cl at hc
            rcases hc with hc | hc
            · go_wp2_with fail
              go_roundw
              case rel => exact ⟨p + 1, dd - 1, by go_num, by rw [← ED.out], by omega, hkm, HBEL.out, .inr ⟨by omega, HS.out⟩⟩
              case measure => simp [intOf]; omega
            · go_wp2_with fail
              go_roundw
              case rel => exact ⟨p + 1, dd - 1, by go_num, by rw [← ED.out], by omega, hkm, HBEL.out, .inr ⟨by omega, HS.out⟩⟩
              case measure => simp [intOf]; omega
          · have hkm := brk_le f n s _ _ _ _ hs
            have HS : Hid (∃ s, brk f n s dd (p + 1) 1 m) := ⟨s, hs⟩
            unfold Pl at hpl
            have d1 : (f p == 34) = false := by simp; omega
            have d2 : (f p == 123) = false := by simp; omega
            have d3 : (f p == 91) = false := by simp; omega
            have d4 : (f p == 125) = false := by simp; omega
            have d5 : (f p == 93) = false := by simp; omega
            clear hs hpl
            go_wp2_with fail
            go_roundw
            case rel => exact ⟨p + 1, dd, by go_num, rfl, by omega, hkm, HBEL.out, .inr ⟨hdd, HS.out⟩⟩
            case measure => simp [intOf]; omega
end Go.Proofs.Qxb6604795a
