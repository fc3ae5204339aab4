/- Seat b6604795a: stringEnd. -/
import Derived.Test.Qxb6604795aIndex
import Derived.Test.Qxb6604795aPlain
import Derived.WalkSpells
namespace Go.Proofs.Qxb6604795a
open Go.RowKit Plain

/-- One round of stringEnd, in plain words. -/
theorem round_even {f : Nat → Int} {p q e sl : Nat} (hr : Rd f p q) (hq : f q = 34) (he : f e = 34) (hse : sl ≤ e) (hb : ∀ t, sl ≤ t → t < e → f t = 92) (hps : p ≤ sl) (hsl : sl = p ∨ f (sl - 1) ≠ 92) (hno : ∀ t, p ≤ t → t < e → f t ≠ 34) (h : (e - sl) % 2 = 0) : e = q :=
  hr.elim fun s hr => (rd_quote f q e sl hq he hse hb s p hr hps hsl hno).1 h
theorem round_odd {f : Nat → Int} {p q e sl : Nat} (hr : Rd f p q) (hq : f q = 34) (he : f e = 34) (hse : sl ≤ e) (hb : ∀ t, sl ≤ t → t < e → f t = 92) (hps : p ≤ sl) (hsl : sl = p ∨ f (sl - 1) ≠ 92) (hno : ∀ t, p ≤ t → t < e → f t ≠ 34) (h : (e - sl) % 2 = 1) : e < q ∧ Rd f (e + 1) q :=
  hr.elim fun s hr => (rd_quote f q e sl hq he hse hb s p hr hps hsl hno).2 h

theorem ret_int {k : IntKind} {a b : Int} (h : a = b) : Ending.returned (.int k a) = .returned (.int k b) := by rw [h]

set_option maxRecDepth 100000 in
set_option maxHeartbeats 1000000 in
theorem end_any (f : Nat → Int) (hf : ∀ t, 0 ≤ f t ∧ f t < 256) (b n i k : Nat) (w : World) (hn : n ≤ 1048576) (hb : b < w.heap.size) (hc : ∀ t, t < n → w.cell? ⟨b, t, none⟩ = some (.int .u8 (f t))) (hi : f i = 34) (hs : Str f n i k) :
    Calls Try.prog 42 #[.agg #[.slice (some ⟨b, 0, none⟩) n n], .int .i64 i] w fun e w' => e = .returned (.int .i64 k) ∧ Below w.heap.size w w' := by
  obtain ⟨q, rfl, hq, hrd, hfq⟩ := hs
  have hiq := hrd.le
  have HF : Hid (∀ t, 0 ≤ f t ∧ f t < 256) := hf
  have HC : Hid (∀ (o : Obj) t, t < n → (w.alloc o).cell? ⟨b, t, none⟩ = some (.int .u8 (f t))) := fun o t ht => (((Below.refl w.heap.size w).alloc (Nat.le_refl _) o).cell (p := ⟨b, t, none⟩) hb).trans (hc t ht)
  have HQ : Hid (f q = 34) := hfq
  have HR : Hid (Rd f (i + 1) q) := hrd
  have HI : Hid (f i = 34) := hi
  clear hc hrd hf hi hfq
  go_enter Try.func42, Try.ntmps42
  go_wp2_with fail
  go_loop [1] (fun x => ∃ p : Nat, x = .int .i64 p ∧ i < p ∧ p ≤ q ∧ Hid (f (p - 1) = 34 ∧ Rd f p q)) (fun x => n - (intOf x).toNat)
  case atStart => exact ⟨i + 1, by go_num, by omega, by omega, HI.out, HR.out⟩
  case round =>
    clear HI HR
    obtain ⟨p, rfl, h1, h2, HP⟩ := hrel
    go_wp2_with fail
    refine (index_any f HF.out b p (n - p) (n - p) 34 (by omega) (by omega) _ (fun t ht => HC.out _ _ (by omega))).mono ?_
    rintro e w' ⟨rfl, r, rfl, hr⟩
    rcases hr with ⟨k, rfl, hk, hfk, hno⟩ | ⟨_, hno⟩
    · have H1 : Hid (f (p + k) = 34) := hfk
      have H2 : Hid (∀ t, t < k → f (p + t) ≠ 34) := hno
      clear hfk hno
      go_wp2_with fail
      go_loop [6] (fun x => ∃ sl : Nat, x = .int .i64 sl ∧ p ≤ sl ∧ sl ≤ p + k ∧ Hid (∀ t, sl ≤ t → t < p + k → f t = 92)) (fun x => (intOf x).toNat)
      case atStart => exact ⟨p + k, by go_num, by omega, by omega, fun t a b => by omega⟩
      case round =>
        obtain ⟨sl, rfl, s1, s2, HS⟩ := hrel
        have hx := HC.out (.cells #[.slice (some ⟨b, 0, none⟩) n n] 56) (sl - 1) (by omega)
        have ei : ((sl : Int) - 1).toNat = sl - 1 := by omega
        by_cases hb : f (sl - 1) = 92
        · have HB : Hid (f (sl - 1) = 92) := hb
          go_wp2_with fail
          go_round
          case rel =>
            have hp : p ≤ sl - 1 := by
              by_cases e : sl = p
              · exfalso
                have h1 := HB.out
                have h2 := HP.out.1
                rw [e] at h1
                omega
              · omega
            refine ⟨sl - 1, ?_, hp, by omega, fun t a b => ?_⟩
            · have : ((sl - 1 : Nat) : Int) = (sl : Int) - 1 := by omega
              rw [this]
            · by_cases e : t = sl - 1
              · rw [e]; exact HB.out
              · exact HS.out t (by omega) b
          case measure => simp [intOf]; omega
        · have hb' : (f (sl - 1) == 92) = false := by simpa using hb
          have HB : Hid (f (sl - 1) ≠ 92) := hb
          clear hb
          have hlow : ∀ t, p ≤ t → t < p + k → f t ≠ 34 := fun t a b => by
            have := H2.out (t - p) (by omega)
            rwa [show p + (t - p) = t from by omega] at this
          by_cases hp : (p + k - sl) % 2 = 0
          · have HE : Hid (p + k = q) := round_even HP.out.2 HQ.out H1.out s2 HS.out s1 (.inr HB.out) hlow hp
            have hpar : (((p : Int) + (k : Int) - (sl : Int)) % 2 == 0) = true := by simp; omega
            clear hp hlow
            go_wp2_with fail
            go_ret
            refine ⟨ret_int (by have := HE.out; omega), (Below.refl _ _).alloc (Nat.le_refl _) _⟩
          · obtain ⟨h1', h2'⟩ := round_odd HP.out.2 HQ.out H1.out s2 HS.out s1 (.inr HB.out) hlow (by omega)
            have HE : Hid (Rd f (p + k + 1) q) := h2'
            have hpar : (((p : Int) + (k : Int) - (sl : Int)) % 2 == 0) = false := by simp; omega
            clear hp hlow h2'
            go_wp2_with fail
            go_round
            case rel => exact ⟨p + k + 1, by go_num, by omega, by omega, H1.out, HE.out⟩
            case measure => simp [intOf]; omega
    · exfalso
      have := hno (q - p) (by omega)
      rw [show p + (q - p) = q from by omega] at this
      exact this HQ.out
end Go.Proofs.Qxb6604795a
