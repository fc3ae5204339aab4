/- Seat b6604795a: zzjLiteral. -/
import Derived.Test.Qxb6604795aNumber
import Derived.Deep.QuietTactic
import Derived.BigQuiet
namespace Go.Proofs.Qxb6604795a
open Go.RowKit Plain

set_option maxRecDepth 100000 in
set_option maxHeartbeats 1000000 in
theorem literal_any (f : Nat → Int) (b n i : Nat) (s : ByteArray) (w : World) (hn : n ≤ 1048576) (hs : 0 < s.size) (hs2 : s.size ≤ 10) (hi : i < n) (hsc : ∀ k (h : k < s.size), Sc ((s[k]'h).toNat : Int)) (hc : ∀ t, t < n → w.cell? ⟨b, t, none⟩ = some (.int .u8 (f t))) :
    Calls Try.prog 40 #[.slice (some ⟨b, 0, none⟩) n n, .int .i64 i, .string s] w fun e w' => Two (fun j => i < j ∧ Run f n i j) e ∧ ∃ d, w' = w.drewN d := by
  have HS : Hid _ := hsc
  clear hsc
  by_cases hl : (n : Int) - (i : Int) < (s.size : Int)
  · clear hc
    go_enter Try.func40, Try.ntmps40
    go_wp2_with fail
    go_ret2
    exact ⟨.inl rfl, 0, rfl⟩
  · go_enter Try.func40, Try.ntmps40
    go_wp2_with fail
    go_loopw [8] (fun x wr => ∃ k d : Nat, x = .int .i64 k ∧ k ≤ s.size ∧ wr = w.drewN d ∧ Run f n i (i + k)) (fun x _ => s.size - (intOf x).toNat)
    case atStart => exact ⟨0, 0, rfl, Nat.zero_le _, rfl, Nat.le_refl _, by omega, fun t a b => by omega⟩
    case round =>
      obtain ⟨k, d, rfl, hk, rfl, hr⟩ := hrel
      have HR : Hid _ := hr
      clear hr
      by_cases hlt : k < s.size
      · have hx := hc (i + k) (by omega)
        clear hc
        have hx1 : (i : Int) + (k : Int) < (n : Int) := by omega
        by_cases he : f (i + k) = ((s[k]'hlt).toNat : Int)
        · have HE : Hid (f (i + k) = ((s[k]'hlt).toNat : Int)) := he
          go_wp2_with fail
          go_quiet (fail)
          go_wp2_with fail
          go_roundw
          case rel =>
            have hr' : Run f n i (i + k + 1) := Run.one (j := i + k) HR.out (by omega) (by rw [HE.out]; exact HS.out k hlt)
            exact ⟨k + 1, _, by go_num, by omega, rfl, hr'⟩
          case measure => simp [intOf]; omega
        · have he' : (f (i + k) != ((s[k]'hlt).toNat : Int)) = true := by simpa using he
          clear he
          go_wp2_with fail
          go_quiet (fail)
          go_wp2_with fail
          go_ret2
          exact ⟨.inl rfl, _, World.drewN_drewN _ _ _⟩
      · clear hc
        go_wp2_with fail
        go_ret2
        have e : k = s.size := by omega
        subst e
        exact ⟨.inr ⟨i + s.size, by simp, by omega, HR.out⟩, _, rfl⟩
end Go.Proofs.Qxb6604795a
