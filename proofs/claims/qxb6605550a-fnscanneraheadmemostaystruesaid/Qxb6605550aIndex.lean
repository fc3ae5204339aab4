/- Seat b6605550a: bytes.IndexByte. -/
import Derived.Test.Qxb6605550aProg
import Derived.WalkKit
import Derived.Lib.BytesEntry
namespace Go.Proofs.Qxb6605550a
open Go.RowKit

theorem u8_eq (x c : Int) (h0 : 0 ≤ x) (h1 : x < 256) (k0 : 0 ≤ c) (k1 : c < 256) : (UInt8.ofNat x.toNat == c.toNat.toUInt8) = decide (x = c) := by
  rw [Bool.eq_iff_iff]
  simp only [beq_iff_eq, decide_eq_true_eq]
  constructor
  · intro h
    have := congrArg UInt8.toNat h
    simp [UInt8.toNat_ofNat'] at this
    omega
  · intro h; rw [h]

/-- Where the first c lies among m bytes from o on. -/
def First (f : Nat → Int) (o m : Nat) (c : Int) (r : Int) : Prop :=
  (∃ k : Nat, r = (k : Int) ∧ k < m ∧ f (o + k) = c ∧ ∀ t, t < k → f (o + t) ≠ c) ∨ (r = -1 ∧ ∀ t, t < m → f (o + t) ≠ c)

theorem first_of (f : Nat → Int) (hf : ∀ t, 0 ≤ f t ∧ f t < 256) (c : Int) (k0 : 0 ≤ c) (k1 : c < 256) : ∀ (m o : Nat), First f o m c (Lib.indexByte (Lib.bytesOf ((List.range m).map fun t => f (o + t))) c.toNat.toUInt8)
  | 0, o => .inr ⟨rfl, fun t h => by omega⟩
  | m + 1, o => by
    have ih := first_of f hf c k0 k1 m (o + 1)
    have e1 : (List.range (m + 1)).map (fun t => f (o + t)) = f o :: (List.range m).map (fun t => f (o + 1 + t)) := by
      rw [List.range_succ_eq_map, List.map_cons, List.map_map]
      congr 1
      apply List.map_congr_left
      intro t _
      simp only [Function.comp, Nat.succ_eq_add_one]
      congr 1; omega
    rw [e1]
    have e2 : Lib.bytesOf (f o :: (List.range m).map (fun t => f (o + 1 + t))) = UInt8.ofNat (f o).toNat :: Lib.bytesOf ((List.range m).map (fun t => f (o + 1 + t))) := rfl
    rw [e2]
    unfold Lib.indexByte
    rw [u8_eq (f o) c (hf o).1 (hf o).2 k0 k1]
    by_cases h : f o = c
    · rw [if_pos (by simpa using h)]
      exact .inl ⟨0, rfl, by omega, h, fun t ht => by omega⟩
    · rw [if_neg (by simpa using h)]
      rcases ih with ⟨k, e, hk, hc, hno⟩ | ⟨e, hno⟩
      · rw [e, if_neg (by simp)]
        refine .inl ⟨k + 1, by simp, by omega, by rw [← hc]; congr 1; omega, fun t ht => ?_⟩
        by_cases h0 : t = 0
        · subst h0; exact h
        · have := hno (t - 1) (by omega)
          rwa [show o + 1 + (t - 1) = o + t from by omega] at this
      · rw [e, if_pos (by simp)]
        refine .inr ⟨rfl, fun t ht => ?_⟩
        by_cases h0 : t = 0
        · subst h0; exact h
        · have := hno (t - 1) (by omega)
          rwa [show o + 1 + (t - 1) = o + t from by omega] at this

set_option maxRecDepth 100000 in
theorem index_any (f : Nat → Int) (hf : ∀ t, 0 ≤ f t ∧ f t < 256) (b o m cp : Nat) (c : Int) (k0 : 0 ≤ c) (k1 : c < 256) (w : World) (hc : ∀ t, t < m → w.cell? ⟨b, o + t, none⟩ = some (.int .u8 (f (o + t)))) :
    Calls Try.prog 27 #[.slice (some ⟨b, o, none⟩) m cp, .int .u8 c] w fun e w' => w' = w ∧ ∃ r, e = .returned (.int .i64 r) ∧ First f o m c r := by
  have hrun := Lib.run_indexByteSlice (P := Try.prog) w b o m cp ((List.range m).map fun t => f (o + t)) (by simp) (fun i hi => by rw [hc i hi]; simp [hi]) c
  have hfst := first_of f hf c k0 k1 m o
  clear hc hf
  go_enter Try.func27, Try.ntmps27
  go_wp2
  rw [run_callFunc_extern Try.func28 (by kernel_rfl) (by kernel_rfl) (by kernel_rfl) (e := Extern.BytealgIndexByte.indexByte) (by kernel_rfl), hrun]
  simp only [Result.andThen]
  rw [Oper.upon_value]
  go_wp2
  go_ret
  exact ⟨rfl, _, rfl, hfst⟩

set_option maxRecDepth 100000 in
theorem index_nil (c : Int) (w : World) : Calls Try.prog 27 #[.slice none 0 0, .int .u8 c] w fun e w' => e = .returned (.int .i64 (-1)) ∧ w' = w := by
  have hrun := Lib.run_indexByteNil (P := Try.prog) w 0 0 c
  go_enter Try.func27, Try.ntmps27
  go_wp2
  rw [run_callFunc_extern Try.func28 (by kernel_rfl) (by kernel_rfl) (by kernel_rfl) (e := Extern.BytealgIndexByte.indexByte) (by kernel_rfl), hrun]
  simp only [Result.andThen]
  rw [Oper.upon_value]
  go_wp2
  go_ret
  exact ⟨rfl, rfl⟩
end Go.Proofs.Qxb6605550a
