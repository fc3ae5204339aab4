/- Seat b6605550a: the guards and the copies of the two 'ahead' laws. -/
import Derived.Test.Qxb6605550aModel
import Derived.Test.Qxb6605550aCopy
import Derived.Test.Qxb6605550aInts
namespace Go.Proofs.Qxb6605550a
open Go.RowKit AP

/-- A slice of integers that came in. -/
def Row (k : IntKind) (w : World) (a : Option Addr) (len cap : Nat) (zs : List Int) : Prop :=
  (a = none ∧ len = 0 ∧ cap = 0 ∧ zs = []) ∨
  ∃ x, a = some x ∧ len ≤ cap ∧ cap ≤ maxLen ∧ zs.length = cap ∧ (∀ i, i < zs.length → w.cell? (x.add i) = some (.int k (zs.getD i 0))) ∧ ∀ n ∈ zs, (Lit.int k n).wf = true

theorem Row.below {k : IntKind} {w w' : World} {a : Option Addr} {len cap : Nat} {zs : List Int} {B : Nat} (h : Row k w a len cap zs) (hb : Below B w w') (hB : w.heap.size ≤ B) : Row k w' a len cap zs := by
  rcases h with h | ⟨x, rfl, h1, h2, h3, h4, h5⟩
  · exact .inl h
  · exact .inr ⟨x, rfl, h1, h2, h3, fun i hi => (hb.cell (Nat.lt_of_lt_of_le (cell_lt (h4 i hi)) hB)).trans (h4 i hi), h5⟩

theorem bclone_any (a : Option Addr) (len cap : Nat) (zs : List Int) (w : World) (h : Row .u8 w a len cap zs) (hn : len ≤ 1048576) :
    Calls Try.prog 9 #[.slice a len cap] w fun e w' => ∃ a', e = .returned (.slice a' len len) ∧ Below w.heap.size w w' ∧ BV w' a' len (fun t => zs.getD t 0) := by
  rcases h with ⟨rfl, rfl, rfl, rfl⟩ | ⟨x, rfl, h1, h2, h3, h4, h5⟩
  · exact (clone_nil w).mono fun e w' ⟨e1, e2⟩ => ⟨none, e1, e2 ▸ Below.refl _ _, .inl ⟨rfl, rfl⟩⟩
  · exact (clone_all _ len cap zs w h1 h3 hn x rfl h4).mono fun e w' ⟨e1, e2, _, e4⟩ => ⟨_, e1, e2, .inr ⟨_, rfl, e4⟩⟩
theorem iclone_any (a : Option Addr) (len cap : Nat) (zs : List Int) (w : World) (h : Row .i64 w a len cap zs) (hn : len ≤ 1048576) :
    Calls Try.prog 19 #[.slice a len cap] w fun e w' => ∃ a', e = .returned (.slice a' len len) ∧ Below w.heap.size w w' ∧ IV w' a' len (fun t => zs.getD t 0) := by
  rcases h with ⟨rfl, rfl, rfl, rfl⟩ | ⟨x, rfl, h1, h2, h3, h4, h5⟩
  · exact (iclone_nil w).mono fun e w' ⟨e1, e2⟩ => ⟨none, e1, e2 ▸ Below.refl _ _, .inl ⟨rfl, rfl⟩⟩
  · exact (iclone_all _ len cap zs w h1 h3 hn x rfl h4).mono fun e w' ⟨e1, e2, _, e4⟩ => ⟨_, e1, e2, .inr ⟨_, rfl, e4⟩⟩

theorem Row.len_le {k : IntKind} {w : World} {a : Option Addr} {len cap : Nat} {zs : List Int} (h : Row k w a len cap zs) : len ≤ maxLen := by
  rcases h with ⟨_, rfl, _⟩ | ⟨x, _, h1, h2, _⟩
  · exact Nat.zero_le _
  · omega
theorem Row.first {w : World} {a : Option Addr} {len cap : Nat} {zs : List Int} (h : Row .i64 w a len cap zs) (hp : 0 < len) : ∃ b o, a = some ⟨b, o, none⟩ ∧ w.cell? ⟨b, o, none⟩ = some (.int .i64 (zs.getD 0 0)) := by
  rcases h with ⟨_, rfl, _⟩ | ⟨x, rfl, h1, h2, h3, h4, h5⟩
  · omega
  · obtain ⟨b, o, rfl, hc⟩ := ints_at h4 (by omega)
    exact ⟨b, o, rfl, hc 0 (by omega)⟩

set_option maxRecDepth 100000 in
set_option maxHeartbeats 1000000 in
theorem bytes17 (a0 a4 a5 : Option Addr) (n c0 m4 c4 m5 c5 : Nat) (v1 v2 v3 v6 v7 : Value) (w : World) (h0 : n ≤ maxLen) (h4 : m4 ≤ maxLen) (h5 : m5 ≤ maxLen) :
    Calls Try.prog 17 #[.slice a0 n c0, v1, v2, v3, .slice a4 m4 c4, .slice a5 m5 c5, v6, v7] w fun e w' => ∃ B, e = .returned (.bool B) ∧ (B = true → n + m4 + m5 ≤ 1048576) ∧ w' = w := by
  unfold maxLen at h0 h4 h5
  by_cases k0 : n ≤ 1048576
  · by_cases k4 : m4 ≤ 1048576
    · by_cases k04 : n + m4 ≤ 1048576
      · by_cases k5 : m5 ≤ 1048576
        · by_cases k : n + m4 + m5 ≤ 1048576
          · go_enter Try.func17, Try.ntmps17
            go_wp2_with fail
            go_ret
            exact ⟨true, rfl, fun _ => k, rfl⟩
          · go_enter Try.func17, Try.ntmps17
            go_wp2_with fail
            go_ret
            exact ⟨false, rfl, fun h => (by cases h), rfl⟩
        · go_enter Try.func17, Try.ntmps17
          go_wp2_with fail
          go_ret
          exact ⟨false, rfl, fun h => (by cases h), rfl⟩
      · go_enter Try.func17, Try.ntmps17
        go_wp2_with fail
        go_ret
        exact ⟨false, rfl, fun h => (by cases h), rfl⟩
    · go_enter Try.func17, Try.ntmps17
      go_wp2_with fail
      go_ret
      exact ⟨false, rfl, fun h => (by cases h), rfl⟩
  · go_enter Try.func17, Try.ntmps17
    go_wp2_with fail
    go_ret
    exact ⟨false, rfl, fun h => (by cases h), rfl⟩

set_option maxRecDepth 100000 in
set_option maxHeartbeats 1000000 in
theorem bytes22 (a0 a4 a5 : Option Addr) (n c0 m4 c4 m5 c5 : Nat) (v1 v2 v3 v6 v7 v8 : Value) (w : World) (h0 : n ≤ maxLen) (h4 : m4 ≤ maxLen) (h5 : m5 ≤ maxLen) :
    Calls Try.prog 22 #[.slice a0 n c0, v1, v2, v3, .slice a4 m4 c4, .slice a5 m5 c5, v6, v7, v8] w fun e w' => ∃ B, e = .returned (.bool B) ∧ (B = true → n + m4 + m5 ≤ 1048576) ∧ w' = w := by
  unfold maxLen at h0 h4 h5
  by_cases k0 : n ≤ 1048576
  · by_cases k4 : m4 ≤ 1048576
    · by_cases k04 : n + m4 ≤ 1048576
      · by_cases k5 : m5 ≤ 1048576
        · by_cases k : n + m4 + m5 ≤ 1048576
          · go_enter Try.func22, Try.ntmps22
            go_wp2_with fail
            go_ret
            exact ⟨true, rfl, fun _ => k, rfl⟩
          · go_enter Try.func22, Try.ntmps22
            go_wp2_with fail
            go_ret
            exact ⟨false, rfl, fun h => (by cases h), rfl⟩
        · go_enter Try.func22, Try.ntmps22
          go_wp2_with fail
          go_ret
          exact ⟨false, rfl, fun h => (by cases h), rfl⟩
      · go_enter Try.func22, Try.ntmps22
        go_wp2_with fail
        go_ret
        exact ⟨false, rfl, fun h => (by cases h), rfl⟩
    · go_enter Try.func22, Try.ntmps22
      go_wp2_with fail
      go_ret
      exact ⟨false, rfl, fun h => (by cases h), rfl⟩
  · go_enter Try.func22, Try.ntmps22
    go_wp2_with fail
    go_ret
    exact ⟨false, rfl, fun h => (by cases h), rfl⟩

/-- What a false answer of zzAheadOutside tells. -/
def Outs (m4 m5 n : Nat) (pos last cs : Int) (B : Bool) : Prop := B = false → m4 = m5 ∧ (last ≤ pos → 0 ≤ pos ∧ pos ≤ (n : Int) ∧ (0 < m4 → pos ≤ cs))
def OutsE (m4 m5 n : Nat) (pos last cs : Int) (e : Ending) : Prop := ∃ B, e = .returned (.bool B) ∧ Outs m4 m5 n pos last cs B
theorem OutsE.yes (m4 m5 n : Nat) (pos last cs : Int) : OutsE m4 m5 n pos last cs (.returned (.bool true)) := ⟨true, rfl, fun h => by cases h⟩
theorem OutsE.no {m4 m5 n : Nat} {pos last cs : Int} (h : Outs m4 m5 n pos last cs false) : OutsE m4 m5 n pos last cs (.returned (.bool false)) := ⟨false, rfl, h⟩

set_option maxRecDepth 100000 in
set_option maxHeartbeats 1000000 in
theorem outside_at (a0 a4 a5 : Option Addr) (n c0 m4 c4 m5 c5 : Nat) (pos last cs : Int) (w : World) (h4 : m4 ≤ 1048576) (h5 : m5 ≤ 1048576) (r4 : 0 < m4 → ∃ b o, a4 = some ⟨b, o, none⟩ ∧ w.cell? ⟨b, o, none⟩ = some (.int .i64 cs)) :
    Calls Try.prog 18 #[.slice a0 n c0, .int .i64 pos, .slice a4 m4 c4, .slice a5 m5 c5, .int .i64 last] w fun e w' => OutsE m4 m5 n pos last cs e ∧ w' = w := by
  by_cases k45 : m4 = m5
  · subst k45
    by_cases kl : pos < last
    · have HO : Hid (Outs m4 m4 n pos last cs false) := fun _ => ⟨rfl, fun h => by omega⟩
      clear r4
      go_enter Try.func18, Try.ntmps18
      go_wp2_with fail
      go_ret
      exact ⟨OutsE.no HO.out, rfl⟩
    · have kl2 : last ≤ pos := by omega
      clear kl
      by_cases kn : pos < 0
      · clear r4
        go_enter Try.func18, Try.ntmps18
        go_wp2_with fail
        go_ret
        exact ⟨OutsE.yes _ _ _ _ _ _, rfl⟩
      · by_cases kg : (n : Int) < pos
        · clear r4
          go_enter Try.func18, Try.ntmps18
          go_wp2_with fail
          go_ret
          exact ⟨OutsE.yes _ _ _ _ _ _, rfl⟩
        · by_cases hm : 0 < m4
          · obtain ⟨b, o, rfl, hx⟩ := r4 hm
            have hmz : (0 : Int) < (m4 : Int) := by omega
            clear r4
            by_cases kc : cs < pos
            · go_enter Try.func18, Try.ntmps18
              go_wp2_with fail
              go_ret
              exact ⟨OutsE.yes _ _ _ _ _ _, rfl⟩
            · have HO : Hid (Outs m4 m4 n pos last cs false) := fun _ => ⟨rfl, fun h => ⟨by omega, by omega, fun _ => by omega⟩⟩
              go_enter Try.func18, Try.ntmps18
              go_wp2_with fail
              go_ret
              exact ⟨OutsE.no HO.out, rfl⟩
          · clear r4
            obtain rfl : m4 = 0 := by omega
            have HO : Hid (Outs 0 0 n pos last cs false) := fun _ => ⟨rfl, fun h => ⟨by omega, by omega, fun _ => by omega⟩⟩
            go_enter Try.func18, Try.ntmps18
            go_wp2_with fail
            go_ret
            exact ⟨OutsE.no HO.out, rfl⟩
  · have k45' : ((m4 : Int) != (m5 : Int)) = true := by simp; omega
    clear r4 k45
    go_enter Try.func18, Try.ntmps18
    go_wp2_with fail
    go_ret
    exact ⟨OutsE.yes _ _ _ _ _ _, rfl⟩
end Go.Proofs.Qxb6605550a
