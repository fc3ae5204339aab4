/- Seat b6605477a: (*headScan).scan computes 'auto'. -/
import Derived.Test.Qxb6605477aAuto
import Derived.Test.Qxb6605477aIndex
import Derived.Deep.Cut
import Derived.Deep.CutRange
import Derived.Deep.LoopGhost
namespace Go.Proofs.Qxb6605477a
open Go.RowKit Plain

/-- The scanner's five fields at block g. -/
def Fld (g : Nat) (w : World) (sz ln : Int) (c s e : Bool) : Prop :=
  w.cell? ⟨g, 0, none⟩ = some (.int .i64 sz) ∧ w.cell? ⟨g, 1, none⟩ = some (.int .i64 ln) ∧ w.cell? ⟨g, 2, none⟩ = some (.bool c) ∧ w.cell? ⟨g, 3, none⟩ = some (.bool s) ∧ w.cell? ⟨g, 4, none⟩ = some (.bool e) ∧ ∀ j, w.frozen? ⟨g, j, none⟩ = false

theorem set_same {w : World} {a : Addr} {u v : Value} (h : w.cell? a = some u) : (w.setCell a v).cell? a = some v := World.cell?_setCell_same w a v h
theorem set_other {w : World} {g i j : Nat} {v x : Value} (hij : i ≠ j) (h : w.cell? ⟨g, j, none⟩ = some x) : (w.setCell ⟨g, i, none⟩ v).cell? ⟨g, j, none⟩ = some x := by
  rw [World.cell?_setCell_other _ _ _ _ (fun e => by simp only [Addr.mk.injEq, true_and, and_true] at e; exact hij e)]
  exact h
theorem Fld.set0 {g : Nat} {w : World} {sz ln : Int} {c s e : Bool} (h : Fld g w sz ln c s e) (x : Int) : Fld g (w.setCell ⟨g, 0, none⟩ (.int .i64 x)) x ln c s e :=
  ⟨set_same h.1, set_other (by omega) h.2.1, set_other (by omega) h.2.2.1, set_other (by omega) h.2.2.2.1, set_other (by omega) h.2.2.2.2.1, fun j => by rw [World.frozen?_setCell]; exact h.2.2.2.2.2 j⟩
theorem Fld.set1 {g : Nat} {w : World} {sz ln : Int} {c s e : Bool} (h : Fld g w sz ln c s e) (x : Int) : Fld g (w.setCell ⟨g, 1, none⟩ (.int .i64 x)) sz x c s e :=
  ⟨set_other (by omega) h.1, set_same h.2.1, set_other (by omega) h.2.2.1, set_other (by omega) h.2.2.2.1, set_other (by omega) h.2.2.2.2.1, fun j => by rw [World.frozen?_setCell]; exact h.2.2.2.2.2 j⟩
theorem Fld.set2 {g : Nat} {w : World} {sz ln : Int} {c s e : Bool} (h : Fld g w sz ln c s e) (x : Bool) : Fld g (w.setCell ⟨g, 2, none⟩ (.bool x)) sz ln x s e :=
  ⟨set_other (by omega) h.1, set_other (by omega) h.2.1, set_same h.2.2.1, set_other (by omega) h.2.2.2.1, set_other (by omega) h.2.2.2.2.1, fun j => by rw [World.frozen?_setCell]; exact h.2.2.2.2.2 j⟩
theorem Fld.set3 {g : Nat} {w : World} {sz ln : Int} {c s e : Bool} (h : Fld g w sz ln c s e) (x : Bool) : Fld g (w.setCell ⟨g, 3, none⟩ (.bool x)) sz ln c x e :=
  ⟨set_other (by omega) h.1, set_other (by omega) h.2.1, set_other (by omega) h.2.2.1, set_same h.2.2.2.1, set_other (by omega) h.2.2.2.2.1, fun j => by rw [World.frozen?_setCell]; exact h.2.2.2.2.2 j⟩
theorem Fld.set4 {g : Nat} {w : World} {sz ln : Int} {c s e : Bool} (h : Fld g w sz ln c s e) (x : Bool) : Fld g (w.setCell ⟨g, 4, none⟩ (.bool x)) sz ln c s x :=
  ⟨set_other (by omega) h.1, set_other (by omega) h.2.1, set_other (by omega) h.2.2.1, set_other (by omega) h.2.2.2.1, set_same h.2.2.2.2.1, fun j => by rw [World.frozen?_setCell]; exact h.2.2.2.2.2 j⟩

theorem step_lf (f : Nat → Int) (q g p k : Nat) (sz ln : Int) (c : Bool) (hno : ∀ t, t < k → f (p + t) ≠ 10) (h10 : f (p + k) = 10) (hs : wrap64 sz = sz) (hl : wrap64 ln = ln) :
    auto f (g + 1 + k) p q sz ln c true false = auto f g (p + k + 1) q (wrap64 (sz + ((k : Int) + 1))) 0 false true (ends (wrap64 (ln + (k : Int))) (if k = 0 then c else f (p + k - 1) == 13)) := by
  rw [auto_run f q k (g + 1) p sz ln c hno hs hl, auto_lf f g (p + k) q _ _ _ h10, wrap_wrap, Int.add_assoc]
theorem step_end (f : Nat → Int) (q p m : Nat) (sz ln : Int) (c : Bool) (hno : ∀ t, t < m → f (p + t) ≠ 10) (hm : 0 < m) (hs : wrap64 sz = sz) (hl : wrap64 ln = ln) :
    auto f m p q sz ln c true false = ⟨q, p + m, wrap64 (sz + (m : Int)), wrap64 (ln + (m : Int)), f (p + m - 1) == 13, true, false⟩ := by
  have := auto_run f q m 0 p sz ln c hno hs hl
  rw [Nat.zero_add] at this
  rw [this, auto, if_neg (by omega)]

theorem index_rel (f : Nat → Int) (hf : ∀ t, 0 ≤ f t ∧ f t < 256) (b o p m cp : Nat) (c : Int) (k0 : 0 ≤ c) (k1 : c < 256) (w : World) (hc : ∀ t, t < m → w.cell? ⟨b, o + p + t, none⟩ = some (.int .u8 (f (p + t)))) :
    Calls Try.prog 21 #[.slice (some ⟨b, o + p, none⟩) m cp, .int .u8 c] w fun e w' => w' = w ∧ ∃ r, e = .returned (.int .i64 r) ∧ First f p m c r := by
  have e : ∀ t, o + p + t - o = p + t := fun t => by omega
  refine (index_any (fun x => f (x - o)) (fun t => hf _) b (o + p) m cp c k0 k1 w (fun t ht => by rw [hc t ht]; simp only [e])).mono fun e' w' ⟨h1, r, h2, h3⟩ => ⟨h1, r, h2, ?_⟩
  unfold First at h3 ⊢
  simpa only [e] using h3

set_option maxRecDepth 100000 in
set_option maxHeartbeats 4000000 in
theorem scan_any (f : Nat → Int) (hf : ∀ t, 0 ≤ f t ∧ f t < 256) (b o n cp g : Nat) (size line : Int) (cr st en : Bool) (w : World) (hn : n ≤ 1048576) (hcp : n ≤ cp) (hbg : b < g) (hc : ∀ t, t < n → w.cell? ⟨b, o + t, none⟩ = some (.int .u8 (f t)))
    (hfld : Fld g w size line cr st en) (hsz : wrap64 size = size) (hln : wrap64 line = line) :
    Calls Try.prog 18 #[.pointer (some ⟨g, 0, none⟩), .slice (some ⟨b, o, none⟩) n cp] w fun e w' => ∃ R : St, R = auto f n 0 0 size line cr st en ∧ e = .returned (.tuple #[.int .i64 R.start, .int .i64 R.taken]) ∧ Below g w w' ∧ Fld g w' R.size R.line R.cr R.st R.en := by
  have HF : Hid (∀ t, 0 ≤ f t ∧ f t < 256) := hf
  have HC : Hid (∀ t, t < n → w.cell? ⟨b, o + t, none⟩ = some (.int .u8 (f t))) := hc
  have HFL : Hid (Fld g w size line cr st en) := hfld
  obtain ⟨c0, c1, c2, c3, c4, fz⟩ := hfld
  have HSZ : Hid (wrap64 size = size) := hsz
  have HLN : Hid (wrap64 line = line) := hln
  clear hf hc hsz hln
  obtain ⟨R, hR⟩ : ∃ R, R = auto f n 0 0 size line cr st en := ⟨_, rfl⟩
  have HR : Hid (R = auto f n 0 0 size line cr st en) := hR
  clear hR
  go_enter Try.func18, Try.ntmps18
  go_wp2_with fail
  go_loopg [4] n (fun gk x wx => ∃ q : Nat, q + gk = n ∧ x = .int .i64 q ∧ wx = w ∧ Hid ((∀ t, t < q → f t = 13 ∨ f t = 10) ∧ (0 < q → st = false)))
  case atStart => exact ⟨0, by omega, rfl, rfl, fun t ht => by omega, fun h => by omega⟩
  case round =>
    obtain ⟨q, hq, rfl, hwx, HQ⟩ := hrel
    obtain rfl := hwx.symm
    clear hwx
    go_upto_region 1 with fail
    go_cut [33] from 9 to 35 (fun x w2 => w2 = w ∧ ∃ B : Bool, x = .bool B ∧ Hid (B = true ↔ (st = false ∧ q < n ∧ (f q = 13 ∨ f q = 10))))
    case first =>
      cases st with
      | true =>
        go_wp2_with fail
        go_meet
        case rel => exact ⟨rfl, _, rfl, by show _ ↔ _; simp⟩
      | false =>
        by_cases hqn : q < n
        · have hx := HC.out q hqn
          by_cases h13 : f q = 13
          · have H13 : Hid (f q = 13) := h13
            go_wp2_with fail
            go_meet
            case rel => exact ⟨rfl, _, rfl, by have := H13.out; show _ ↔ _; simp [this, hqn]⟩
          · have e13 : (f q == 13) = false := by simpa using h13
            have H13 : Hid (f q ≠ 13) := h13
            clear h13
            go_wp2_with fail
            go_meet
            case rel => exact ⟨rfl, _, rfl, by have := H13.out; show _ ↔ _; simp [this, hqn]⟩
        · go_wp2_with fail
          go_meet
          case rel => exact ⟨rfl, _, rfl, by show _ ↔ _; simp [Nat.not_lt_of_le (show n ≤ q by omega)]⟩
    case rest =>
      obtain ⟨hw2, B, rfl, HB⟩ := hcut
      obtain rfl := hw2.symm
      clear hw2
      cases B with
      | true =>
        obtain ⟨hst, hqn, hfq⟩ := HB.out.1 rfl
        have HQ2 : Hid ((∀ t, t < q + 1 → f t = 13 ∨ f t = 10) ∧ (0 < q + 1 → st = false)) := ⟨fun t ht => by
          by_cases e : t = q
          · rw [e]; exact hfq
          · exact HQ.out.1 t (by omega), fun _ => hst⟩
        clear HB hst hfq HQ
        go_wp2_with fail
        go_roundg (gk - 1)
        case measure => omega
        case rel => exact ⟨q + 1, by omega, by go_num, rfl, HQ2.out⟩
      | false =>
        have HX : Hid (q < n → st = false → ¬ (f q = 13 ∨ f q = 10)) := fun h1 h2 h3 => by have := HB.out.2 ⟨h2, h1, h3⟩; cases this
        clear HB
        obtain ⟨s2, hs2, HS2, HA⟩ : ∃ s2 : Bool, (st || decide (q < n)) = s2 ∧ Hid (q < n → s2 = true) ∧ Hid (auto f (n - q) q q (wrap64 (size + (q : Int))) line cr s2 en = R) := by
          refine ⟨_, rfl, fun h => by simp [h], ?_⟩
          show auto f (n - q) q q (wrap64 (size + (q : Int))) line cr (st || decide (q < n)) en = R
          have hr := HR.out
          cases st with
          | true =>
            have hq0 : q = 0 := by
              by_cases e : 0 < q
              · have := HQ.out.2 e; cases this
              · omega
            subst hq0
            rw [hr]
            simp [HSZ.out]
          | false =>
            have hl := auto_lead f en cr line q (n - q) 0 0 size (fun t ht => by rw [Nat.zero_add]; exact HQ.out.1 t ht) HSZ.out
            rw [show n - q + q = n from by omega, Nat.zero_add] at hl
            rw [hr, hl]
            by_cases hqn : q < n
            · obtain ⟨k, hk⟩ : ∃ k, n - q = k + 1 := ⟨n - q - 1, by omega⟩
              rw [hk, auto_on f _ _ _ _ _ _ _ (HX.out hqn rfl)]
              simp [hqn]
            · simp [hqn]
        have HFL2 : Hid (Fld g ((w.setCell ⟨g, 0, none⟩ (.int .i64 (wrap64 (size + (q : Int))))).setCell ⟨g, 3, none⟩ (.bool s2)) (wrap64 (size + (q : Int))) line cr s2 en) := (HFL.out.set0 _).set3 _
        have HB2 : Hid (Below g w ((w.setCell ⟨g, 0, none⟩ (.int .i64 (wrap64 (size + (q : Int))))).setCell ⟨g, 3, none⟩ (.bool s2))) := Below.setCell (p := ⟨g, 3, none⟩) (Below.setCell (p := ⟨g, 0, none⟩) (Below.refl _ _) (Nat.le_refl g) _) (Nat.le_refl g) _
        clear HX HQ HFL HSZ
        go_upto_region 4 with fail
        go_cut [] from 9 (fun w2 => Hid (Below g w w2) ∧ Hid (Fld g w2 (wrap64 (size + (q : Int))) line cr s2 en))
        case first =>
          cases st with
          | true =>
            obtain rfl : s2 = true := by rw [← hs2]; rfl
            clear hs2
            go_wp2_with fail
            go_meet
            case rel => exact ⟨HB2, HFL2⟩
          | false =>
            have hs2' : decide (q < n) = s2 := by rw [← hs2]; rfl
            clear hs2
            go_wp2_with fail
            go_meet
            case rel => exact ⟨HB2, HFL2⟩
        case rest =>
          clear HFL2 HB2 c0 c1 c2 c3 c4 fz hs2
          obtain ⟨HB2, HFL2⟩ := hcut
          have HA2 : Hid (wrap64 (wrap64 (size + (q : Int))) = wrap64 (size + (q : Int))) := wrap_idem _
          go_wp2_with fail
          go_loopw [4, 5] (fun x4 x wr => ∃ (p : Nat) (sz ln : Int) (c e : Bool), x4 = .int .i64 q ∧ x = .int .i64 p ∧ p ≤ n ∧ Hid (Below g w wr) ∧ Hid (Fld g wr sz ln c s2 e) ∧ Hid (p < n → s2 = true) ∧ Hid (auto f (n - p) p q sz ln c s2 e = R) ∧ Hid (wrap64 sz = sz ∧ wrap64 ln = ln)) (fun _ x _ => n - (intOf x).toNat)
          case atStart => exact ⟨q, _, _, _, _, rfl, rfl, by omega, HB2, HFL2, HS2, HA, HA2.out, HLN.out⟩
          case round =>
            clear HB2 HFL2 HS2 HA HA2 HLN
            obtain ⟨p, sz, ln, c, e, rfl, rfl, hp, HB, HFL, HS, HA, HW⟩ := hrel
            obtain ⟨c0, c1, c2, c3, c4, fz⟩ := HFL.out
            have f0 := fz 0
            have f1 := fz 1
            have f2 := fz 2
            have f4 := fz 4
            clear c3 fz
            by_cases hpn : p < n
            · cases e with
              | true =>
                go_wp2_with fail
                go_ret2
                have hs := HS.out hpn
                have h := HA.out
                have hfl := HFL.out
                rw [hs, auto_stop] at h
                rw [hs] at hfl
                exact ⟨R, HR.out, by rw [← h]; rfl, HB.out, by rw [← h]; exact hfl⟩
              | false =>
                have HCR : Hid (∀ t, t < n → wr.cell? ⟨b, o + t, none⟩ = some (.int .u8 (f t))) := fun t ht => (HB.out.cell (p := ⟨b, o + t, none⟩) hbg).trans (HC.out t ht)
                go_wp2_with fail
                refine (index_rel f HF.out b o p (n - p) _ 10 (by omega) (by omega) _ (fun t ht => by rw [Nat.add_assoc]; exact HCR.out _ (by omega))).mono ?_
                rintro e w' ⟨hw', r, rfl, hr⟩
                obtain rfl := hw'.symm
                clear hw'
                rcases hr with ⟨k, rfl, hk, h10, hno⟩ | ⟨rfl, hno⟩
                · have H10 : Hid (f (p + k) = 10) := h10
                  have HNO : Hid (∀ t, t < k → f (p + t) ≠ 10) := hno
                  have hs := HS.out hpn
                  have HNX : Hid (auto f (n - (p + k + 1)) (p + k + 1) q (wrap64 (sz + ((k : Int) + 1))) 0 false s2 (ends (wrap64 (ln + (k : Int))) (if k = 0 then c else f (p + k - 1) == 13)) = R) := by
                    have h := HA.out
                    rw [hs, show n - p = n - (p + k + 1) + 1 + k from by omega, step_lf f q _ p k sz ln c hno h10 HW.out.1 HW.out.2] at h
                    rw [hs]
                    exact h
                  have HBN : Hid (∀ (x y : Int) (u v : Bool), Below g w ((((wr.setCell ⟨g, 4, none⟩ (.bool u)).setCell ⟨g, 0, none⟩ (.int .i64 x)).setCell ⟨g, 1, none⟩ (.int .i64 y)).setCell ⟨g, 2, none⟩ (.bool v))) := fun x y u v =>
                    Below.setCell (p := ⟨g, 2, none⟩) (Below.setCell (p := ⟨g, 1, none⟩) (Below.setCell (p := ⟨g, 0, none⟩) (Below.setCell (p := ⟨g, 4, none⟩) HB.out (Nat.le_refl g) _) (Nat.le_refl g) _) (Nat.le_refl g) _) (Nat.le_refl g) _
                  have HFN : Hid (∀ (x y : Int) (u v : Bool), Fld g ((((wr.setCell ⟨g, 4, none⟩ (.bool u)).setCell ⟨g, 0, none⟩ (.int .i64 x)).setCell ⟨g, 1, none⟩ (.int .i64 y)).setCell ⟨g, 2, none⟩ (.bool v)) x y v s2 u) := fun x y u v =>
                    (((HFL.out.set4 u).set0 x).set1 y).set2 v
                  have HSN : Hid (p + k + 1 < n → s2 = true) := fun _ => hs
                  have HWN : Hid (wrap64 (wrap64 (sz + ((k : Int) + 1))) = wrap64 (sz + ((k : Int) + 1)) ∧ wrap64 0 = 0) := ⟨wrap_idem _, by unfold wrap64; omega⟩
                  clear h10 hno hs HS HB HFL HW HA
                  by_cases hk0 : (0 : Int) < (k : Int)
                  · have hx := HCR.out (p + k - 1) (by omega)
                    rw [show o + (p + k - 1) = o + p + (k - 1) from by omega] at hx
                    have hidx : ((k : Int) - 1).toNat = k - 1 := by omega
                    have HIF : Hid ((if k = 0 then c else f (p + k - 1) == 13) = (f (p + k - 1) == 13)) := if_neg (by omega)
                    by_cases l0 : wrap64 (ln + (k : Int)) = 0
                    · have HL : Hid (∀ C, ends (wrap64 (ln + (k : Int))) C = true) := fun C => by rw [l0]; rfl
                      go_wp2_with fail
                      go_roundw
                      case rel => exact ⟨p + k + 1, _, _, _, _, rfl, by go_num, by omega, HBN.out _ _ _ _, HFN.out _ _ _ _, HSN, by have h := HNX.out; rw [HL.out] at h; exact h, HWN⟩
                      case measure => simp [intOf]; omega
                    · by_cases l1 : wrap64 (ln + (k : Int)) = 1
                      · have HL : Hid (∀ C, ends (wrap64 (ln + (k : Int))) C = C) := fun C => by rw [l1]; rfl
                        clear l0
                        go_wp2_with fail
                        go_roundw
                        case rel => exact ⟨p + k + 1, _, _, _, _, rfl, by go_num, by omega, HBN.out _ _ _ _, HFN.out _ _ _ _, HSN, by have h := HNX.out; rw [HL.out, HIF.out] at h; exact h, HWN⟩
                        case measure => simp [intOf]; omega
                      · have l0' : (wrap64 (ln + (k : Int)) == 0) = false := by simpa using l0
                        have l1' : (wrap64 (ln + (k : Int)) == 1) = false := by simpa using l1
                        have HL : Hid (∀ C, ends (wrap64 (ln + (k : Int))) C = false) := fun C => by unfold ends; rw [l0', l1']; rfl
                        clear l0 l1
                        go_wp2_with fail
                        go_roundw
                        case rel => exact ⟨p + k + 1, _, _, _, _, rfl, by go_num, by omega, HBN.out _ _ _ _, HFN.out _ _ _ _, HSN, by have h := HNX.out; rw [HL.out] at h; exact h, HWN⟩
                        case measure => simp [intOf]; omega
                  · have HIF : Hid ((if k = 0 then c else f (p + k - 1) == 13) = c) := if_pos (by omega)
                    by_cases l0 : wrap64 (ln + (k : Int)) = 0
                    · have HL : Hid (∀ C, ends (wrap64 (ln + (k : Int))) C = true) := fun C => by rw [l0]; rfl
                      go_wp2_with fail
                      go_roundw
                      case rel => exact ⟨p + k + 1, _, _, _, _, rfl, by go_num, by omega, HBN.out _ _ _ _, HFN.out _ _ _ _, HSN, by have h := HNX.out; rw [HL.out] at h; exact h, HWN⟩
                      case measure => simp [intOf]; omega
                    · by_cases l1 : wrap64 (ln + (k : Int)) = 1
                      · have HL : Hid (∀ C, ends (wrap64 (ln + (k : Int))) C = C) := fun C => by rw [l1]; rfl
                        clear l0
                        go_wp2_with fail
                        go_roundw
                        case rel => exact ⟨p + k + 1, _, _, _, _, rfl, by go_num, by omega, HBN.out _ _ _ _, HFN.out _ _ _ _, HSN, by have h := HNX.out; rw [HL.out, HIF.out] at h; exact h, HWN⟩
                        case measure => simp [intOf]; omega
                      · have l0' : (wrap64 (ln + (k : Int)) == 0) = false := by simpa using l0
                        have l1' : (wrap64 (ln + (k : Int)) == 1) = false := by simpa using l1
                        have HL : Hid (∀ C, ends (wrap64 (ln + (k : Int))) C = false) := fun C => by unfold ends; rw [l0', l1']; rfl
                        clear l0 l1
                        go_wp2_with fail
                        go_roundw
                        case rel => exact ⟨p + k + 1, _, _, _, _, rfl, by go_num, by omega, HBN.out _ _ _ _, HFN.out _ _ _ _, HSN, by have h := HNX.out; rw [HL.out] at h; exact h, HWN⟩
                        case measure => simp [intOf]; omega
                · have hx := HCR.out (n - 1) (by omega)
                  rw [show o + (n - 1) = o + p + (n - p - 1) from by omega] at hx
                  have hidx : (((n - p : Nat) : Int) - 1).toNat = n - p - 1 := by omega
                  have hpos : (0 : Int) < ((n - p : Nat) : Int) := by omega
                  have HNO : Hid (∀ t, t < n - p → f (p + t) ≠ 10) := hno
                  clear hno
                  go_wp2_with fail
                  go_ret2
                  have hs := HS.out hpn
                  have h := HA.out
                  have hfl := HFL.out
                  rw [hs, step_end f q p (n - p) sz ln c HNO.out (by omega) HW.out.1 HW.out.2, show p + (n - p) = n from by omega] at h
                  rw [hs] at hfl
                  refine ⟨R, HR.out, by rw [← h]; rfl, ?_, ?_⟩
                  · exact Below.setCell (p := ⟨g, 2, none⟩) (Below.setCell (p := ⟨g, 1, none⟩) (Below.setCell (p := ⟨g, 0, none⟩) HB.out (Nat.le_refl g) _) (Nat.le_refl g) _) (Nat.le_refl g) _
                  · rw [← h]
                    exact ((hfl.set0 _).set1 _).set2 _
            · go_wp2_with fail
              go_ret2
              have h := HA.out
              rw [show n - p = 0 from by omega, auto] at h
              exact ⟨R, HR.out, by rw [← h]; rfl, HB.out, by rw [← h]; exact HFL.out⟩
end Go.Proofs.Qxb6605477a
