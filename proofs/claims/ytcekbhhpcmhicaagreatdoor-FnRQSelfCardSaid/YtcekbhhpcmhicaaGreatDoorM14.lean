/- The corners: separators, the three squares, the dark cell, timing; Tables of coordinates: alignment centres, format cells. Printed by etab.py; The alignment patterns; all basic patterns. -/
import Derived.Test.YtcekbhhpcmhicaaGreatDoorM09
import Derived.Test.YtcekbhhpcmhicaaGreatDoorM13
namespace Go.QW
open Go
theorem Kp.more {S : List Nat} {w w' w'' : World} (h : Kp S w w') (k : Kp S w' w'') : Kp S w w'' := h.trans k (fun _ h _ => h)
end Go.QW
namespace Go.Proofs.YtcekbhhpcmhicaaGreatDoor
open Go.RowKit Go.QW Go.QM

section
variable {w : World} {A R d : Nat} {f : Cells}
theorem isEmpty_any (v : Int) (w : World) :
    Calls Tryz.prog 168 #[.int .i8 v] w fun e w' => e = .returned (.bool (v == -1)) ∧ w = w' := by
  go_enter Tryz.func168, Tryz.ntmps168
  go_wp2
  go_ret
  exact ⟨rfl, rfl⟩
set_option maxHeartbeats 4000000 in
set_option maxRecDepth 100000 in
theorem hsep_any (xn yn : Nat) {x y : Int} (h : Mat w A R d f) (hx : x = xn) (hy : y = yn) (hxd : xn + 8 ≤ d) (hyd : yn < d) (he : ∀ j, j < 8 → f yn (xn + j) = -1) :
    Calls Tryz.prog 200 #[.int .i64 x, .int .i64 y, .pointer (some ⟨A, 0, none⟩)] w fun e w' => e = .returned .nilIface ∧ Mat w' A R d (hl 8 yn xn 0 f) ∧ Kp (rowsOf R d) w w' := by
  subst hx hy
  have hd := h.le
  have HE := Lib.hid he
  clear he
  go_enter Tryz.func200, Tryz.ntmps200
  go_wp2_with fail
  go_loopw [7] (fun t7 wr => ∃ k : Nat, k ≤ 8 ∧ t7 = .int .i64 k ∧ Mat wr A R d (hl k yn xn 0 f) ∧ Kp (rowsOf R d) w wr) (fun t7 _ => 8 - (intOf t7).toNat)
  case atStart => exact ⟨0, by omega, rfl, h.congr (fun y x _ _ => hl_zero _ _ _ _ _ _), Kp.refl _ _⟩
  case round =>
    obtain ⟨k, hk, rfl, hM, hkp⟩ := hrel
    by_cases hlt : k < 8
    · have hemp : (hl k yn xn 0 f yn (xn + k) == -1) = true := by
        unfold hl
        rw [if_neg (by omega), HE.out k hlt]; rfl
      go_wp2_with fail
      refine (mget_any (xn + k) yn hM (by omega) rfl (by omega) (by omega)).mono ?_
      rintro e w1 ⟨rfl, rfl⟩
      go_wp2_with fail
      refine (isEmpty_any _ _).mono ?_
      rintro e w1 ⟨rfl, rfl⟩
      rw [hemp]
      clear hemp
      go_wp2_with fail
      refine (mset_any (xn + k) yn _ hM (by omega) (by omega) (by omega) (by omega) (by omega)).mono ?_
      rintro e w3 ⟨rfl, hM3, hk3⟩
      go_wp2_with fail
      go_roundw
      case rel => exact ⟨k + 1, by omega, by go_num, hM3.congr (fun y x _ _ => hl_put _ _ _ _ _ y x), hkp.trans hk3 (fun _ h _ => h)⟩
      case measure => simp [intOf]; omega
    · have hke : k = 8 := by omega
      subst hke
      go_wp2_with fail
      go_ret
      exact ⟨rfl, hM, hkp⟩
set_option maxHeartbeats 4000000 in
set_option maxRecDepth 100000 in
theorem vsep_any (xn yn : Nat) {x y : Int} (h : Mat w A R d f) (hx : x = xn) (hy : y = yn) (hxd : xn < d) (hyd : yn + 7 ≤ d) (he : ∀ j, j < 7 → f (yn + j) xn = -1) :
    Calls Tryz.prog 201 #[.int .i64 x, .int .i64 y, .pointer (some ⟨A, 0, none⟩)] w fun e w' => e = .returned .nilIface ∧ Mat w' A R d (vl 7 yn xn 0 f) ∧ Kp (rowsOf R d) w w' := by
  subst hx hy
  have hd := h.le
  have HE := Lib.hid he
  clear he
  go_enter Tryz.func201, Tryz.ntmps201
  go_wp2_with fail
  go_loopw [7] (fun t7 wr => ∃ k : Nat, k ≤ 7 ∧ t7 = .int .i64 k ∧ Mat wr A R d (vl k yn xn 0 f) ∧ Kp (rowsOf R d) w wr) (fun t7 _ => 7 - (intOf t7).toNat)
  case atStart => exact ⟨0, by omega, rfl, h.congr (fun y x _ _ => vl_zero _ _ _ _ _ _), Kp.refl _ _⟩
  case round =>
    obtain ⟨k, hk, rfl, hM, hkp⟩ := hrel
    by_cases hlt : k < 7
    · have hemp : (vl k yn xn 0 f (yn + k) xn == -1) = true := by
        unfold vl
        rw [if_neg (by omega), HE.out k hlt]; rfl
      go_wp2_with fail
      refine (mget_any xn (yn + k) hM rfl (by omega) (by omega) (by omega)).mono ?_
      rintro e w1 ⟨rfl, rfl⟩
      go_wp2_with fail
      refine (isEmpty_any _ _).mono ?_
      rintro e w1 ⟨rfl, rfl⟩
      rw [hemp]
      clear hemp
      go_wp2_with fail
      refine (mset_any xn (yn + k) _ hM (by omega) (by omega) (by omega) (by omega) (by omega)).mono ?_
      rintro e w3 ⟨rfl, hM3, hk3⟩
      go_wp2_with fail
      go_roundw
      case rel => exact ⟨k + 1, by omega, by go_num, hM3.congr (fun y x _ _ => vl_put _ _ _ _ _ y x), hkp.trans hk3 (fun _ h _ => h)⟩
      case measure => simp [intOf]; omega
    · have hke : k = 7 := by omega
      subst hke
      go_wp2_with fail
      go_ret
      exact ⟨rfl, hM, hkp⟩
set_option maxHeartbeats 4000000 in
set_option maxRecDepth 100000 in
theorem corners_any (h : Mat w A R d f) (hd : 21 ≤ d) (he : ∀ y x, f y x = -1) :
    Calls Tryz.prog 160 #[.pointer (some ⟨A, 0, none⟩)] w fun e w' => e = .returned .nilIface ∧ Mat w' A R d (c8 d f) ∧ Kp (rowsOf R d) w w' := by
  have hd2 := h.le
  have HE := Lib.hid he
  clear he
  go_enter Tryz.func160, Tryz.ntmps160
  go_wp2_with fail
  refine (pdptab_any w).mono ?_
  rintro e w1 ⟨b, rfl, hT, hb1⟩
  obtain ⟨g, hgB, c0, hbl, hg⟩ := hT 0 (by omega)
  clear hT hg hgB
  have h1 := h.below hb1
  have k1 : Kp (rowsOf R d) w w1 := Kp.of_below hb1
  go_wp2_with fail
  refine (embPdp_any 0 0 h1 rfl rfl (by omega) (by omega)).mono ?_
  rintro e w2 ⟨rfl, h2, k2⟩
  go_wp2_with fail
  refine (mw_any h2).mono ?_
  rintro e w2' ⟨rfl, rfl⟩
  go_wp2_with fail
  refine (embPdp_any (d - 7) 0 h2 (by omega) rfl (by omega) (by omega)).mono ?_
  rintro e w3 ⟨rfl, h3, k3⟩
  go_wp2_with fail
  refine (mw_any h3).mono ?_
  rintro e w2' ⟨rfl, rfl⟩
  go_wp2_with fail
  refine (embPdp_any 0 (d - 7) h3 rfl (by omega) (by omega) (by omega)).mono ?_
  rintro e w4 ⟨rfl, h4, k4⟩
  go_wp2_with fail
  refine (hsep_any 0 7 h4 rfl rfl (by omega) (by omega) (by intro j hj; unfold sq; (repeat rw [if_neg (by omega)]); exact HE.out _ _)).mono ?_
  rintro e w5 ⟨rfl, h5, k5⟩
  go_wp2_with fail
  refine (mw_any h5).mono ?_
  rintro e w2' ⟨rfl, rfl⟩
  go_wp2_with fail
  refine (hsep_any (d - 8) 7 h5 (by omega) rfl (by omega) (by omega) (by intro j hj; unfold hl sq; (repeat rw [if_neg (by omega)]); exact HE.out _ _)).mono ?_
  rintro e w6 ⟨rfl, h6, k6⟩
  go_wp2_with fail
  refine (mw_any h6).mono ?_
  rintro e w2' ⟨rfl, rfl⟩
  go_wp2_with fail
  refine (hsep_any 0 (d - 8) h6 rfl (by omega) (by omega) (by omega) (by intro j hj; unfold hl sq; (repeat rw [if_neg (by omega)]); exact HE.out _ _)).mono ?_
  rintro e w7 ⟨rfl, h7, k7⟩
  go_wp2_with fail
  refine (vsep_any 7 0 h7 rfl rfl (by omega) (by omega) (by intro j hj; unfold hl sq; (repeat rw [if_neg (by omega)]); exact HE.out _ _)).mono ?_
  rintro e w8 ⟨rfl, h8, k8⟩
  go_wp2_with fail
  refine (mh_any h8).mono ?_
  rintro e w2' ⟨rfl, rfl⟩
  go_wp2_with fail
  refine (vsep_any (d - 8) 0 h8 (by omega) rfl (by omega) (by omega) (by intro j hj; unfold vl hl sq; (repeat rw [if_neg (by omega)]); exact HE.out _ _)).mono ?_
  rintro e w9 ⟨rfl, h9, k9⟩
  go_wp2_with fail
  refine (mh_any h9).mono ?_
  rintro e w2' ⟨rfl, rfl⟩
  go_wp2_with fail
  refine (vsep_any 7 (d - 7) h9 rfl (by omega) (by omega) (by omega) (by intro j hj; unfold vl hl sq; (repeat rw [if_neg (by omega)]); exact HE.out _ _)).mono ?_
  rintro e w10 ⟨rfl, h10, k10⟩
  go_wp2_with fail
  go_ret
  exact ⟨rfl, h10, ((((((((((k1.more k2).more k3).more k4).more k5).more k6).more k7).more k8).more k9).more k10))⟩
set_option maxHeartbeats 4000000 in
set_option maxRecDepth 100000 in
theorem dark_any (h : Mat w A R d f) (hd : 21 ≤ d) (hne : f (d - 8) 8 ≠ 0) :
    Calls Tryz.prog 161 #[.pointer (some ⟨A, 0, none⟩)] w fun e w' => e = .returned .nilIface ∧ Mat w' A R d (upd f (d - 8) 8 1) ∧ Kp (rowsOf R d) w w' := by
  have hd2 := h.le
  have he : (f (d - 8) 8 == 0) = false := by rw [beq_eq_false_iff_ne]; exact hne
  clear hne
  go_enter Tryz.func161, Tryz.ntmps161
  go_wp2_with fail
  refine (mh_any h).mono ?_
  rintro e w2' ⟨rfl, rfl⟩
  go_wp2_with fail
  refine (mget_any 8 (d - 8) h rfl (by omega) (by omega) (by omega)).mono ?_
  rintro e w2' ⟨rfl, rfl⟩
  go_wp2_with fail
  refine (mh_any h).mono ?_
  rintro e w2' ⟨rfl, rfl⟩
  go_wp2_with fail
  refine (mset_any 8 (d - 8) _ h (by omega) rfl (by omega) (by omega) (by omega)).mono ?_
  rintro e w3 ⟨rfl, h3, k3⟩
  go_wp2_with fail
  go_ret
  exact ⟨rfl, h3, k3⟩
/-- g is f with the empty ones of the cells P filled -/
structure Fills (d : Nat) (P : Nat → Nat → Prop) (f g : Cells) : Prop where
  emp : ∀ y x, y < d → x < d → (g y x = -1 ↔ f y x = -1 ∧ ¬ P y x)
  old : ∀ y x, f y x ≠ -1 → g y x = f y x
theorem Fills.step {d : Nat} {P : Nat → Nat → Prop} {f g : Cells} (h : Fills d P f g) (y x : Nat) (v : Int) (hv : 0 ≤ v) (hg : g y x = -1) : Fills d (fun Y X => P Y X ∨ (Y = y ∧ X = x)) f (upd g y x v) := by
  refine ⟨fun Y X hY hX => ?_, fun Y X hf => ?_⟩
  · unfold upd
    by_cases e : Y = y ∧ X = x
    · rw [if_pos e]
      exact ⟨fun h => by omega, fun h => absurd (Or.inr e) h.2⟩
    · rw [if_neg e, h.emp Y X hY hX]
      exact ⟨fun h => ⟨h.1, fun o => o.elim h.2 e⟩, fun h => ⟨h.1, fun o => h.2 (.inl o)⟩⟩
  · unfold upd
    by_cases e : Y = y ∧ X = x
    · obtain ⟨rfl, rfl⟩ := e
      rw [h.old _ _ hf] at hg
      exact absurd hg hf
    · rw [if_neg e, h.old Y X hf]
theorem Fills.skip {d : Nat} {P : Nat → Nat → Prop} {f g : Cells} (h : Fills d P f g) (y x : Nat) (hg : ¬ g y x = -1) : Fills d (fun Y X => P Y X ∨ (Y = y ∧ X = x)) f g := by
  refine ⟨fun Y X hY hX => ?_, h.old⟩
  rw [h.emp Y X hY hX]
  constructor
  · rintro ⟨h1, h2⟩
    refine ⟨h1, fun o => o.elim h2 ?_⟩
    rintro ⟨rfl, rfl⟩
    exact hg ((h.emp _ _ hY hX).2 ⟨h1, h2⟩)
  · rintro ⟨h1, h2⟩
    exact ⟨h1, fun o => h2 (.inl o)⟩
theorem Fills.same {d : Nat} {P Q : Nat → Nat → Prop} {f g : Cells} (h : Fills d P f g) (e : ∀ y x, y < d → x < d → (P y x ↔ Q y x)) : Fills d Q f g :=
  ⟨fun y x hy hx => by rw [h.emp y x hy hx, e y x hy hx], h.old⟩
def timK (k y x : Nat) : Prop := (y = 6 ∧ 8 ≤ x ∧ x < 8 + k) ∨ (x = 6 ∧ 8 ≤ y ∧ y < 8 + k)
set_option maxHeartbeats 4000000 in
set_option maxRecDepth 100000 in
theorem timing_any (h : Mat w A R d f) (hd : 21 ≤ d) :
    Calls Tryz.prog 163 #[.pointer (some ⟨A, 0, none⟩)] w fun e w' => ∃ g, e = .returned (.tuple #[]) ∧ Mat w' A R d g ∧ Fills d (tim d) f g ∧ Kp (rowsOf R d) w w' := by
  have hd2 := h.le
  go_enter Tryz.func163, Tryz.ntmps163
  go_wp2_with fail
  go_loopw [2, 3] (fun t2 _ wr => ∃ (k : Nat) (g : Cells), k ≤ d - 16 ∧ t2 = .int .i64 (8 + k : Nat) ∧ Mat wr A R d g ∧ Fills d (timK k) f g ∧ Kp (rowsOf R d) w wr) (fun t2 _ _ => d - (intOf t2).toNat)
  case atStart => exact ⟨0, f, by omega, rfl, h, ⟨fun y x _ _ => ⟨fun e => ⟨e, by unfold timK; omega⟩, fun e => e.1⟩, fun _ _ _ => rfl⟩, Kp.refl _ _⟩
  case round =>
    obtain ⟨k, g, hk, rfl, hM, hF, hkp⟩ := hrel
    by_cases hlt : k < d - 16
    · obtain ⟨n, hn⟩ : ∃ n, n = 8 + k := ⟨_, rfl⟩
      rw [← hn]
      have hn1 : n < d := by omega
      have hn2 : 8 ≤ n := by omega
      have hdec : decide ((n : Int) < (d : Int) - 8) = true := by simp; omega
      have hmod : Int.tmod ((n : Int) + 1) 2 = (((n + 1) % 2 : Nat) : Int) := by rw [Int.tmod_eq_emod_of_nonneg (by omega)]; omega
      have HN := Lib.hid hn
      clear hn
      have hb : 0 ≤ (((n + 1) % 2 : Nat) : Int) ∧ (((n + 1) % 2 : Nat) : Int) ≤ 1 := by omega
      go_wp2_with fail
      refine (mw_any hM).mono ?_
      rintro e w2' ⟨rfl, rfl⟩
      go_wp2_with fail
      refine (mget_any n 6 hM rfl rfl (by omega) (by omega)).mono ?_
      rintro e w2' ⟨rfl, rfl⟩
      go_wp2_with fail
      refine (isEmpty_any _ _).mono ?_
      rintro e w1 ⟨rfl, rfl⟩
      by_cases e1 : g 6 n = -1
      · have b1 : (g 6 n == -1) = true := by rw [e1]; rfl
        have HF1 := hF.step 6 n (((n : Int) + 1) % 2) (by omega) e1
        rw [b1]
        clear b1 e1
        go_wp2_with fail
        refine (mset_any n 6 _ hM (by omega) rfl rfl (by omega) (by omega)).mono ?_
        rintro e w3 ⟨rfl, HM1, hk1⟩
        have KK := hkp.more hk1
        obtain ⟨G1, hG⟩ : ∃ G1, G1 = upd g 6 n (((n : Int) + 1) % 2) := ⟨_, rfl⟩
        rw [← hG] at HM1 HF1
        clear hG
        by_cases e2 : G1 n 6 = -1
        · have b2 : (G1 n 6 == -1) = true := by rw [e2]; rfl
          have HF2 := HF1.step n 6 (((n : Int) + 1) % 2) (by omega) e2
          clear e2
          go_wp2_with fail
          refine (mget_any 6 n HM1 rfl rfl (by omega) (by omega)).mono ?_
          rintro e w2' ⟨rfl, rfl⟩
          go_wp2_with fail
          refine (isEmpty_any _ _).mono ?_
          rintro e w1 ⟨rfl, rfl⟩
          rw [b2]
          clear b2
          go_wp2_with fail
          refine (mset_any 6 n _ HM1 (by omega) rfl rfl (by omega) (by omega)).mono ?_
          rintro e w3 ⟨rfl, hM3, hk3⟩
          go_wp2_with fail
          go_roundw
          case rel =>
            refine ⟨k + 1, _, by omega, ?_, hM3, HF2.same (fun y x _ _ => by have := HN.out; unfold timK; omega), KK.more hk3⟩
            have := HN.out
            rw [this]; go_num
          case measure => simp [intOf]; omega
        · have b2 : (G1 n 6 == -1) = false := by rw [beq_eq_false_iff_ne]; exact e2
          have HF2 := HF1.skip n 6 e2
          clear e2
          go_wp2_with fail
          refine (mget_any 6 n HM1 rfl rfl (by omega) (by omega)).mono ?_
          rintro e w2' ⟨rfl, rfl⟩
          go_wp2_with fail
          refine (isEmpty_any _ _).mono ?_
          rintro e w1 ⟨rfl, rfl⟩
          rw [b2]
          clear b2
          go_wp2_with fail
          go_roundw
          case rel =>
            refine ⟨k + 1, _, by omega, ?_, HM1, HF2.same (fun y x _ _ => by have := HN.out; unfold timK; omega), KK⟩
            have := HN.out
            rw [this]; go_num
          case measure => simp [intOf]; omega
      · have b1 : (g 6 n == -1) = false := by rw [beq_eq_false_iff_ne]; exact e1
        have HF1 := hF.skip 6 n e1
        have HM1 := hM
        have KK := hkp
        obtain ⟨G1, hG⟩ : ∃ G1, G1 = g := ⟨_, rfl⟩
        rw [b1]
        rw [← hG] at HM1 HF1
        clear b1 e1 hG
        by_cases e2 : G1 n 6 = -1
        · have b2 : (G1 n 6 == -1) = true := by rw [e2]; rfl
          have HF2 := HF1.step n 6 (((n : Int) + 1) % 2) (by omega) e2
          clear e2
          go_wp2_with fail
          refine (mget_any 6 n HM1 rfl rfl (by omega) (by omega)).mono ?_
          rintro e w2' ⟨rfl, rfl⟩
          go_wp2_with fail
          refine (isEmpty_any _ _).mono ?_
          rintro e w1 ⟨rfl, rfl⟩
          rw [b2]
          clear b2
          go_wp2_with fail
          refine (mset_any 6 n _ HM1 (by omega) rfl rfl (by omega) (by omega)).mono ?_
          rintro e w3 ⟨rfl, hM3, hk3⟩
          go_wp2_with fail
          go_roundw
          case rel =>
            refine ⟨k + 1, _, by omega, ?_, hM3, HF2.same (fun y x _ _ => by have := HN.out; unfold timK; omega), KK.more hk3⟩
            have := HN.out
            rw [this]; go_num
          case measure => simp [intOf]; omega
        · have b2 : (G1 n 6 == -1) = false := by rw [beq_eq_false_iff_ne]; exact e2
          have HF2 := HF1.skip n 6 e2
          clear e2
          go_wp2_with fail
          refine (mget_any 6 n HM1 rfl rfl (by omega) (by omega)).mono ?_
          rintro e w2' ⟨rfl, rfl⟩
          go_wp2_with fail
          refine (isEmpty_any _ _).mono ?_
          rintro e w1 ⟨rfl, rfl⟩
          rw [b2]
          clear b2
          go_wp2_with fail
          go_roundw
          case rel =>
            refine ⟨k + 1, _, by omega, ?_, HM1, HF2.same (fun y x _ _ => by have := HN.out; unfold timK; omega), KK⟩
            have := HN.out
            rw [this]; go_num
          case measure => simp [intOf]; omega
    · have hke : k = d - 16 := by omega
      subst hke
      have hdec : decide (((8 + (d - 16) : Nat) : Int) < (d : Int) - 8) = false := by simp; omega
      go_wp2_with fail
      refine (mw_any hM).mono ?_
      rintro e w2' ⟨rfl, rfl⟩
      go_wp2_with fail
      go_end0
      exact ⟨g, rfl, hM, hF.same (fun y x _ _ => by unfold timK tim; omega), hkp⟩
end
end Go.Proofs.YtcekbhhpcmhicaaGreatDoor
namespace Go.Proofs.YtcekbhhpcmhicaaGreatDoor
open Go.RowKit Go.QW Go.QM Go.QV

/-- n rows of m values: block b holds the rows' slices -/
def TabG (w : World) (B b n m : Nat) (r : Nat → Array Value) : Prop := ∀ y, y < n → ∃ g, B ≤ g ∧ w.cell? ⟨b, y, none⟩ = some (.slice (some ⟨g, 0, none⟩) m m) ∧ b < w.heap.size ∧ Blk w g 3 (r y)
def tabObjsG (B n m : Nat) (r : Nat → Array Value) : List Obj := (List.range n).map (fun y => Obj.cells (r y) 3) ++ [.cells ((List.range n).map fun y => Value.slice (some ⟨B + y, 0, none⟩) m m).toArray 138]
theorem tabG_fin (w : World) (n m : Nat) (r : Nat → Array Value) : TabG ((tabObjsG w.heap.size n m r).foldl World.alloc w) w.heap.size (w.heap.size + n) n m r := by
  intro y hy
  have hb := allocs_blk (tabObjsG w.heap.size n m r) w n _ 138 (by
    unfold tabObjsG
    rw [List.getElem?_append_right (by simp)]
    simp only [List.length_map, List.length_range, Nat.sub_self, List.getElem?_cons_zero]
    rfl)
  refine ⟨w.heap.size + y, by omega, ?_, hb.lt, ?_⟩
  · rw [hb.cell, List.getElem?_toArray, List.getElem?_map, List.getElem?_range hy]; rfl
  · refine allocs_blk (tabObjsG w.heap.size n m r) w y _ 3 ?_
    unfold tabObjsG
    rw [List.getElem?_append_left (by simpa using hy), List.getElem?_map, List.getElem?_range hy]; rfl
/-- the j-th centre of version v, -1 behind the last one -/
def coord (v j : Nat) : Int := if j < (aligns v).length then ((nth (aligns v) j : Nat) : Int) else -1
def coordRow (y : Nat) : Array Value := ((List.range 7).map fun j => Value.int .i64 (coord (y + 1) j)).toArray
theorem coordRow_get (y j : Nat) (h : j < 7) : (coordRow y)[j]? = some (.int .i64 (coord (y + 1) j)) := by
  unfold coordRow
  rw [List.getElem?_toArray, List.getElem?_map, List.getElem?_range h]; rfl
def tiRow (i : Nat) : Array Value := #[.int .i64 (tx i : Nat), .int .i64 (ty i : Nat)]
set_option maxHeartbeats 8000000 in
set_option maxRecDepth 100000 in
theorem titab_any (w : World) :
    Calls Tryz.prog 165 #[] w fun e w' => ∃ b, e = .returned (.slice (some ⟨b, 0, none⟩) 15 15) ∧ TabG w' w.heap.size b 15 2 tiRow ∧ Below w.heap.size w w' := by
  have key := tabG_fin w 15 2 tiRow
  have keyb := allocs_below (tabObjsG w.heap.size 15 2 tiRow) w
  have ho : tabObjsG w.heap.size 15 2 tiRow = [.cells #[.int .i64 8, .int .i64 0] 3,
      .cells #[.int .i64 8, .int .i64 1] 3,
      .cells #[.int .i64 8, .int .i64 2] 3,
      .cells #[.int .i64 8, .int .i64 3] 3,
      .cells #[.int .i64 8, .int .i64 4] 3,
      .cells #[.int .i64 8, .int .i64 5] 3,
      .cells #[.int .i64 8, .int .i64 7] 3,
      .cells #[.int .i64 8, .int .i64 8] 3,
      .cells #[.int .i64 7, .int .i64 8] 3,
      .cells #[.int .i64 5, .int .i64 8] 3,
      .cells #[.int .i64 4, .int .i64 8] 3,
      .cells #[.int .i64 3, .int .i64 8] 3,
      .cells #[.int .i64 2, .int .i64 8] 3,
      .cells #[.int .i64 1, .int .i64 8] 3,
      .cells #[.int .i64 0, .int .i64 8] 3,
      .cells #[.slice (some ⟨w.heap.size, 0, none⟩) 2 2, .slice (some ⟨w.heap.size + 1, 0, none⟩) 2 2, .slice (some ⟨w.heap.size + 1 + 1, 0, none⟩) 2 2, .slice (some ⟨w.heap.size + 1 + 1 + 1, 0, none⟩) 2 2, .slice (some ⟨w.heap.size + 1 + 1 + 1 + 1, 0, none⟩) 2 2, .slice (some ⟨w.heap.size + 1 + 1 + 1 + 1 + 1, 0, none⟩) 2 2, .slice (some ⟨w.heap.size + 1 + 1 + 1 + 1 + 1 + 1, 0, none⟩) 2 2, .slice (some ⟨w.heap.size + 1 + 1 + 1 + 1 + 1 + 1 + 1, 0, none⟩) 2 2, .slice (some ⟨w.heap.size + 1 + 1 + 1 + 1 + 1 + 1 + 1 + 1, 0, none⟩) 2 2, .slice (some ⟨w.heap.size + 1 + 1 + 1 + 1 + 1 + 1 + 1 + 1 + 1, 0, none⟩) 2 2, .slice (some ⟨w.heap.size + 1 + 1 + 1 + 1 + 1 + 1 + 1 + 1 + 1 + 1, 0, none⟩) 2 2, .slice (some ⟨w.heap.size + 1 + 1 + 1 + 1 + 1 + 1 + 1 + 1 + 1 + 1 + 1, 0, none⟩) 2 2, .slice (some ⟨w.heap.size + 1 + 1 + 1 + 1 + 1 + 1 + 1 + 1 + 1 + 1 + 1 + 1, 0, none⟩) 2 2, .slice (some ⟨w.heap.size + 1 + 1 + 1 + 1 + 1 + 1 + 1 + 1 + 1 + 1 + 1 + 1 + 1, 0, none⟩) 2 2, .slice (some ⟨w.heap.size + 1 + 1 + 1 + 1 + 1 + 1 + 1 + 1 + 1 + 1 + 1 + 1 + 1 + 1, 0, none⟩) 2 2] 138] := by kernel_rfl
  rw [ho] at key keyb
  simp only [List.foldl_cons, List.foldl_nil] at key keyb
  have K := Lib.hid key
  have KB := Lib.hid keyb
  clear key keyb ho
  go_enter Tryz.func165, Tryz.ntmps165
  go_wp2
  go_ret
  exact ⟨w.heap.size + 15, rfl, K.out, KB.out⟩
set_option maxHeartbeats 8000000 in
set_option maxRecDepth 100000 in
theorem coordtab_any (w : World) :
    Calls Tryz.prog 203 #[] w fun e w' => ∃ b, e = .returned (.slice (some ⟨b, 0, none⟩) 40 40) ∧ TabG w' w.heap.size b 40 7 coordRow ∧ Below w.heap.size w w' := by
  have key := tabG_fin w 40 7 coordRow
  have keyb := allocs_below (tabObjsG w.heap.size 40 7 coordRow) w
  have ho : tabObjsG w.heap.size 40 7 coordRow = [.cells #[.int .i64 (-1), .int .i64 (-1), .int .i64 (-1), .int .i64 (-1), .int .i64 (-1), .int .i64 (-1), .int .i64 (-1)] 3,
      .cells #[.int .i64 6, .int .i64 18, .int .i64 (-1), .int .i64 (-1), .int .i64 (-1), .int .i64 (-1), .int .i64 (-1)] 3,
      .cells #[.int .i64 6, .int .i64 22, .int .i64 (-1), .int .i64 (-1), .int .i64 (-1), .int .i64 (-1), .int .i64 (-1)] 3,
      .cells #[.int .i64 6, .int .i64 26, .int .i64 (-1), .int .i64 (-1), .int .i64 (-1), .int .i64 (-1), .int .i64 (-1)] 3,
      .cells #[.int .i64 6, .int .i64 30, .int .i64 (-1), .int .i64 (-1), .int .i64 (-1), .int .i64 (-1), .int .i64 (-1)] 3,
      .cells #[.int .i64 6, .int .i64 34, .int .i64 (-1), .int .i64 (-1), .int .i64 (-1), .int .i64 (-1), .int .i64 (-1)] 3,
      .cells #[.int .i64 6, .int .i64 22, .int .i64 38, .int .i64 (-1), .int .i64 (-1), .int .i64 (-1), .int .i64 (-1)] 3,
      .cells #[.int .i64 6, .int .i64 24, .int .i64 42, .int .i64 (-1), .int .i64 (-1), .int .i64 (-1), .int .i64 (-1)] 3,
      .cells #[.int .i64 6, .int .i64 26, .int .i64 46, .int .i64 (-1), .int .i64 (-1), .int .i64 (-1), .int .i64 (-1)] 3,
      .cells #[.int .i64 6, .int .i64 28, .int .i64 50, .int .i64 (-1), .int .i64 (-1), .int .i64 (-1), .int .i64 (-1)] 3,
      .cells #[.int .i64 6, .int .i64 30, .int .i64 54, .int .i64 (-1), .int .i64 (-1), .int .i64 (-1), .int .i64 (-1)] 3,
      .cells #[.int .i64 6, .int .i64 32, .int .i64 58, .int .i64 (-1), .int .i64 (-1), .int .i64 (-1), .int .i64 (-1)] 3,
      .cells #[.int .i64 6, .int .i64 34, .int .i64 62, .int .i64 (-1), .int .i64 (-1), .int .i64 (-1), .int .i64 (-1)] 3,
      .cells #[.int .i64 6, .int .i64 26, .int .i64 46, .int .i64 66, .int .i64 (-1), .int .i64 (-1), .int .i64 (-1)] 3,
      .cells #[.int .i64 6, .int .i64 26, .int .i64 48, .int .i64 70, .int .i64 (-1), .int .i64 (-1), .int .i64 (-1)] 3,
      .cells #[.int .i64 6, .int .i64 26, .int .i64 50, .int .i64 74, .int .i64 (-1), .int .i64 (-1), .int .i64 (-1)] 3,
      .cells #[.int .i64 6, .int .i64 30, .int .i64 54, .int .i64 78, .int .i64 (-1), .int .i64 (-1), .int .i64 (-1)] 3,
      .cells #[.int .i64 6, .int .i64 30, .int .i64 56, .int .i64 82, .int .i64 (-1), .int .i64 (-1), .int .i64 (-1)] 3,
      .cells #[.int .i64 6, .int .i64 30, .int .i64 58, .int .i64 86, .int .i64 (-1), .int .i64 (-1), .int .i64 (-1)] 3,
      .cells #[.int .i64 6, .int .i64 34, .int .i64 62, .int .i64 90, .int .i64 (-1), .int .i64 (-1), .int .i64 (-1)] 3,
      .cells #[.int .i64 6, .int .i64 28, .int .i64 50, .int .i64 72, .int .i64 94, .int .i64 (-1), .int .i64 (-1)] 3,
      .cells #[.int .i64 6, .int .i64 26, .int .i64 50, .int .i64 74, .int .i64 98, .int .i64 (-1), .int .i64 (-1)] 3,
      .cells #[.int .i64 6, .int .i64 30, .int .i64 54, .int .i64 78, .int .i64 102, .int .i64 (-1), .int .i64 (-1)] 3,
      .cells #[.int .i64 6, .int .i64 28, .int .i64 54, .int .i64 80, .int .i64 106, .int .i64 (-1), .int .i64 (-1)] 3,
      .cells #[.int .i64 6, .int .i64 32, .int .i64 58, .int .i64 84, .int .i64 110, .int .i64 (-1), .int .i64 (-1)] 3,
      .cells #[.int .i64 6, .int .i64 30, .int .i64 58, .int .i64 86, .int .i64 114, .int .i64 (-1), .int .i64 (-1)] 3,
      .cells #[.int .i64 6, .int .i64 34, .int .i64 62, .int .i64 90, .int .i64 118, .int .i64 (-1), .int .i64 (-1)] 3,
      .cells #[.int .i64 6, .int .i64 26, .int .i64 50, .int .i64 74, .int .i64 98, .int .i64 122, .int .i64 (-1)] 3,
      .cells #[.int .i64 6, .int .i64 30, .int .i64 54, .int .i64 78, .int .i64 102, .int .i64 126, .int .i64 (-1)] 3,
      .cells #[.int .i64 6, .int .i64 26, .int .i64 52, .int .i64 78, .int .i64 104, .int .i64 130, .int .i64 (-1)] 3,
      .cells #[.int .i64 6, .int .i64 30, .int .i64 56, .int .i64 82, .int .i64 108, .int .i64 134, .int .i64 (-1)] 3,
      .cells #[.int .i64 6, .int .i64 34, .int .i64 60, .int .i64 86, .int .i64 112, .int .i64 138, .int .i64 (-1)] 3,
      .cells #[.int .i64 6, .int .i64 30, .int .i64 58, .int .i64 86, .int .i64 114, .int .i64 142, .int .i64 (-1)] 3,
      .cells #[.int .i64 6, .int .i64 34, .int .i64 62, .int .i64 90, .int .i64 118, .int .i64 146, .int .i64 (-1)] 3,
      .cells #[.int .i64 6, .int .i64 30, .int .i64 54, .int .i64 78, .int .i64 102, .int .i64 126, .int .i64 150] 3,
      .cells #[.int .i64 6, .int .i64 24, .int .i64 50, .int .i64 76, .int .i64 102, .int .i64 128, .int .i64 154] 3,
      .cells #[.int .i64 6, .int .i64 28, .int .i64 54, .int .i64 80, .int .i64 106, .int .i64 132, .int .i64 158] 3,
      .cells #[.int .i64 6, .int .i64 32, .int .i64 58, .int .i64 84, .int .i64 110, .int .i64 136, .int .i64 162] 3,
      .cells #[.int .i64 6, .int .i64 26, .int .i64 54, .int .i64 82, .int .i64 110, .int .i64 138, .int .i64 166] 3,
      .cells #[.int .i64 6, .int .i64 30, .int .i64 58, .int .i64 86, .int .i64 114, .int .i64 142, .int .i64 170] 3,
      .cells #[.slice (some ⟨w.heap.size, 0, none⟩) 7 7, .slice (some ⟨w.heap.size + 1, 0, none⟩) 7 7, .slice (some ⟨w.heap.size + 1 + 1, 0, none⟩) 7 7, .slice (some ⟨w.heap.size + 1 + 1 + 1, 0, none⟩) 7 7, .slice (some ⟨w.heap.size + 1 + 1 + 1 + 1, 0, none⟩) 7 7, .slice (some ⟨w.heap.size + 1 + 1 + 1 + 1 + 1, 0, none⟩) 7 7, .slice (some ⟨w.heap.size + 1 + 1 + 1 + 1 + 1 + 1, 0, none⟩) 7 7, .slice (some ⟨w.heap.size + 1 + 1 + 1 + 1 + 1 + 1 + 1, 0, none⟩) 7 7, .slice (some ⟨w.heap.size + 1 + 1 + 1 + 1 + 1 + 1 + 1 + 1, 0, none⟩) 7 7, .slice (some ⟨w.heap.size + 1 + 1 + 1 + 1 + 1 + 1 + 1 + 1 + 1, 0, none⟩) 7 7, .slice (some ⟨w.heap.size + 1 + 1 + 1 + 1 + 1 + 1 + 1 + 1 + 1 + 1, 0, none⟩) 7 7, .slice (some ⟨w.heap.size + 1 + 1 + 1 + 1 + 1 + 1 + 1 + 1 + 1 + 1 + 1, 0, none⟩) 7 7, .slice (some ⟨w.heap.size + 1 + 1 + 1 + 1 + 1 + 1 + 1 + 1 + 1 + 1 + 1 + 1, 0, none⟩) 7 7, .slice (some ⟨w.heap.size + 1 + 1 + 1 + 1 + 1 + 1 + 1 + 1 + 1 + 1 + 1 + 1 + 1, 0, none⟩) 7 7, .slice (some ⟨w.heap.size + 1 + 1 + 1 + 1 + 1 + 1 + 1 + 1 + 1 + 1 + 1 + 1 + 1 + 1, 0, none⟩) 7 7, .slice (some ⟨w.heap.size + 1 + 1 + 1 + 1 + 1 + 1 + 1 + 1 + 1 + 1 + 1 + 1 + 1 + 1 + 1, 0, none⟩) 7 7, .slice (some ⟨w.heap.size + 1 + 1 + 1 + 1 + 1 + 1 + 1 + 1 + 1 + 1 + 1 + 1 + 1 + 1 + 1 + 1, 0, none⟩) 7 7, .slice (some ⟨w.heap.size + 1 + 1 + 1 + 1 + 1 + 1 + 1 + 1 + 1 + 1 + 1 + 1 + 1 + 1 + 1 + 1 + 1, 0, none⟩) 7 7, .slice (some ⟨w.heap.size + 1 + 1 + 1 + 1 + 1 + 1 + 1 + 1 + 1 + 1 + 1 + 1 + 1 + 1 + 1 + 1 + 1 + 1, 0, none⟩) 7 7, .slice (some ⟨w.heap.size + 1 + 1 + 1 + 1 + 1 + 1 + 1 + 1 + 1 + 1 + 1 + 1 + 1 + 1 + 1 + 1 + 1 + 1 + 1, 0, none⟩) 7 7, .slice (some ⟨w.heap.size + 1 + 1 + 1 + 1 + 1 + 1 + 1 + 1 + 1 + 1 + 1 + 1 + 1 + 1 + 1 + 1 + 1 + 1 + 1 + 1, 0, none⟩) 7 7, .slice (some ⟨w.heap.size + 1 + 1 + 1 + 1 + 1 + 1 + 1 + 1 + 1 + 1 + 1 + 1 + 1 + 1 + 1 + 1 + 1 + 1 + 1 + 1 + 1, 0, none⟩) 7 7, .slice (some ⟨w.heap.size + 1 + 1 + 1 + 1 + 1 + 1 + 1 + 1 + 1 + 1 + 1 + 1 + 1 + 1 + 1 + 1 + 1 + 1 + 1 + 1 + 1 + 1, 0, none⟩) 7 7, .slice (some ⟨w.heap.size + 1 + 1 + 1 + 1 + 1 + 1 + 1 + 1 + 1 + 1 + 1 + 1 + 1 + 1 + 1 + 1 + 1 + 1 + 1 + 1 + 1 + 1 + 1, 0, none⟩) 7 7, .slice (some ⟨w.heap.size + 1 + 1 + 1 + 1 + 1 + 1 + 1 + 1 + 1 + 1 + 1 + 1 + 1 + 1 + 1 + 1 + 1 + 1 + 1 + 1 + 1 + 1 + 1 + 1, 0, none⟩) 7 7, .slice (some ⟨w.heap.size + 1 + 1 + 1 + 1 + 1 + 1 + 1 + 1 + 1 + 1 + 1 + 1 + 1 + 1 + 1 + 1 + 1 + 1 + 1 + 1 + 1 + 1 + 1 + 1 + 1, 0, none⟩) 7 7, .slice (some ⟨w.heap.size + 1 + 1 + 1 + 1 + 1 + 1 + 1 + 1 + 1 + 1 + 1 + 1 + 1 + 1 + 1 + 1 + 1 + 1 + 1 + 1 + 1 + 1 + 1 + 1 + 1 + 1, 0, none⟩) 7 7, .slice (some ⟨w.heap.size + 1 + 1 + 1 + 1 + 1 + 1 + 1 + 1 + 1 + 1 + 1 + 1 + 1 + 1 + 1 + 1 + 1 + 1 + 1 + 1 + 1 + 1 + 1 + 1 + 1 + 1 + 1, 0, none⟩) 7 7, .slice (some ⟨w.heap.size + 1 + 1 + 1 + 1 + 1 + 1 + 1 + 1 + 1 + 1 + 1 + 1 + 1 + 1 + 1 + 1 + 1 + 1 + 1 + 1 + 1 + 1 + 1 + 1 + 1 + 1 + 1 + 1, 0, none⟩) 7 7, .slice (some ⟨w.heap.size + 1 + 1 + 1 + 1 + 1 + 1 + 1 + 1 + 1 + 1 + 1 + 1 + 1 + 1 + 1 + 1 + 1 + 1 + 1 + 1 + 1 + 1 + 1 + 1 + 1 + 1 + 1 + 1 + 1, 0, none⟩) 7 7, .slice (some ⟨w.heap.size + 1 + 1 + 1 + 1 + 1 + 1 + 1 + 1 + 1 + 1 + 1 + 1 + 1 + 1 + 1 + 1 + 1 + 1 + 1 + 1 + 1 + 1 + 1 + 1 + 1 + 1 + 1 + 1 + 1 + 1, 0, none⟩) 7 7, .slice (some ⟨w.heap.size + 1 + 1 + 1 + 1 + 1 + 1 + 1 + 1 + 1 + 1 + 1 + 1 + 1 + 1 + 1 + 1 + 1 + 1 + 1 + 1 + 1 + 1 + 1 + 1 + 1 + 1 + 1 + 1 + 1 + 1 + 1, 0, none⟩) 7 7, .slice (some ⟨w.heap.size + 1 + 1 + 1 + 1 + 1 + 1 + 1 + 1 + 1 + 1 + 1 + 1 + 1 + 1 + 1 + 1 + 1 + 1 + 1 + 1 + 1 + 1 + 1 + 1 + 1 + 1 + 1 + 1 + 1 + 1 + 1 + 1, 0, none⟩) 7 7, .slice (some ⟨w.heap.size + 1 + 1 + 1 + 1 + 1 + 1 + 1 + 1 + 1 + 1 + 1 + 1 + 1 + 1 + 1 + 1 + 1 + 1 + 1 + 1 + 1 + 1 + 1 + 1 + 1 + 1 + 1 + 1 + 1 + 1 + 1 + 1 + 1, 0, none⟩) 7 7, .slice (some ⟨w.heap.size + 1 + 1 + 1 + 1 + 1 + 1 + 1 + 1 + 1 + 1 + 1 + 1 + 1 + 1 + 1 + 1 + 1 + 1 + 1 + 1 + 1 + 1 + 1 + 1 + 1 + 1 + 1 + 1 + 1 + 1 + 1 + 1 + 1 + 1, 0, none⟩) 7 7, .slice (some ⟨w.heap.size + 1 + 1 + 1 + 1 + 1 + 1 + 1 + 1 + 1 + 1 + 1 + 1 + 1 + 1 + 1 + 1 + 1 + 1 + 1 + 1 + 1 + 1 + 1 + 1 + 1 + 1 + 1 + 1 + 1 + 1 + 1 + 1 + 1 + 1 + 1, 0, none⟩) 7 7, .slice (some ⟨w.heap.size + 1 + 1 + 1 + 1 + 1 + 1 + 1 + 1 + 1 + 1 + 1 + 1 + 1 + 1 + 1 + 1 + 1 + 1 + 1 + 1 + 1 + 1 + 1 + 1 + 1 + 1 + 1 + 1 + 1 + 1 + 1 + 1 + 1 + 1 + 1 + 1, 0, none⟩) 7 7, .slice (some ⟨w.heap.size + 1 + 1 + 1 + 1 + 1 + 1 + 1 + 1 + 1 + 1 + 1 + 1 + 1 + 1 + 1 + 1 + 1 + 1 + 1 + 1 + 1 + 1 + 1 + 1 + 1 + 1 + 1 + 1 + 1 + 1 + 1 + 1 + 1 + 1 + 1 + 1 + 1, 0, none⟩) 7 7, .slice (some ⟨w.heap.size + 1 + 1 + 1 + 1 + 1 + 1 + 1 + 1 + 1 + 1 + 1 + 1 + 1 + 1 + 1 + 1 + 1 + 1 + 1 + 1 + 1 + 1 + 1 + 1 + 1 + 1 + 1 + 1 + 1 + 1 + 1 + 1 + 1 + 1 + 1 + 1 + 1 + 1, 0, none⟩) 7 7, .slice (some ⟨w.heap.size + 1 + 1 + 1 + 1 + 1 + 1 + 1 + 1 + 1 + 1 + 1 + 1 + 1 + 1 + 1 + 1 + 1 + 1 + 1 + 1 + 1 + 1 + 1 + 1 + 1 + 1 + 1 + 1 + 1 + 1 + 1 + 1 + 1 + 1 + 1 + 1 + 1 + 1 + 1, 0, none⟩) 7 7] 138] := by kernel_rfl
  rw [ho] at key keyb
  simp only [List.foldl_cons, List.foldl_nil] at key keyb
  have K := Lib.hid key
  have KB := Lib.hid keyb
  clear key keyb ho
  go_enter Tryz.func203, Tryz.ntmps203
  go_wp2
  go_ret
  exact ⟨w.heap.size + 40, rfl, K.out, KB.out⟩
end Go.Proofs.YtcekbhhpcmhicaaGreatDoor
namespace Go.Proofs.YtcekbhhpcmhicaaGreatDoor
open Go.RowKit Go.QW Go.QM Go.QV Go.QZ

/-- cells that are empty behind corners and dark cell -/
def Base0 (v : Nat) (f : Cells) : Prop := ∀ y x, y < 17 + 4 * v → x < 17 + 4 * v → (f y x = -1 ↔ ¬ C8 (17 + 4 * v) y x ∧ ¬ (y = 9 + 4 * v ∧ x = 8))
structure AlRel (v a b : Nat) (f g : Cells) : Prop where
  emp : ∀ y x, y < 17 + 4 * v → x < 17 + 4 * v → (g y x = -1 ↔ f y x = -1 ∧ ¬ alK v a b y x)
  old : ∀ y x, C8 (17 + 4 * v) y x → g y x = f y x
theorem AlRel.zero (v : Nat) (f : Cells) : AlRel v 0 0 f f := ⟨fun y x _ _ => ⟨fun h => ⟨h, alK_zero v y x⟩, fun h => h.1⟩, fun _ _ _ => rfl⟩
theorem AlRel.same {v a b a' b' : Nat} {f g : Cells} (h : AlRel v a b f g) (e : ∀ y x, alK v a b y x ↔ alK v a' b' y x) : AlRel v a' b' f g :=
  ⟨fun y x hy hx => by rw [h.emp y x hy hx, e], h.old⟩
theorem AlRel.paint {v a b : Nat} {f g : Cells} (h : AlRel v a b f g) (h1 : 1 ≤ v) (h2 : v ≤ 27) (ha : a < (aligns v).length) (hb : b < (aligns v).length) (hc : corner (17 + 4 * v) (nth (aligns v) a) (nth (aligns v) b) = false) :
    AlRel v a (b + 1) f (sq 5 pap (nth (aligns v) a - 2) (nth (aligns v) b - 2) g) := by
  have ok := al_ok v a b h1 h2 ha hb
  have a1 := ok.lo1
  have a2 := ok.lo2
  have far := ok.far hc
  refine ⟨fun y x hy hx => ?_, fun y x hC => ?_⟩
  · rw [alK_step v a b y x ha hb hc, near_iff, near_iff]
    unfold sq
    by_cases e : (nth (aligns v) a - 2 ≤ y ∧ y < nth (aligns v) a - 2 + 5) ∧ nth (aligns v) b - 2 ≤ x ∧ x < nth (aligns v) b - 2 + 5
    · rw [if_pos e]
      have hp := (pap_bd (y - (nth (aligns v) a - 2)) (x - (nth (aligns v) b - 2))).1
      refine ⟨fun h => by omega, fun h => ?_⟩
      exact absurd (.inr (by omega)) h.2
    · rw [if_neg e, h.emp y x hy hx]
      refine ⟨fun h => ⟨h.1, fun o => ?_⟩, fun h => ⟨h.1, fun o => h.2 (.inl o)⟩⟩
      rcases o with o | o
      · exact h.2 o
      · exact e (by omega)
  · unfold sq
    rw [if_neg ?_, h.old y x hC]
    unfold C8 at hC
    omega
theorem AlRel.center {v a b : Nat} {f g : Cells} (h : AlRel v a b f g) (hf : Base0 v f) (h1 : 1 ≤ v) (h2 : v ≤ 27) (ha : a < (aligns v).length) (hb : b < (aligns v).length) :
    g (nth (aligns v) a) (nth (aligns v) b) = -1 ↔ corner (17 + 4 * v) (nth (aligns v) a) (nth (aligns v) b) = false := by
  have ok := al_ok v a b h1 h2 ha hb
  have a1 := ok.hi1
  have a2 := ok.hi2
  rw [h.emp _ _ (by omega) (by omega), hf _ _ (by omega) (by omega)]
  constructor
  · rintro ⟨⟨e1, -⟩, -⟩
    cases hc : corner (17 + 4 * v) (nth (aligns v) a) (nth (aligns v) b) with
    | false => rfl
    | true => exact absurd (ok.cor hc) e1
  · intro hc
    have far := ok.far hc
    refine ⟨⟨?_, ?_⟩, ?_⟩
    · unfold C8; omega
    · omega
    · rintro ⟨i, j, hi, hj, hl, -, n1, n2⟩
      obtain ⟨rfl, rfl⟩ := ok.one i j hi hj n1 n2
      omega
theorem coord_in {v j : Nat} (h : j < (aligns v).length) : coord v j = ((nth (aligns v) j : Nat) : Int) := by unfold coord; rw [if_pos h]
theorem coord_out {v j : Nat} (h : ¬ j < (aligns v).length) : coord v j = -1 := by unfold coord; rw [if_neg h]
section
variable {w : World} {A R V v : Nat} {f : Cells}
set_option maxHeartbeats 8000000 in
set_option maxRecDepth 100000 in
theorem align_any (h : Mat w A R (17 + 4 * v) f) (hV : Ver w V v) (hf : Base0 v f) (h1 : 1 ≤ v) (h2 : v ≤ 27) :
    Calls Tryz.prog 162 #[.pointer (some ⟨V, 0, none⟩), .pointer (some ⟨A, 0, none⟩)] w fun e w' => ∃ g, e = .returned (.tuple #[]) ∧ Mat w' A R (17 + 4 * v) g ∧
      (∀ y x, y < 17 + 4 * v → x < 17 + 4 * v → (g y x = -1 ↔ f y x = -1 ∧ ¬ alB (17 + 4 * v) (aligns v) y x = true)) ∧ (∀ y x, C8 (17 + 4 * v) y x → g y x = f y x) ∧ Kp (rowsOf R (17 + 4 * v)) w w' := by
  have hal := al_len v h1 h2
  by_cases hv1 : v < 2
  · have hd : decide ((v : Int) < 2) = true := by simp; omega
    go_enter Tryz.func162, Tryz.ntmps162
    go_wp2_with fail
    refine (vernum_any V v w hV).mono ?_
    rintro e w1 ⟨rfl, rfl⟩
    go_wp2_with fail
    refine bodyPost_ret (v := .tuple #[]) (by simp [results, Tryz.results162, go_sem]) rfl ?_
    refine ⟨f, rfl, h, fun y x hy hx => ?_, fun _ _ _ => rfl, Kp.refl _ _⟩
    obtain rfl : v = 1 := by omega
    exact ⟨fun e => ⟨e, by rw [show aligns 1 = [] from rfl]; simp [alB]⟩, fun e => e.1⟩
  · have hd : decide ((v : Int) < 2) = false := by simp; omega
    go_enter Tryz.func162, Tryz.ntmps162
    go_wp2_with fail
    refine (vernum_any V v w hV).mono ?_
    rintro e w1 ⟨rfl, rfl⟩
    go_wp2_with fail
    refine (vernum_any V v w hV).mono ?_
    rintro e w1 ⟨rfl, rfl⟩
    go_wp2_with fail
    refine (coordtab_any w).mono ?_
    rintro e w1 ⟨b0, rfl, hT, hb1⟩
    obtain ⟨gc, hgB, c0, hbl, hg⟩ := hT (v - 1) (by omega)
    have c0' : w1.cell? ⟨b0, v - 1, none⟩ = some (.slice (some ⟨gc, 0, none⟩) 7 7) := c0
    have hix : (v : Int) - 1 = ((v - 1 : Nat) : Int) := by omega
    have hM1 := h.below hb1
    have hcg : ∀ j, j < 7 → (coordRow (v - 1))[j]? = some (.int .i64 (coord v j)) := fun j hj => by
      have := coordRow_get (v - 1) j hj
      rwa [show v - 1 + 1 = v by omega] at this
    have HCG := Lib.hid hcg
    have hgc : gc ∉ rowsOf R (17 + 4 * v) := h.fresh hgB
    have hgl := hg.lt
    have HF := Lib.hid hf
    have k1 : Kp (rowsOf R (17 + 4 * v)) w w1 := Kp.of_below hb1
    have HG := Lib.hid hg
    have HB := Lib.hid hb1
    clear hT c0 hcg hf hd hg hb1 hM1
    go_wp2_with fail
    go_loopw [22] (fun t22 wr => ∃ (a : Nat) (g : Cells), a ≤ 7 ∧ t22 = .int .i64 (a : Nat) ∧ Mat wr A R (17 + 4 * v) g ∧ AlRel v a 0 f g ∧ Kp (rowsOf R (17 + 4 * v)) w1 wr) (fun t22 _ => 7 - (intOf t22).toNat)
    case atStart => exact ⟨0, f, by omega, rfl, h.below HB.out, AlRel.zero v f, Kp.refl _ _⟩
    case round =>
      obtain ⟨a, g, ha, rfl, hM, hA, hkp⟩ := hrel
      by_cases hlt : a < 7
      · have hda : decide ((a : Int) < 7) = true := by simp; omega
        have ca := (HG.out.kp hkp hgc).cell a
        rw [HCG.out a hlt] at ca
        by_cases ham : a < (aligns v).length
        · rw [coord_in ham] at ca
          obtain ⟨cy, hcy⟩ : ∃ cy, cy = nth (aligns v) a := ⟨_, rfl⟩
          rw [← hcy] at ca
          have hcyb : cy + 2 < 17 + 4 * v ∧ 2 ≤ cy := by rw [hcy]; exact ⟨(al_ok v a a h1 h2 ham ham).hi1, (al_ok v a a h1 h2 ham ham).lo1⟩
          have HCY := Lib.hid hcy
          clear hcy
          go_wp2_with fail
          obtain ⟨wo, rfl⟩ : ∃ wo : World, wo = wr := ⟨_, rfl⟩
          obtain ⟨go, rfl⟩ : ∃ go : Cells, go = g := ⟨_, rfl⟩
          go_loopw [30] (fun t30 wr => ∃ (b : Nat) (g : Cells), b ≤ 7 ∧ t30 = .int .i64 (b : Nat) ∧ Mat wr A R (17 + 4 * v) g ∧ AlRel v a b f g ∧ Kp (rowsOf R (17 + 4 * v)) w1 wr) (fun t30 _ => 7 - (intOf t30).toNat)
          case atStart => exact ⟨0, go, by omega, rfl, hM, hA, hkp⟩
          case round =>
            obtain ⟨b, g, hb, rfl, hM, hA, hkp⟩ := hrel
            by_cases hlt2 : b < 7
            · have hdb : decide ((b : Int) < 7) = true := by simp; omega
              have cb := (HG.out.kp hkp hgc).cell b
              rw [HCG.out b hlt2] at cb
              by_cases hbm : b < (aligns v).length
              · rw [coord_in hbm] at cb
                obtain ⟨cx, hcx⟩ : ∃ cx, cx = nth (aligns v) b := ⟨_, rfl⟩
                rw [← hcx] at cb
                have hcxb : cx + 2 < 17 + 4 * v ∧ 2 ≤ cx := by rw [hcx]; exact ⟨(al_ok v b b h1 h2 hbm hbm).hi1, (al_ok v b b h1 h2 hbm hbm).lo1⟩
                have hcen := hA.center HF.out h1 h2 ham hbm
                rw [← HCY.out, ← hcx] at hcen
                by_cases hc : corner (17 + 4 * v) cy cx = false
                · have hb2 : (g cy cx == -1) = true := by rw [hcen.2 hc]; rfl
                  have hpt := hA.paint h1 h2 ham hbm (by rw [← HCY.out, ← hcx]; exact hc)
                  rw [← HCY.out, ← hcx] at hpt
                  clear hcen hc hcx
                  go_wp2_with fail
                  refine (mget_any cx cy hM rfl rfl (by omega) (by omega)).mono ?_
                  rintro e w2' ⟨rfl, rfl⟩
                  go_wp2_with fail
                  refine (isEmpty_any _ _).mono ?_
                  rintro e w1' ⟨rfl, rfl⟩
                  rw [hb2]
                  clear hb2
                  go_wp2_with fail
                  refine (embPap_any (cx - 2) (cy - 2) hM (by omega) (by omega) (by omega) (by omega)).mono ?_
                  rintro e w3 ⟨rfl, hM3, hk3⟩
                  go_wp2_with fail
                  go_roundw
                  case rel => exact ⟨b + 1, _, by omega, by go_num, hM3, hpt, hkp.more hk3⟩
                  case measure => simp [intOf]; omega
                · have hb2 : (g cy cx == -1) = false := by rw [beq_eq_false_iff_ne]; exact fun e => hc (hcen.1 e)
                  have hpt := hA.same (fun y x => alK_skip v a b y x (.inr (.inr (by rw [← HCY.out, ← hcx]; simpa using hc))))
                  clear hcen hc hcx
                  go_wp2_with fail
                  refine (mget_any cx cy hM rfl rfl (by omega) (by omega)).mono ?_
                  rintro e w2' ⟨rfl, rfl⟩
                  go_wp2_with fail
                  refine (isEmpty_any _ _).mono ?_
                  rintro e w1' ⟨rfl, rfl⟩
                  rw [hb2]
                  clear hb2
                  go_wp2_with fail
                  go_roundw
                  case rel => exact ⟨b + 1, _, by omega, by go_num, hM, hpt, hkp⟩
                  case measure => simp [intOf]; omega
              · rw [coord_out hbm] at cb
                have hpt := hA.same (fun y x => alK_skip v a b y x (.inr (.inl (by omega))))
                go_wp2_with fail
                go_roundw
                case rel => exact ⟨b + 1, _, by omega, by go_num, hM, hpt, hkp⟩
                case measure => simp [intOf]; omega
            · have hbe : b = 7 := by omega
              subst hbe
              have hpt := hA.same (fun y x => alK_row v a 7 y x hal)
              go_wp2_with fail
              go_roundw
              case rel => exact ⟨a + 1, _, by omega, by go_num, hM, hpt, hkp⟩
              case measure => simp [intOf]; omega
        · rw [coord_out ham] at ca
          have hpt : AlRel v (a + 1) 0 f g := by
            refine hA.same (fun y x => ?_)
            constructor
            · rintro ⟨i, j, q1, q2, q3, q4⟩; exact ⟨i, j, q1, q2, by omega, q4⟩
            · rintro ⟨i, j, q1, q2, q3, q4⟩; exact ⟨i, j, q1, q2, by omega, q4⟩
          go_wp2_with fail
          go_roundw
          case rel => exact ⟨a + 1, _, by omega, by go_num, hM, hpt, hkp⟩
          case measure => simp [intOf]; omega
      · have hae : a = 7 := by omega
        subst hae
        go_wp2_with fail
        go_end0
        refine ⟨g, rfl, hM, fun y x hy hx => ?_, hA.old, k1.more hkp⟩
        rw [hA.emp y x hy hx, alK_all v y x 7 hal]
end
end Go.Proofs.YtcekbhhpcmhicaaGreatDoor
