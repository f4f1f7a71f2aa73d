/- The data cells are painted: embedDataBits. -/
import Derived.Test.YtcekbhhpcmhicaaGreatDoorM16
import Derived.Deep.LoopGhost
namespace Go.QM
open Go.QV Go.QZ Go.QW
/-- bits used up behind n cells -/
def bi (v : Nat) (S : List Bool) (n : Nat) : Nat := min (cnt v n) S.length
theorem bi_eq {v n m : Nat} {S : List Bool} (h : cnt v m = cnt v n) : bi v S m = bi v S n := by unfold bi; rw [h]
theorem bi_le (v n : Nat) (S : List Bool) : bi v S n ≤ S.length := by unfold bi; omega
section
variable {d v k c t i : Nat} {S : List Bool} {f : Cells}
theorem datC_skipD (hd : d = 17 + 4 * v) (h1 : 1 ≤ v) (hc : c < 8 + 2 * v) (ht : t < d) (hi : i < 2) (hf : fp v (rowY d c t) (colX d c - i) = true) {Y X : Nat} (hY : Y < d) (hX : X < d) :
    datC v k S (2 * (c * d + t) + i) f Y X = datC v k S (2 * (c * d + t) + i + 1) f Y X := by subst hd; exact datC_skip h1 hc ht hi hf hY hX
theorem datC_putD (hd : d = 17 + 4 * v) (h1 : 1 ≤ v) (hc : c < 8 + 2 * v) (ht : t < d) (hi : i < 2) (hf : ¬ fp v (rowY d c t) (colX d c - i) = true) {Y X : Nat} (hY : Y < d) (hX : X < d) :
    upd (datC v k S (2 * (c * d + t) + i) f) (rowY d c t) (colX d c - i) (b01 ((S.getD (cnt v (2 * (c * d + t) + i)) false) ^^ mbit k (rowY d c t) (colX d c - i))) Y X = datC v k S (2 * (c * d + t) + i + 1) f Y X := by
  subst hd; exact datC_put h1 hc ht hi hf hY hX
theorem datC_emptyD (hd : d = 17 + 4 * v) (h1 : 1 ≤ v) (hc : c < 8 + 2 * v) (ht : t < d) (hi : i < 2) (hfull : ∀ y x, fp v y x = true → y < d → x < d → f y x ≠ -1) :
    (datC v k S (2 * (c * d + t) + i) f (rowY d c t) (colX d c - i) = -1 ↔ ¬ fp v (rowY d c t) (colX d c - i) = true) := by subst hd; exact datC_empty h1 hc ht hi hfull
theorem cnt_skipD (hd : d = 17 + 4 * v) (h : fp v (rowY d c t) (colX d c - i) = true) (ht : t < d) (hi : i < 2) : cnt v (2 * (c * d + t) + i + 1) = cnt v (2 * (c * d + t) + i) := by subst hd; exact cnt_skip h ht hi
theorem cnt_putD (hd : d = 17 + 4 * v) (h : ¬ fp v (rowY d c t) (colX d c - i) = true) (ht : t < d) (hi : i < 2) : cnt v (2 * (c * d + t) + i + 1) = cnt v (2 * (c * d + t) + i) + 1 := by subst hd; exact cnt_put h ht hi
end
end Go.QM
namespace Go.Proofs.YtcekbhhpcmhicaaGreatDoor
open Go.RowKit Go.QW Go.QM Go.QV Go.QZ
theorem Bits.norow {w : World} {B g c A R d : Nat} {S : List Bool} {f : Cells} (h : Bits w B g c S) (hM : Mat w A R d f) : B ∉ rowsOf R d ∧ g ∉ rowsOf R d := by
  obtain ⟨ws, b1, b2, -⟩ := h.ex
  exact ⟨fun hm => (hM.off (ts := [187]) (by decide)) B hm _ _ b1 (by simp), fun hm => (hM.off (ts := [252]) (by decide)) g hm _ _ b2 (by simp)⟩
theorem maskI_any {w : World} (k xn yn : Nat) {x y : Int} (hk : k < 8) (hx : x = xn) (hy : y = yn) (hxl : xn ≤ 200) (hyl : yn ≤ 200) :
    Calls Tryz.prog 169 #[.int .i64 k, .int .i64 x, .int .i64 y] w fun e w' => e = .returned (.tuple #[.bool (mbit k yn xn), .nilIface]) ∧ w = w' := by subst hx hy; exact mask_any k xn yn hk hxl hyl
section
variable {w : World} {A R v : Nat} {f : Cells}
set_option maxHeartbeats 8000000 in
set_option maxRecDepth 100000 in
theorem embData_any {d B g cc k : Nat} {S : List Bool} (hd : d = 17 + 4 * v) (h : Mat w A R d f) (hS : Bits w B g cc S) (h1 : 1 ≤ v) (h2 : v ≤ 40) (hk : k < 8) (hfe : ∀ y x, y < d → x < d → (f y x = -1 ↔ fp v y x = false)) (hroom : S.length ≤ cnt v (2 * ((8 + 2 * v) * d))) (hSl : S.length ≤ 40000) :
    Calls Tryz.prog 127 #[.pointer (some ⟨B, 0, none⟩), .int .i64 k, .pointer (some ⟨A, 0, none⟩)] w fun e w' => e = .returned .nilIface ∧ Mat w' A R d (datC v k S (2 * ((8 + 2 * v) * d)) f) ∧ Kp (rowsOf R d) w w' := by
  have hd2 := h.le
  have hdb : 17 + 4 * v ≤ d ∧ d ≤ 17 + 4 * v := by omega
  have hodd : d % 2 = 1 := by omega
  have HD := Lib.hid hd
  clear hd
  obtain ⟨hBo, hgo⟩ := hS.norow h
  have hfull : ∀ y x, fp v y x = true → y < d → x < d → f y x ≠ -1 := fun y x e hy hx h => by rw [(hfe y x hy hx).1 h] at e; cases e
  have HFE := Lib.hid hfe
  have HFULL := Lib.hid hfull
  have HR := Lib.hid hroom
  clear hfe hfull hroom
  go_enter Tryz.func127, Tryz.ntmps127
  go_wp2_with fail
  refine (mw_any h).mono ?_
  rintro e w2' ⟨rfl, rfl⟩
  go_wp2_with fail
  refine (mh_any h).mono ?_
  rintro e w2' ⟨rfl, rfl⟩
  go_wp2_with fail
  go_loopw [7, 8, 9, 10] (fun t7 t8 t9 t10 wr => ∃ c : Nat, c ≤ 8 + 2 * v ∧ t7 = .int .i64 ((bi v S (2 * (c * d)) : Nat) : Int) ∧ t8 = .int .i64 (dv c) ∧ t9 = .int .i64 (hx d c) ∧ t10 = .int .i64 (yv d c 0) ∧ Mat wr A R d (datC v k S (2 * (c * d)) f) ∧ Kp (rowsOf R d) w wr) (fun _ _ t9 _ _ => (intOf t9 + 1).toNat)
  case atStart =>
    refine ⟨0, by omega, by rw [Nat.zero_mul, Nat.mul_zero]; simp [bi, cnt], rfl, by rw [hx_zero (by omega)], by simp [yv], ?_, Kp.refl _ _⟩
    rw [Nat.zero_mul, Nat.mul_zero]
    refine h.congr (fun y x hy hx => ?_)
    by_cases e : fp v y x = true
    · unfold datC; rw [if_pos e]
    · exact datC_zero v k S f y x (fun e => (HFE.out y x hy hx).2 e)
  case round =>
    obtain ⟨c, hcl, rfl, rfl, rfl, rfl, hM, hkp⟩ := hrel
    by_cases hc : c < 8 + 2 * v
    · have hcol := hx_col (d := d) (c := c) (by omega) (by omega) (by omega)
      have hpos := hx_pos (d := d) (c := c) (by omega) (by omega) (by omega)
      have hnext := hx_next (d := d) (c := c) (by omega) (by omega) (by omega)
      obtain ⟨X0, hX0⟩ : ∃ X0, X0 = hx d c := ⟨_, rfl⟩
      rw [← hX0] at hcol hpos ⊢
      obtain ⟨dc, hdc⟩ : ∃ dc, dc = dv c := ⟨_, rfl⟩
      have hdcb := dv_bd c
      rw [← hdc] at hdcb ⊢
      have HDC := Lib.hid hdc
      have HX0 := Lib.hid hX0
      have HNX := Lib.hid hnext
      clear hX0 hdc hnext
      have hp1 : decide ((0 : Int) < X0) = true := by simp; omega
      rcases hcol with ⟨e1, e2⟩ | ⟨e1, e2⟩
      · have b6 : (X0 == 6) = true := by rw [e1]; rfl
        have hX1 : X0 - 1 = ((colX d c : Nat) : Int) := by rw [e1, e2]; rfl
        obtain ⟨X1, hX1e⟩ : ∃ X1, X1 = X0 - 1 := ⟨_, rfl⟩
        rw [← hX1e] at hX1
        have HX1 := Lib.hid hX1
        clear e1 e2 hX1
        go_wp2_with fail
        rw [← hX1e]
        have hX10 : X1 ≤ X0 := by omega
        clear hX1e
        have hX1b : 0 ≤ X1 ∧ X1 < ((d : Nat) : Int) := by
          have q1 := HX1.out
          have q2 := (col_facts (d := d) (c := c) (i := 0) (by omega) (by omega) (by omega) (by omega)).2.1
          omega
        go_loopg [7, 10] d (fun gk t7 t10 wr => ∃ t : Nat, t ≤ d ∧ d ≤ gk + t ∧ t10 = .int .i64 (yv d c t) ∧ t7 = .int .i64 ((bi v S (2 * (c * d + t)) : Nat) : Int) ∧ Mat wr A R d (datC v k S (2 * (c * d + t)) f) ∧ Kp (rowsOf R d) w wr)
        case atStart => exact ⟨0, by omega, by omega, rfl, by rw [Nat.add_zero], by rw [Nat.add_zero]; exact hM, hkp⟩
        case round =>
          obtain ⟨t, htl, hgk, rfl, rfl, hM, hkp⟩ := hrel
          by_cases ht : t < d
          · obtain ⟨y, hy⟩ : ∃ y, y = rowY d c t := ⟨_, rfl⟩
            have hyl : y < d := by rw [hy]; exact row_facts ht
            obtain ⟨Y0, hY0⟩ : ∃ Y0, Y0 = yv d c t := ⟨_, rfl⟩
            have hYV : Y0 = ((y : Nat) : Int) := by rw [hY0, hy]; exact yv_row ht
            have hYb : 0 ≤ Y0 ∧ Y0 < ((d : Nat) : Int) := by omega
            rw [← hY0]
            have HYI := Lib.hid hY0.symm
            have HYV := Lib.hid hYV
            have HY := Lib.hid hy
            clear hY0 hYV hy
            have dg1 : decide ((0 : Int) ≤ Y0) = true := by simp; omega
            have dg2 : decide (Y0 < ((d : Nat) : Int)) = true := by simp; omega
            go_wp2_with fail
            refine (mh_any hM).mono ?_
            rintro e w2' ⟨rfl, rfl⟩
            go_wp2_with fail
            obtain ⟨wo, rfl⟩ : ∃ wo : World, wo = wr := ⟨_, rfl⟩
            go_loopw [7, 11] (fun t7 t11 wr => ∃ i : Nat, i ≤ 2 ∧ t11 = .int .i64 (i : Nat) ∧ t7 = .int .i64 ((bi v S (2 * (c * d + t) + i) : Nat) : Int) ∧ Mat wr A R d (datC v k S (2 * (c * d + t) + i) f) ∧ Kp (rowsOf R d) w wr) (fun _ t11 _ => 2 - (intOf t11).toNat)
            case atStart => exact ⟨0, by omega, rfl, by rw [Nat.add_zero], by rw [Nat.add_zero]; exact hM, hkp⟩
            case round =>
              obtain ⟨i, hi, rfl, rfl, hM, hkp⟩ := hrel
              by_cases hi2 : i < 2
              · obtain ⟨x, hx⟩ : ∃ x, x = colX d c - i := ⟨_, rfl⟩
                have hcf := col_facts (d := d) (c := c) (i := i) (by omega) (by omega) (by omega) hi2
                rw [← hx] at hcf
                have hxd : x < d := by omega
                have hxv : X1 - (i : Int) = ((x : Nat) : Int) := by have := HX1.out; omega
                have HXV := Lib.hid hxv
                have HX := Lib.hid hx
                have hdi : decide ((i : Int) < 2) = true := by simp; omega
                obtain ⟨cn, hcn⟩ : ∃ cn, cn = cnt v (2 * (c * d + t) + i) := ⟨_, rfl⟩
                have HCN := Lib.hid hcn.symm
                have hbn : bi v S (2 * (c * d + t) + i) = min cn S.length := by unfold bi; rw [← hcn]
                rw [hbn]
                clear hbn hcn hx hxv hcf
                have hemp := datC_emptyD (k := k) (S := S) (f := f) HD.out h1 hc ht hi2 HFULL.out
                rw [← HY.out, ← HX.out] at hemp
                by_cases hf : fp v y x = true
                · have hb2 : (datC v k S (2 * (c * d + t) + i) f y x == -1) = false := by rw [beq_eq_false_iff_ne]; exact fun e => (hemp.1 e) hf
                  have hcs := cnt_skipD (v := v) (c := c) (t := t) (i := i) HD.out (by rw [← HY.out, ← HX.out]; exact hf) ht hi2
                  have HCS := Lib.hid hcs
                  have hsk := fun (Y X : Nat) (hY : Y < d) (hX : X < d) => datC_skipD (v := v) (k := k) (c := c) (t := t) (i := i) (S := S) (f := f) HD.out h1 hc ht hi2 (by rw [← HY.out, ← HX.out]; exact hf) hY hX
                  have HSK := Lib.hid hsk
                  clear hemp hf hcs hsk
                  go_wp2_with fail
                  refine (mget_any x y hM HXV.out HYV.out (by omega) (by omega)).mono ?_
                  rintro e w2' ⟨rfl, rfl⟩
                  go_wp2_with fail
                  refine (isEmpty_any _ _).mono ?_
                  rintro e w1' ⟨rfl, rfl⟩
                  rw [hb2]
                  clear hb2
                  go_wp2_with fail
                  go_roundw
                  case rel => exact ⟨i + 1, by omega, by go_num, by rw [← Nat.add_assoc, bi_eq HCS.out]; unfold bi; rw [HCN.out], hM.congr (fun Y X hY hX => HSK.out Y X hY hX), hkp⟩
                  case measure => simp [intOf]; omega
                · have hb2 : (datC v k S (2 * (c * d + t) + i) f y x == -1) = true := by rw [hemp.2 hf]; rfl
                  have hcs := cnt_putD (v := v) (c := c) (t := t) (i := i) HD.out (by rw [← HY.out, ← HX.out]; exact hf) ht hi2
                  have HCS := Lib.hid hcs
                  have NF := Lib.hid (show ¬ fp v (rowY d c t) (colX d c - i) = true by rw [← HY.out, ← HX.out]; exact hf)
                  obtain ⟨mb, hmb⟩ : ∃ mb, mb = mbit k y x := ⟨_, rfl⟩
                  have HMB := Lib.hid hmb
                  clear hemp hf hcs hmb
                  have hkm : ((k : Int) != -1) = true := by simp only [bne_iff_ne, ne_eq]; omega
                  have hSr := hS.kp hkp hBo hgo
                  by_cases hlt : cn < S.length
                  · have hmin : min cn S.length = cn := by omega
                    have hlt1 : decide ((cn : Int) < (S.length : Int)) = true := by simp; omega
                    rw [hmin]
                    obtain ⟨b, hb⟩ : ∃ b, b = S.getD cn false := ⟨_, rfl⟩
                    have HBV := Lib.hid hb
                    clear hmin hb
                    go_wp2_with fail
                    refine (mget_any x y hM HXV.out HYV.out (by omega) (by omega)).mono ?_
                    rintro e w2' ⟨rfl, rfl⟩
                    go_wp2_with fail
                    refine (isEmpty_any _ _).mono ?_
                    rintro e w1' ⟨rfl, rfl⟩
                    rw [hb2]
                    clear hb2
                    go_wp2_with fail
                    refine (size_any B g cc S wr hSr).mono ?_
                    rintro e w1' ⟨rfl, rfl⟩
                    go_wp2_with fail
                    refine (get_any B g cc S cn wr hSr hlt).mono ?_
                    rintro e w1' ⟨rfl, rfl⟩
                    rw [← HBV.out]
                    cases mb with
                    | true =>
                      go_wp2_with fail
                      refine (maskI_any k x y hk HXV.out HYV.out (by omega) (by omega)).mono ?_
                      rintro e w3 ⟨rfl, rfl⟩
                      rw [← HMB.out]
                      go_wp2_with fail
                      refine (msetb_any x y (!b) hM (by have := HXV.out; omega) HYV.out (by omega) (by omega)).mono ?_
                      rintro e w5 ⟨rfl, hM5, hk5⟩
                      go_wp2_with fail
                      go_roundw
                      case rel =>
                        refine ⟨i + 1, by omega, by go_num, ?_, ?_, hkp.more hk5⟩
                        · rw [← Nat.add_assoc]; unfold bi; rw [HCS.out, HCN.out]; exact congrArg (Value.int .i64) (by omega)
                        · refine hM5.congr (fun Y X hY hX => ?_)
                          have := datC_putD (k := k) (S := S) (f := f) HD.out h1 hc ht hi2 NF.out hY hX
                          rw [HCN.out, ← HY.out, ← HX.out, ← HMB.out] at this
                          rw [← HBV.out] at this
                          rw [← Nat.add_assoc]
                          simpa using this
                      case measure => simp [intOf]; omega
                    | false =>
                      go_wp2_with fail
                      refine (maskI_any k x y hk HXV.out HYV.out (by omega) (by omega)).mono ?_
                      rintro e w3 ⟨rfl, rfl⟩
                      rw [← HMB.out]
                      go_wp2_with fail
                      refine (msetb_any x y b hM (by have := HXV.out; omega) HYV.out (by omega) (by omega)).mono ?_
                      rintro e w5 ⟨rfl, hM5, hk5⟩
                      go_wp2_with fail
                      go_roundw
                      case rel =>
                        refine ⟨i + 1, by omega, by go_num, ?_, ?_, hkp.more hk5⟩
                        · rw [← Nat.add_assoc]; unfold bi; rw [HCS.out, HCN.out]; exact congrArg (Value.int .i64) (by omega)
                        · refine hM5.congr (fun Y X hY hX => ?_)
                          have := datC_putD (k := k) (S := S) (f := f) HD.out h1 hc ht hi2 NF.out hY hX
                          rw [HCN.out, ← HY.out, ← HX.out, ← HMB.out] at this
                          rw [← HBV.out] at this
                          rw [← Nat.add_assoc]
                          simpa using this
                      case measure => simp [intOf]; omega
                  · have hmin : min cn S.length = S.length := by omega
                    have hlt1 : decide ((S.length : Int) < (S.length : Int)) = false := by simp
                    rw [hmin]
                    have hb : false = S.getD cn false := (getD_past S cn (by omega)).symm
                    have HBV := Lib.hid hb
                    clear hmin hb
                    go_wp2_with fail
                    refine (mget_any x y hM HXV.out HYV.out (by omega) (by omega)).mono ?_
                    rintro e w2' ⟨rfl, rfl⟩
                    go_wp2_with fail
                    refine (isEmpty_any _ _).mono ?_
                    rintro e w1' ⟨rfl, rfl⟩
                    rw [hb2]
                    clear hb2
                    go_wp2_with fail
                    refine (size_any B g cc S wr hSr).mono ?_
                    rintro e w1' ⟨rfl, rfl⟩
                    cases mb with
                    | true =>
                      go_wp2_with fail
                      refine (maskI_any k x y hk HXV.out HYV.out (by omega) (by omega)).mono ?_
                      rintro e w3 ⟨rfl, rfl⟩
                      rw [← HMB.out]
                      go_wp2_with fail
                      refine (msetb_any x y true hM (by have := HXV.out; omega) HYV.out (by omega) (by omega)).mono ?_
                      rintro e w5 ⟨rfl, hM5, hk5⟩
                      go_wp2_with fail
                      go_roundw
                      case rel =>
                        refine ⟨i + 1, by omega, by go_num, ?_, ?_, hkp.more hk5⟩
                        · rw [← Nat.add_assoc]; unfold bi; rw [HCS.out, HCN.out]; exact congrArg (Value.int .i64) (by omega)
                        · refine hM5.congr (fun Y X hY hX => ?_)
                          have := datC_putD (k := k) (S := S) (f := f) HD.out h1 hc ht hi2 NF.out hY hX
                          rw [HCN.out, ← HY.out, ← HX.out, ← HMB.out] at this
                          rw [← HBV.out] at this
                          rw [← Nat.add_assoc]
                          simpa using this
                      case measure => simp [intOf]; omega
                    | false =>
                      go_wp2_with fail
                      refine (maskI_any k x y hk HXV.out HYV.out (by omega) (by omega)).mono ?_
                      rintro e w3 ⟨rfl, rfl⟩
                      rw [← HMB.out]
                      go_wp2_with fail
                      refine (msetb_any x y false hM (by have := HXV.out; omega) HYV.out (by omega) (by omega)).mono ?_
                      rintro e w5 ⟨rfl, hM5, hk5⟩
                      go_wp2_with fail
                      go_roundw
                      case rel =>
                        refine ⟨i + 1, by omega, by go_num, ?_, ?_, hkp.more hk5⟩
                        · rw [← Nat.add_assoc]; unfold bi; rw [HCS.out, HCN.out]; exact congrArg (Value.int .i64) (by omega)
                        · refine hM5.congr (fun Y X hY hX => ?_)
                          have := datC_putD (k := k) (S := S) (f := f) HD.out h1 hc ht hi2 NF.out hY hX
                          rw [HCN.out, ← HY.out, ← HX.out, ← HMB.out] at this
                          rw [← HBV.out] at this
                          rw [← Nat.add_assoc]
                          simpa using this
                      case measure => simp [intOf]; omega
              · have hie : i = 2 := by omega
                subst hie
                have hys := yv_succ d c t
                rw [HYI.out] at hys
                have HYS := Lib.hid hys
                clear hys
                go_wp2_with fail
                go_roundg (d - (t + 1))
                case measure => omega
                case rel => exact ⟨t + 1, by omega, by omega, by rw [HYS.out, HDC.out], by rw [show 2 * (c * d + (t + 1)) = 2 * (c * d + t) + 2 by omega], by rw [show 2 * (c * d + (t + 1)) = 2 * (c * d + t) + 2 by omega]; exact hM, hkp⟩
          · have hte : t = d := by omega
            rw [hte]
            have hend := yv_end d c
            have hyn := yv_next d c
            obtain ⟨Y0, hY0⟩ : ∃ Y0, Y0 = yv d c d := ⟨_, rfl⟩
            rw [← hY0] at hend hyn ⊢
            rw [hte] at hM
            have hYb : -1 ≤ Y0 ∧ Y0 ≤ ((d : Nat) : Int) := by omega
            have hq : 2 * (c * d + d) = 2 * ((c + 1) * d) := by have e : (c + 1) * d = c * d + d := Nat.succ_mul c d; rw [e]
            have hdn := dv_next c
            rw [← HDC.out] at hdn
            rw [← hdn] at hyn
            have HQ := Lib.hid hq
            have HDN := Lib.hid hdn
            have HYN := Lib.hid hyn
            have hnx2 : X1 - 2 = hx d (c + 1) := by have := HNX.out; have := HX1.out; omega
            have HNX2 := Lib.hid hnx2
            clear hY0 hq hdn hyn hnx2 hte
            rcases hend with hend | hend
            · have dg1 : decide ((0 : Int) ≤ Y0) = false := by simp; omega
              clear hend
              go_wp2_with fail
              go_roundw
              case rel => exact ⟨c + 1, by omega, by rw [← HQ.out], by rw [HDN.out], by rw [HNX2.out], by rw [HYN.out], by rw [← HQ.out]; exact hM, hkp⟩
              case measure => simp [intOf]; omega
            · have dg1 : decide ((0 : Int) ≤ Y0) = true := by simp; omega
              have dg2 : decide (Y0 < ((d : Nat) : Int)) = false := by simp; omega
              clear hend
              go_wp2_with fail
              refine (mh_any hM).mono ?_
              rintro e w2' ⟨rfl, rfl⟩
              go_wp2_with fail
              go_roundw
              case rel => exact ⟨c + 1, by omega, by rw [← HQ.out], by rw [HDN.out], by rw [HNX2.out], by rw [HYN.out], by rw [← HQ.out]; exact hM, hkp⟩
              case measure => simp [intOf]; omega
      · have b6 : (X0 == 6) = false := by rw [beq_eq_false_iff_ne]; exact e1
        have HX1 := Lib.hid e2
        clear e1 e2
        go_wp2_with fail
        obtain ⟨X1, hX1⟩ : ∃ X1, X1 = X0 := ⟨_, rfl⟩
        rw [← hX1] at HX1 ⊢
        have hX10 : X1 ≤ X0 := by omega
        clear hX1
        have hX1b : 0 ≤ X1 ∧ X1 < ((d : Nat) : Int) := by
          have q1 := HX1.out
          have q2 := (col_facts (d := d) (c := c) (i := 0) (by omega) (by omega) (by omega) (by omega)).2.1
          omega
        go_loopg [7, 10] d (fun gk t7 t10 wr => ∃ t : Nat, t ≤ d ∧ d ≤ gk + t ∧ t10 = .int .i64 (yv d c t) ∧ t7 = .int .i64 ((bi v S (2 * (c * d + t)) : Nat) : Int) ∧ Mat wr A R d (datC v k S (2 * (c * d + t)) f) ∧ Kp (rowsOf R d) w wr)
        case atStart => exact ⟨0, by omega, by omega, rfl, by rw [Nat.add_zero], by rw [Nat.add_zero]; exact hM, hkp⟩
        case round =>
          obtain ⟨t, htl, hgk, rfl, rfl, hM, hkp⟩ := hrel
          by_cases ht : t < d
          · obtain ⟨y, hy⟩ : ∃ y, y = rowY d c t := ⟨_, rfl⟩
            have hyl : y < d := by rw [hy]; exact row_facts ht
            obtain ⟨Y0, hY0⟩ : ∃ Y0, Y0 = yv d c t := ⟨_, rfl⟩
            have hYV : Y0 = ((y : Nat) : Int) := by rw [hY0, hy]; exact yv_row ht
            have hYb : 0 ≤ Y0 ∧ Y0 < ((d : Nat) : Int) := by omega
            rw [← hY0]
            have HYI := Lib.hid hY0.symm
            have HYV := Lib.hid hYV
            have HY := Lib.hid hy
            clear hY0 hYV hy
            have dg1 : decide ((0 : Int) ≤ Y0) = true := by simp; omega
            have dg2 : decide (Y0 < ((d : Nat) : Int)) = true := by simp; omega
            go_wp2_with fail
            refine (mh_any hM).mono ?_
            rintro e w2' ⟨rfl, rfl⟩
            go_wp2_with fail
            obtain ⟨wo, rfl⟩ : ∃ wo : World, wo = wr := ⟨_, rfl⟩
            go_loopw [7, 11] (fun t7 t11 wr => ∃ i : Nat, i ≤ 2 ∧ t11 = .int .i64 (i : Nat) ∧ t7 = .int .i64 ((bi v S (2 * (c * d + t) + i) : Nat) : Int) ∧ Mat wr A R d (datC v k S (2 * (c * d + t) + i) f) ∧ Kp (rowsOf R d) w wr) (fun _ t11 _ => 2 - (intOf t11).toNat)
            case atStart => exact ⟨0, by omega, rfl, by rw [Nat.add_zero], by rw [Nat.add_zero]; exact hM, hkp⟩
            case round =>
              obtain ⟨i, hi, rfl, rfl, hM, hkp⟩ := hrel
              by_cases hi2 : i < 2
              · obtain ⟨x, hx⟩ : ∃ x, x = colX d c - i := ⟨_, rfl⟩
                have hcf := col_facts (d := d) (c := c) (i := i) (by omega) (by omega) (by omega) hi2
                rw [← hx] at hcf
                have hxd : x < d := by omega
                have hxv : X1 - (i : Int) = ((x : Nat) : Int) := by have := HX1.out; omega
                have HXV := Lib.hid hxv
                have HX := Lib.hid hx
                have hdi : decide ((i : Int) < 2) = true := by simp; omega
                obtain ⟨cn, hcn⟩ : ∃ cn, cn = cnt v (2 * (c * d + t) + i) := ⟨_, rfl⟩
                have HCN := Lib.hid hcn.symm
                have hbn : bi v S (2 * (c * d + t) + i) = min cn S.length := by unfold bi; rw [← hcn]
                rw [hbn]
                clear hbn hcn hx hxv hcf
                have hemp := datC_emptyD (k := k) (S := S) (f := f) HD.out h1 hc ht hi2 HFULL.out
                rw [← HY.out, ← HX.out] at hemp
                by_cases hf : fp v y x = true
                · have hb2 : (datC v k S (2 * (c * d + t) + i) f y x == -1) = false := by rw [beq_eq_false_iff_ne]; exact fun e => (hemp.1 e) hf
                  have hcs := cnt_skipD (v := v) (c := c) (t := t) (i := i) HD.out (by rw [← HY.out, ← HX.out]; exact hf) ht hi2
                  have HCS := Lib.hid hcs
                  have hsk := fun (Y X : Nat) (hY : Y < d) (hX : X < d) => datC_skipD (v := v) (k := k) (c := c) (t := t) (i := i) (S := S) (f := f) HD.out h1 hc ht hi2 (by rw [← HY.out, ← HX.out]; exact hf) hY hX
                  have HSK := Lib.hid hsk
                  clear hemp hf hcs hsk
                  go_wp2_with fail
                  refine (mget_any x y hM HXV.out HYV.out (by omega) (by omega)).mono ?_
                  rintro e w2' ⟨rfl, rfl⟩
                  go_wp2_with fail
                  refine (isEmpty_any _ _).mono ?_
                  rintro e w1' ⟨rfl, rfl⟩
                  rw [hb2]
                  clear hb2
                  go_wp2_with fail
                  go_roundw
                  case rel => exact ⟨i + 1, by omega, by go_num, by rw [← Nat.add_assoc, bi_eq HCS.out]; unfold bi; rw [HCN.out], hM.congr (fun Y X hY hX => HSK.out Y X hY hX), hkp⟩
                  case measure => simp [intOf]; omega
                · have hb2 : (datC v k S (2 * (c * d + t) + i) f y x == -1) = true := by rw [hemp.2 hf]; rfl
                  have hcs := cnt_putD (v := v) (c := c) (t := t) (i := i) HD.out (by rw [← HY.out, ← HX.out]; exact hf) ht hi2
                  have HCS := Lib.hid hcs
                  have NF := Lib.hid (show ¬ fp v (rowY d c t) (colX d c - i) = true by rw [← HY.out, ← HX.out]; exact hf)
                  obtain ⟨mb, hmb⟩ : ∃ mb, mb = mbit k y x := ⟨_, rfl⟩
                  have HMB := Lib.hid hmb
                  clear hemp hf hcs hmb
                  have hkm : ((k : Int) != -1) = true := by simp only [bne_iff_ne, ne_eq]; omega
                  have hSr := hS.kp hkp hBo hgo
                  by_cases hlt : cn < S.length
                  · have hmin : min cn S.length = cn := by omega
                    have hlt1 : decide ((cn : Int) < (S.length : Int)) = true := by simp; omega
                    rw [hmin]
                    obtain ⟨b, hb⟩ : ∃ b, b = S.getD cn false := ⟨_, rfl⟩
                    have HBV := Lib.hid hb
                    clear hmin hb
                    go_wp2_with fail
                    refine (mget_any x y hM HXV.out HYV.out (by omega) (by omega)).mono ?_
                    rintro e w2' ⟨rfl, rfl⟩
                    go_wp2_with fail
                    refine (isEmpty_any _ _).mono ?_
                    rintro e w1' ⟨rfl, rfl⟩
                    rw [hb2]
                    clear hb2
                    go_wp2_with fail
                    refine (size_any B g cc S wr hSr).mono ?_
                    rintro e w1' ⟨rfl, rfl⟩
                    go_wp2_with fail
                    refine (get_any B g cc S cn wr hSr hlt).mono ?_
                    rintro e w1' ⟨rfl, rfl⟩
                    rw [← HBV.out]
                    cases mb with
                    | true =>
                      go_wp2_with fail
                      refine (maskI_any k x y hk HXV.out HYV.out (by omega) (by omega)).mono ?_
                      rintro e w3 ⟨rfl, rfl⟩
                      rw [← HMB.out]
                      go_wp2_with fail
                      refine (msetb_any x y (!b) hM (by have := HXV.out; omega) HYV.out (by omega) (by omega)).mono ?_
                      rintro e w5 ⟨rfl, hM5, hk5⟩
                      go_wp2_with fail
                      go_roundw
                      case rel =>
                        refine ⟨i + 1, by omega, by go_num, ?_, ?_, hkp.more hk5⟩
                        · rw [← Nat.add_assoc]; unfold bi; rw [HCS.out, HCN.out]; exact congrArg (Value.int .i64) (by omega)
                        · refine hM5.congr (fun Y X hY hX => ?_)
                          have := datC_putD (k := k) (S := S) (f := f) HD.out h1 hc ht hi2 NF.out hY hX
                          rw [HCN.out, ← HY.out, ← HX.out, ← HMB.out] at this
                          rw [← HBV.out] at this
                          rw [← Nat.add_assoc]
                          simpa using this
                      case measure => simp [intOf]; omega
                    | false =>
                      go_wp2_with fail
                      refine (maskI_any k x y hk HXV.out HYV.out (by omega) (by omega)).mono ?_
                      rintro e w3 ⟨rfl, rfl⟩
                      rw [← HMB.out]
                      go_wp2_with fail
                      refine (msetb_any x y b hM (by have := HXV.out; omega) HYV.out (by omega) (by omega)).mono ?_
                      rintro e w5 ⟨rfl, hM5, hk5⟩
                      go_wp2_with fail
                      go_roundw
                      case rel =>
                        refine ⟨i + 1, by omega, by go_num, ?_, ?_, hkp.more hk5⟩
                        · rw [← Nat.add_assoc]; unfold bi; rw [HCS.out, HCN.out]; exact congrArg (Value.int .i64) (by omega)
                        · refine hM5.congr (fun Y X hY hX => ?_)
                          have := datC_putD (k := k) (S := S) (f := f) HD.out h1 hc ht hi2 NF.out hY hX
                          rw [HCN.out, ← HY.out, ← HX.out, ← HMB.out] at this
                          rw [← HBV.out] at this
                          rw [← Nat.add_assoc]
                          simpa using this
                      case measure => simp [intOf]; omega
                  · have hmin : min cn S.length = S.length := by omega
                    have hlt1 : decide ((S.length : Int) < (S.length : Int)) = false := by simp
                    rw [hmin]
                    have hb : false = S.getD cn false := (getD_past S cn (by omega)).symm
                    have HBV := Lib.hid hb
                    clear hmin hb
                    go_wp2_with fail
                    refine (mget_any x y hM HXV.out HYV.out (by omega) (by omega)).mono ?_
                    rintro e w2' ⟨rfl, rfl⟩
                    go_wp2_with fail
                    refine (isEmpty_any _ _).mono ?_
                    rintro e w1' ⟨rfl, rfl⟩
                    rw [hb2]
                    clear hb2
                    go_wp2_with fail
                    refine (size_any B g cc S wr hSr).mono ?_
                    rintro e w1' ⟨rfl, rfl⟩
                    cases mb with
                    | true =>
                      go_wp2_with fail
                      refine (maskI_any k x y hk HXV.out HYV.out (by omega) (by omega)).mono ?_
                      rintro e w3 ⟨rfl, rfl⟩
                      rw [← HMB.out]
                      go_wp2_with fail
                      refine (msetb_any x y true hM (by have := HXV.out; omega) HYV.out (by omega) (by omega)).mono ?_
                      rintro e w5 ⟨rfl, hM5, hk5⟩
                      go_wp2_with fail
                      go_roundw
                      case rel =>
                        refine ⟨i + 1, by omega, by go_num, ?_, ?_, hkp.more hk5⟩
                        · rw [← Nat.add_assoc]; unfold bi; rw [HCS.out, HCN.out]; exact congrArg (Value.int .i64) (by omega)
                        · refine hM5.congr (fun Y X hY hX => ?_)
                          have := datC_putD (k := k) (S := S) (f := f) HD.out h1 hc ht hi2 NF.out hY hX
                          rw [HCN.out, ← HY.out, ← HX.out, ← HMB.out] at this
                          rw [← HBV.out] at this
                          rw [← Nat.add_assoc]
                          simpa using this
                      case measure => simp [intOf]; omega
                    | false =>
                      go_wp2_with fail
                      refine (maskI_any k x y hk HXV.out HYV.out (by omega) (by omega)).mono ?_
                      rintro e w3 ⟨rfl, rfl⟩
                      rw [← HMB.out]
                      go_wp2_with fail
                      refine (msetb_any x y false hM (by have := HXV.out; omega) HYV.out (by omega) (by omega)).mono ?_
                      rintro e w5 ⟨rfl, hM5, hk5⟩
                      go_wp2_with fail
                      go_roundw
                      case rel =>
                        refine ⟨i + 1, by omega, by go_num, ?_, ?_, hkp.more hk5⟩
                        · rw [← Nat.add_assoc]; unfold bi; rw [HCS.out, HCN.out]; exact congrArg (Value.int .i64) (by omega)
                        · refine hM5.congr (fun Y X hY hX => ?_)
                          have := datC_putD (k := k) (S := S) (f := f) HD.out h1 hc ht hi2 NF.out hY hX
                          rw [HCN.out, ← HY.out, ← HX.out, ← HMB.out] at this
                          rw [← HBV.out] at this
                          rw [← Nat.add_assoc]
                          simpa using this
                      case measure => simp [intOf]; omega
              · have hie : i = 2 := by omega
                subst hie
                have hys := yv_succ d c t
                rw [HYI.out] at hys
                have HYS := Lib.hid hys
                clear hys
                go_wp2_with fail
                go_roundg (d - (t + 1))
                case measure => omega
                case rel => exact ⟨t + 1, by omega, by omega, by rw [HYS.out, HDC.out], by rw [show 2 * (c * d + (t + 1)) = 2 * (c * d + t) + 2 by omega], by rw [show 2 * (c * d + (t + 1)) = 2 * (c * d + t) + 2 by omega]; exact hM, hkp⟩
          · have hte : t = d := by omega
            rw [hte]
            have hend := yv_end d c
            have hyn := yv_next d c
            obtain ⟨Y0, hY0⟩ : ∃ Y0, Y0 = yv d c d := ⟨_, rfl⟩
            rw [← hY0] at hend hyn ⊢
            rw [hte] at hM
            have hYb : -1 ≤ Y0 ∧ Y0 ≤ ((d : Nat) : Int) := by omega
            have hq : 2 * (c * d + d) = 2 * ((c + 1) * d) := by have e : (c + 1) * d = c * d + d := Nat.succ_mul c d; rw [e]
            have hdn := dv_next c
            rw [← HDC.out] at hdn
            rw [← hdn] at hyn
            have HQ := Lib.hid hq
            have HDN := Lib.hid hdn
            have HYN := Lib.hid hyn
            have hnx2 : X1 - 2 = hx d (c + 1) := by have := HNX.out; have := HX1.out; omega
            have HNX2 := Lib.hid hnx2
            clear hY0 hq hdn hyn hnx2 hte
            rcases hend with hend | hend
            · have dg1 : decide ((0 : Int) ≤ Y0) = false := by simp; omega
              clear hend
              go_wp2_with fail
              go_roundw
              case rel => exact ⟨c + 1, by omega, by rw [← HQ.out], by rw [HDN.out], by rw [HNX2.out], by rw [HYN.out], by rw [← HQ.out]; exact hM, hkp⟩
              case measure => simp [intOf]; omega
            · have dg1 : decide ((0 : Int) ≤ Y0) = true := by simp; omega
              have dg2 : decide (Y0 < ((d : Nat) : Int)) = false := by simp; omega
              clear hend
              go_wp2_with fail
              refine (mh_any hM).mono ?_
              rintro e w2' ⟨rfl, rfl⟩
              go_wp2_with fail
              go_roundw
              case rel => exact ⟨c + 1, by omega, by rw [← HQ.out], by rw [HDN.out], by rw [HNX2.out], by rw [HYN.out], by rw [← HQ.out]; exact hM, hkp⟩
              case measure => simp [intOf]; omega
    · have hce : c = 8 + 2 * v := by omega
      have hxe : hx d c = -1 := by rw [hce, show 8 + 2 * v = (d - 1) / 2 by omega]; exact hx_end (by omega) (by omega)
      have hbi : bi v S (2 * (c * d)) = S.length := by unfold bi; rw [hce]; have := HR.out; omega
      rw [hxe, hbi]
      have hM' : Mat wr A R d (datC v k S (2 * ((8 + 2 * v) * d)) f) := by rw [← hce]; exact hM
      have hSr := hS.kp hkp hBo hgo
      clear hce hxe hbi
      go_wp2_with fail
      refine (size_any B g cc S wr hSr).mono ?_
      rintro e w1' ⟨rfl, rfl⟩
      go_wp2_with fail
      go_ret
      exact ⟨rfl, hM', hkp⟩
end
end Go.Proofs.YtcekbhhpcmhicaaGreatDoor
