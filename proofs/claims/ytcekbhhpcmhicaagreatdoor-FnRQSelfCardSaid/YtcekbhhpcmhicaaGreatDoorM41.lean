/- The black point of a picture of two grays: the walk through estimateBlackPoint; The global binarizer's matrix of a picture of two grays. -/
import Derived.Test.YtcekbhhpcmhicaaGreatDoorM05
import Derived.Test.YtcekbhhpcmhicaaGreatDoorM39
import Derived.Test.YtcekbhhpcmhicaaGreatDoorM40
import Derived.Deep.RegionWith
namespace Go.Proofs.YtcekbhhpcmhicaaGreatDoor
open Go.RowKit Go.QW Go.QGF Go.QH
section
variable {w : World}
def BlackP (D L : Nat) (w : World) (e : Ending) (w' : World) : Prop := ∃ bv : Nat, D < bv ∧ bv < L ∧ e = .returned (.tuple #[.int .i64 ((8 * bv : Nat) : Int), .nilIface]) ∧ w = w'
theorem blackP_mk {D L bv : Nat} {x : Int} (h : D < bv ∧ bv < L) (hx : x = ((8 * bv : Nat) : Int)) (w : World) : BlackP D L w (.returned (.tuple #[.int .i64 x, .nilIface])) w := ⟨bv, h.1, h.2, by rw [hx], rfl⟩
set_option maxHeartbeats 8000000 in
set_option maxRecDepth 100000 in
theorem ebp_any {X bb D L cd cl : Nat} {B : List Nat} (hB : Blk w bb 3 (ints .i64 B)) (h2 : Two B D L cd cl) :
    Calls Tryz.prog 333 #[.pointer (some ⟨X, 0, none⟩), .slice (some ⟨bb, 0, none⟩) 32 32] w (BlackP D L w) := by
  have hlen := h2.len
  have hget : ∀ x, x < 32 → w.cell? ⟨bb, x, none⟩ = some (.int .i64 (nth B x : Nat)) := fun x hx => by
    have := hB.cell x
    rw [ints_get (by rw [hlen]; exact hx)] at this
    exact this
  have HG := Lib.hid hget
  have H2 := Lib.hid h2
  clear hget h2 hlen
  go_enter Tryz.func333, Tryz.ntmps333
  go_wp2_with fail
  go_loop [7, 8, 9, 10] (fun t7 t8 t9 t10 => ∃ x fp fs : Nat, x ≤ 32 ∧ t7 = .int .i64 (fs : Nat) ∧ t8 = .int .i64 (fp : Nat) ∧ t9 = .int .i64 (fs : Nat) ∧ t10 = .int .i64 (x : Nat) ∧ Hid (PeakI B x fp fs)) (fun _ _ _ t10 => 32 - (intOf t10).toNat)
  case atStart => exact ⟨0, 0, 0, by omega, rfl, rfl, rfl, rfl, Lib.hid (PeakI.zero B)⟩
  case round =>
    obtain ⟨x, fp, fs, hx, rfl, rfl, rfl, rfl, HP⟩ := hrel
    by_cases hlt : x < 32
    · have hdx : decide ((x : Int) < 32) = true := by simp; omega
      have cB := HG.out x hlt
      obtain ⟨z, hz⟩ : ∃ z, z = nth B x := ⟨_, rfl⟩
      rw [← hz] at cB
      have HZ := Lib.hid hz
      clear hz
      by_cases hb : fs < z
      · have hdb : decide ((fs : Int) < (z : Int)) = true := by simp; omega
        have HP2 : Hid (PeakI B (x + 1) x z) := Lib.hid (by rw [HZ.out]; exact HP.out.up (by rw [← HZ.out]; exact hb))
        go_wp2_with fail
        go_round
        case rel => exact ⟨x + 1, x, z, by omega, rfl, rfl, rfl, by go_num, HP2⟩
        case measure => simp [intOf]; omega
      · have hdb : decide ((fs : Int) < (z : Int)) = false := by simp; omega
        have HP2 : Hid (PeakI B (x + 1) fp fs) := Lib.hid (HP.out.stay (by rw [← HZ.out]; omega))
        go_wp2_with fail
        go_round
        case rel => exact ⟨x + 1, fp, fs, by omega, rfl, rfl, rfl, by go_num, HP2⟩
        case measure => simp [intOf]; omega
    · obtain rfl : x = 32 := by omega
      obtain ⟨hf, hf1, hf4, hf32⟩ := H2.out.first HP.out
      have HF := Lib.hid hf
      clear hf hlt hx
      go_wp2_with fail
      go_loop [11, 12, 13] (fun t11 t12 t13 => ∃ x sp ss : Nat, x ≤ 32 ∧ t11 = .int .i64 (sp : Nat) ∧ t12 = .int .i64 (ss : Nat) ∧ t13 = .int .i64 (x : Nat) ∧ Hid (ScoreI B fp x sp ss)) (fun _ _ t13 => 32 - (intOf t13).toNat)
      case atStart => exact ⟨0, 0, 0, by omega, rfl, rfl, rfl, Lib.hid (ScoreI.zero B fp)⟩
      case round =>
        obtain ⟨x, sp, ss, hx, rfl, rfl, rfl, HS⟩ := hrel
        by_cases hlt : x < 32
        · have hdx : decide ((x : Int) < 32) = true := by simp; omega
          have cB := HG.out x hlt
          have hz4 := H2.out.le x
          obtain ⟨z, hz⟩ : ∃ z, z = nth B x := ⟨_, rfl⟩
          rw [← hz] at cB hz4
          have hsc := score_eq (b := z) (x := x) (p := fp) hz4 (by omega) (by omega)
          obtain ⟨q, hq⟩ : ∃ q, q = z * sq x fp := ⟨_, rfl⟩
          rw [← hq] at hsc
          have HQ : Hid (q = nth B x * sq x fp) := Lib.hid (by rw [hq, hz])
          clear hz hq
          by_cases hb : ss < q
          · have hdb : decide ((ss : Int) < (q : Int)) = true := by simp; omega
            have HS2 : Hid (ScoreI B fp (x + 1) x q) := Lib.hid (by rw [HQ.out]; exact HS.out.up (by rw [← HQ.out]; exact hb))
            go_wp2_with fail
            go_round
            case rel => exact ⟨x + 1, x, q, by omega, rfl, by rw [hsc], by go_num, HS2⟩
            case measure => simp [intOf]; omega
          · have hdb : decide ((ss : Int) < (q : Int)) = false := by simp; omega
            have HS2 : Hid (ScoreI B fp (x + 1) sp ss) := Lib.hid (HS.out.stay (by rw [← HQ.out]; omega))
            go_wp2_with fail
            go_round
            case rel => exact ⟨x + 1, sp, ss, by omega, rfl, rfl, by go_num, HS2⟩
            case measure => simp [intOf]; omega
        · obtain rfl : x = 32 := by omega
          have hl16 := H2.out.l16
          have hl32 := H2.out.l32
          have hdl := H2.out.dl
          have hsec := H2.out.second HF.out HS.out
          clear hlt hx
          rcases hsec with ⟨hfD, hsL⟩ | ⟨hfL, hsD⟩
          · obtain ⟨F, rfl⟩ : ∃ F, F = fp := ⟨_, rfl⟩
            obtain ⟨M, rfl⟩ : ∃ M, M = sp := ⟨_, rfl⟩
            have hds : decide ((M : Int) < (F : Int)) = false := by simp; omega
            have hd2 : decide ((M : Int) - (F : Int) ≤ 2) = false := by simp; omega
            have HFD : Hid ((F = D ∨ F = 0 ∧ cd = 0) ∧ M = L) := Lib.hid ⟨.inl hfD, hsL⟩
            have hFM : F + 3 ≤ M ∧ M < 32 := by omega
            clear hfD hsL
            go_wp2_with fail
            go_loop [16, 17, 18] (fun t16 t17 t18 => ∃ (x bv : Nat) (bs : Int), F ≤ x ∧ x < M ∧ t16 = .int .i64 (bv : Nat) ∧ t17 = .int .i64 bs ∧ t18 = .int .i64 (x : Nat) ∧ Hid (ValleyI F M fs x bv bs)) (fun _ _ t18 => (intOf t18).toNat)
            case atStart => exact ⟨M - 1, M - 1, -1, by omega, by omega, by congr 1; omega, rfl, by congr 1; omega, Lib.hid (ValleyI.zero (by omega))⟩
            case round =>
              obtain ⟨x, bv, bs, hx1, hx2, rfl, rfl, rfl, HV⟩ := hrel
              by_cases hlt : F < x
              · have hdx : decide ((F : Int) < (x : Int)) = true := by simp; omega
                have cB := HG.out x (by omega)
                rw [H2.out.mid HFD.out.1 hlt (by rw [← HFD.out.2]; exact hx2)] at cB
                have hsc := valley_eq (F := F) (L := M) (x := x) (m := fs) (by omega) (by omega) (by omega) (by omega)
                obtain ⟨q, hq⟩ : ∃ q, q = vs F M fs x := ⟨_, rfl⟩
                rw [← hq] at hsc
                have HQ := Lib.hid hq
                clear hq
                by_cases hb : bs < q
                · have hdb : decide (bs < (q : Int)) = true := by simp; omega
                  go_wp2_with fail
                  go_round
                  case rel =>
                    obtain ⟨x', rfl⟩ : ∃ x', x = x' + 1 := ⟨x - 1, by omega⟩
                    refine ⟨x', x' + 1, q, by omega, by omega, rfl, by rw [hsc], by congr 1; omega, Lib.hid ?_⟩
                    rw [HQ.out] at hb ⊢
                    exact HV.out.up hlt hx2 hb
                  case measure => simp [intOf]; omega
                · have hdb : decide (bs < (q : Int)) = false := by simp; omega
                  go_wp2_with fail
                  go_round
                  case rel =>
                    obtain ⟨x', rfl⟩ : ∃ x', x = x' + 1 := ⟨x - 1, by omega⟩
                    refine ⟨x', bv, bs, by omega, by omega, rfl, rfl, by congr 1; omega, Lib.hid ?_⟩
                    rw [HQ.out] at hb
                    exact HV.out.stay (by omega)
                  case measure => simp [intOf]; omega
              · have hdx : decide ((F : Int) < (x : Int)) = false := by simp; omega
                obtain rfl : x = F := by omega
                have hv := H2.out.valley HFD.out.1 hf1 (by rw [← HFD.out.2]; exact HV.out)
                go_wp2_with fail
                go_ret2
                exact blackP_mk hv (by first | rfl | omega) _
          · obtain ⟨M, rfl⟩ : ∃ M, M = fp := ⟨_, rfl⟩
            obtain ⟨F, rfl⟩ : ∃ F, F = sp := ⟨_, rfl⟩
            have hds : decide ((F : Int) < (M : Int)) = true := by simp; omega
            have hd2 : decide ((M : Int) - (F : Int) ≤ 2) = false := by simp; omega
            have HFD : Hid ((F = D ∨ F = 0 ∧ cd = 0) ∧ M = L) := Lib.hid ⟨hsD, hfL⟩
            have hFM : F + 3 ≤ M ∧ M < 32 := by omega
            clear hsD hfL
            go_wp2_with fail
            go_loop [16, 17, 18] (fun t16 t17 t18 => ∃ (x bv : Nat) (bs : Int), F ≤ x ∧ x < M ∧ t16 = .int .i64 (bv : Nat) ∧ t17 = .int .i64 bs ∧ t18 = .int .i64 (x : Nat) ∧ Hid (ValleyI F M fs x bv bs)) (fun _ _ t18 => (intOf t18).toNat)
            case atStart => exact ⟨M - 1, M - 1, -1, by omega, by omega, by congr 1; omega, rfl, by congr 1; omega, Lib.hid (ValleyI.zero (by omega))⟩
            case round =>
              obtain ⟨x, bv, bs, hx1, hx2, rfl, rfl, rfl, HV⟩ := hrel
              by_cases hlt : F < x
              · have hdx : decide ((F : Int) < (x : Int)) = true := by simp; omega
                have cB := HG.out x (by omega)
                rw [H2.out.mid HFD.out.1 hlt (by rw [← HFD.out.2]; exact hx2)] at cB
                have hsc := valley_eq (F := F) (L := M) (x := x) (m := fs) (by omega) (by omega) (by omega) (by omega)
                obtain ⟨q, hq⟩ : ∃ q, q = vs F M fs x := ⟨_, rfl⟩
                rw [← hq] at hsc
                have HQ := Lib.hid hq
                clear hq
                by_cases hb : bs < q
                · have hdb : decide (bs < (q : Int)) = true := by simp; omega
                  go_wp2_with fail
                  go_round
                  case rel =>
                    obtain ⟨x', rfl⟩ : ∃ x', x = x' + 1 := ⟨x - 1, by omega⟩
                    refine ⟨x', x' + 1, q, by omega, by omega, rfl, by rw [hsc], by congr 1; omega, Lib.hid ?_⟩
                    rw [HQ.out] at hb ⊢
                    exact HV.out.up hlt hx2 hb
                  case measure => simp [intOf]; omega
                · have hdb : decide (bs < (q : Int)) = false := by simp; omega
                  go_wp2_with fail
                  go_round
                  case rel =>
                    obtain ⟨x', rfl⟩ : ∃ x', x = x' + 1 := ⟨x - 1, by omega⟩
                    refine ⟨x', bv, bs, by omega, by omega, rfl, rfl, by congr 1; omega, Lib.hid ?_⟩
                    rw [HQ.out] at hb
                    exact HV.out.stay (by omega)
                  case measure => simp [intOf]; omega
              · have hdx : decide ((F : Int) < (x : Int)) = false := by simp; omega
                obtain rfl : x = F := by omega
                have hv := H2.out.valley HFD.out.1 hf1 (by rw [← HFD.out.2]; exact HV.out)
                go_wp2_with fail
                go_ret2
                exact blackP_mk hv (by first | rfl | omega) _
end
end Go.Proofs.YtcekbhhpcmhicaaGreatDoor
namespace Go.Proofs.YtcekbhhpcmhicaaGreatDoor
open Go.RowKit Go.QW Go.QGF Go.QI Go.QH
section
variable {w : World}
theorem ghsrc_any {X P lb ll lc bb : Nat} {B : List Nat} (h : Gh w X P lb ll lc bb B) : Calls Tryz.prog 330 #[.pointer (some ⟨X, 0, none⟩)] w fun e w' => e = .returned (.iface 298 (.pointer (some ⟨P, 0, none⟩))) ∧ w = w' := by
  have a0 := h.blk.cell 0
  simp only [List.getElem?_toArray, List.getElem?_cons_zero] at a0
  go_enter Tryz.func330, Tryz.ntmps330
  go_wp2
  go_ret
  exact ⟨rfl, rfl⟩
theorem u8_and' (a b : Nat) (ha : a < 256) (hb : b < 256) : bits .and .u8 (a : Int) (b : Int) = ((a &&& b : Nat) : Int) := by
  have hx : a &&& b < 2 ^ 8 := Nat.and_lt_two_pow _ (by omega)
  have e : ∀ c : Nat, c < 256 → (BitVec.ofInt 8 (c : Int)).toNat = c := fun c hc => by rw [BitVec.ofInt_natCast, BitVec.toNat_ofNat]; exact Nat.mod_eq_of_lt (by omega)
  show IntKind.u8.wrap ((BitVec.ofInt 8 (a : Int) &&& BitVec.ofInt 8 (b : Int)).toNat : Int) = _
  rw [BitVec.toNat_and, e a ha, e b hb, IntKind.wrap_u8]; omega
theorem upTo_rowF {i W : Nat} {F : Nat → Nat → Bool} (ho : ∀ y x, W ≤ x → F y x = false) (Y X : Nat) : upTo i W F Y X = upTo (i + 1) 0 F Y X := by
  unfold upTo
  by_cases c2 : Y < i ∨ (Y = i ∧ X < W)
  · rw [if_pos c2, if_pos (by omega)]
  · rw [if_neg c2]
    by_cases c3 : Y < i + 1 ∨ (Y = i + 1 ∧ X < 0)
    · rw [if_pos c3, ho Y X (by omega)]
    · rw [if_neg c3]
theorem BX.ups {A g W H : Nat} {F : Nat → Nat → Bool} (h : BX w A g W H (upTo H 0 F)) (hF : ∀ y x, W ≤ x → F y x = false) : BX w A g W H F := by
  obtain ⟨ws, r, hr, hl, hA, hg, hw, ht, ho, h1, h2⟩ := h.ex
  exact ⟨ws, r, hr, hl, hA, hg, hw, fun y x hy hx => by rw [ht y x hy hx]; unfold upTo; rw [if_pos (.inl hy)], hF, h1, h2⟩
theorem Gh.drewkp {w w' : World} {X P lb ll lc bb n : Nat} {B S : List Nat} (h : Gh w X P lb ll lc bb B) (hk : Kp S (w.drewN n) w') (h1 : X ∉ S) (h2 : bb ∉ S) : Gh w' X P lb ll lc bb B := ⟨(h.blk.drewN n).kp hk h1, (h.bkt.drewN n).kp hk h2, h.len⟩
theorem Lum.drewN {w : World} {P g W H N c : Nat} {phi : Nat → Nat} (h : Lum w P g W H N c phi) (n : Nat) : Lum (w.drewN n) P g W H N c phi := ⟨h.blk.drewN n, h.gry, h.hN, h.w1, h.h1, h.hc⟩
theorem Lum.drew {w : World} {P g W H N c : Nat} {phi : Nat → Nat} (h : Lum w P g W H N c phi) : Lum w.drew P g W H N c phi := ⟨h.blk.drew, h.gry, h.hN, h.w1, h.h1, h.hc⟩
theorem u8_and255 (z : Nat) (hz : z < 256) : bits .and .u8 (z : Int) 255 = ((z : Nat) : Int) := by
  have := u8_and' z 255 hz (by omega)
  rw [show z &&& 255 = z from by rw [show 255 = 2 ^ 8 - 1 from rfl, Nat.and_two_pow_sub_one_eq_mod]; omega] at this
  exact this
/-- a picture of two grays -/
structure Grays (F : Nat → Nat → Bool) (W H dk lt : Nat) (phi : Nat → Nat) : Prop where
  px : ∀ y x, y < H → x < W → phi (y * W + x) = if F y x then dk else lt
  out : ∀ y x, W ≤ x → F y x = false
  l1 : 128 ≤ lt
  l2 : lt ≤ 255
  d3 : 3 * dk ≤ lt
set_option maxHeartbeats 16000000 in
set_option maxRecDepth 100000 in
theorem gbm_any {X P lb bb g W H N c dk lt : Nat} {phi : Nat → Nat} {F : Nat → Nat → Bool} (hG : Gh w X P lb 0 0 bb (List.replicate 32 0)) (hL : Lum w P g W H N c phi) (hp : Grays F W H dk lt phi) (hlight : ∀ y, y < H → F y (W / 5) = false) (hW5 : 20 ≤ W) (hfar : g < X ∧ g < bb ∧ P < X ∧ P < bb) :
    Calls Tryz.prog 327 #[.pointer (some ⟨X, 0, none⟩)] w fun e w' => ∃ A g', e = .returned (.tuple #[.pointer (some ⟨A, 0, none⟩), .nilIface]) ∧ BX w' A g' W H F ∧ w.heap.size ≤ A ∧ w.heap.size ≤ g' ∧ Kp [X, bb] w w' := by
  have hw1 := hL.w1
  have hh1 := hL.h1
  have hmw : ∀ w, (method 546 298 (.pointer (some ⟨P, 0, none⟩)) "GetWidth").run Tryz.prog w = .ok (348, .pointer (some ⟨P, 0, none⟩)) w := fun _ => by kernel_rfl
  have hmh : ∀ w, (method 546 298 (.pointer (some ⟨P, 0, none⟩)) "GetHeight").run Tryz.prog w = .ok (345, .pointer (some ⟨P, 0, none⟩)) w := fun _ => by kernel_rfl
  have hmm : ∀ w, (method 546 298 (.pointer (some ⟨P, 0, none⟩)) "GetMatrix").run Tryz.prog w = .ok (346, .pointer (some ⟨P, 0, none⟩)) w := fun _ => by kernel_rfl
  have hmr : ∀ w, (method 546 298 (.pointer (some ⟨P, 0, none⟩)) "GetRow").run Tryz.prog w = .ok (347, .pointer (some ⟨P, 0, none⟩)) w := fun _ => by kernel_rfl
  have hna : ∀ w, (nilAhead 546 298 (.pointer (some ⟨P, 0, none⟩)) "GetRow").run Tryz.prog w = .ok (some false) w := fun _ => by kernel_rfl
  have hLP := hL.blk.lt
  have hLg := hL.gry.1
  have hGX := hG.blk.lt
  have hGb := hG.bkt.lt
  go_enter Tryz.func327, Tryz.ntmps327
  go_wp2_with fail
  refine (ghsrc_any hG).mono ?_
  rintro e w1 ⟨rfl, rfl⟩
  go_wp2_with fail
  refine (lumw_any hL).mono ?_
  rintro e w1 ⟨rfl, rfl⟩
  go_wp2_with fail
  refine (lumh_any hL).mono ?_
  rintro e w1 ⟨rfl, rfl⟩
  go_wp2_with fail
  refine (newbx_any W H hw1 hh1 w).mono ?_
  rintro e w1 ⟨A, ga, rfl, hA, hA1, hA2, hb1⟩
  have hz1 := hb1.size
  have hG1 := hG.below hb1 hGX hGb
  have hL1 := hL.below hb1 hLP hLg
  have hAl := hA.lt
  go_wp2_with fail
  refine (initarr_any hG1 (by omega) (by omega)).mono ?_
  rintro e w2 ⟨nb, rfl, hG2, hN2, hnb, hk2⟩
  have hz2 := hk2.size
  have hL2 := hL1.kp hk2 (by simp; omega) (by simp; omega)
  have hA3 := hA.kp hk2 (by simp; omega) (by simp; omega)
  have a1 := hG2.blk.cell 1
  have a2 := hG2.blk.cell 2
  simp only [List.getElem?_toArray, List.getElem?_cons_zero, List.getElem?_cons_succ] at a1 a2
  go_wp2_with fail
  go_loopw [10] (fun t10 wr => ∃ (i : Nat) (B l : List Nat), 1 ≤ i ∧ i ≤ 5 ∧ t10 = .int .i64 (i : Nat) ∧ Gh wr X P nb W W bb B ∧ Blk wr nb 5 (ints .u8 l) ∧ l.length = W ∧ Hid (HistI B (dk / 8) (lt / 8) (1000 * (i - 1)) (2 ≤ i)) ∧ Kp [nb, bb] w2 wr) (fun t10 _ => 5 - (intOf t10).toNat)
  case atStart => exact ⟨1, _, _, by omega, by omega, rfl, hG2, hN2, by simp, Lib.hid (HistI.zero _ _ _ (by omega)), Kp.refl _ _⟩
  case round =>
    obtain ⟨i, B, l, hi1, hi, rfl, hGr, hNr, hll, HI, hkr⟩ := hrel
    by_cases hlt : i < 5
    · have hdi : decide ((i : Int) < 5) = true := by simp; omega
      have r1 := hGr.blk.cell 1
      simp only [List.getElem?_toArray, List.getElem?_cons_zero, List.getElem?_cons_succ] at r1
      obtain ⟨p, hpe⟩ : ∃ p, p = H * i := ⟨_, rfl⟩
      have hp4 : p ≤ 4000 ∧ p < 5 * H := by
        have h1 := Nat.mul_le_mul hh1.2 (show i ≤ 4 by omega)
        have h2 := Nat.mul_le_mul_left H (show i ≤ 4 by omega)
        omega
      obtain ⟨q, hqe⟩ : ∃ q, q = p / 5 := ⟨_, rfl⟩
      have hqH : q < H := by omega
      have hq : (p : Int) / 5 = ((q : Nat) : Int) := by rw [hqe]; rfl
      have hmul : wrap64 ((H : Int) * (i : Int)) = ((p : Nat) : Int) := by rw [← Int.natCast_mul, ← hpe]; exact wrap_nat (by omega)
      clear hpe hqe
      go_wp2_with fail
      have hLr := hL2.kp hkr (by simp; omega) (by simp; omega)
      go_region_with (go_at_call 347; go_loud (refine (lumrow_any (y := q) hLr.drew hNr.drew hll hqH).mono ?_; rintro e w4 ⟨rfl, hN4, hk4⟩))
      all_goals
        have hkr4 : Kp [nb, bb] w2 w4 := hkr.drew.trans hk4 (by intro a ha _; simp at ha ⊢; exact .inl ha)
        have hG4 : Gh w4 X P nb W W bb B := hGr.drewkp (n := 1) hk4 (by simp; omega) (by simp; omega)
        obtain ⟨lf, hlf⟩ : ∃ lf, lf = W / 5 := ⟨_, rfl⟩
        obtain ⟨rt, hrt⟩ : ∃ rt, rt = W * 4 / 5 := ⟨_, rfl⟩
        have hlfI : (W : Int) / 5 = ((lf : Nat) : Int) := by rw [hlf]; rfl
        have hrtI : (W : Int) * 4 / 5 = ((rt : Nat) : Int) := by rw [hrt]; rfl
        have hlr : lf < rt ∧ rt ≤ W ∧ rt ≤ lf + 1000 := by omega
        have HLF := Lib.hid hlf
        clear hlf hrt hmul hq r1
        go_wp2_with fail
        rw [hrtI]
        clear hlfI hrtI
        obtain ⟨B0, rfl⟩ : ∃ B0, B0 = B := ⟨_, rfl⟩
        obtain ⟨wo, rfl⟩ : ∃ wo : World, wo = wr := ⟨_, rfl⟩
        have HK4 := Lib.hid hkr4
        clear hGr hNr hkr hkr4 hk4
        go_loopw [15] (fun t15 wr => ∃ (x : Nat) (B : List Nat), lf ≤ x ∧ x ≤ rt ∧ t15 = .int .i64 (x : Nat) ∧ Gh wr X P nb W W bb B ∧ Hid (HistI B (dk / 8) (lt / 8) (1000 * (i - 1) + (x - lf)) (2 ≤ i ∨ lf < x)) ∧ Kp [bb] w4 wr) (fun t15 _ => rt - (intOf t15).toNat)
        case atStart => exact ⟨lf, _, by omega, by omega, rfl, hG4, Lib.hid (HI.out.mono (by omega) (fun h => by omega)), Kp.refl _ _⟩
        case round =>
          obtain ⟨x, B, hx1, hx, rfl, hGr, HI, hkr⟩ := hrel
          by_cases hlt2 : x < rt
          · have hdx : decide ((x : Int) < (rt : Int)) = true := by simp; omega
            have cn := (hN4.kp hkr (by simp; omega)).cell x
            rw [ints_get (by rw [tab_length]; omega), nth_tab (by omega), hp.px q x hqH (by omega)] at cn
            obtain ⟨z, hz⟩ : ∃ z, z = if F q x then dk else lt := ⟨_, rfl⟩
            rw [← hz] at cn
            have hzz : (z = dk ∨ z = lt) ∧ (x = lf → z = lt) := by
              refine ⟨?_, fun e => ?_⟩
              · cases hc : F q x with
                | true => rw [hz, hc]; exact .inl rfl
                | false => rw [hz, hc]; exact .inr rfl
              · rw [hz, e, HLF.out, hlight q hqH]; rfl
            have hgl2 := hp.l2
            have hgd := hp.d3
            have hz256 : z < 256 := by omega
            have hand := u8_and255 z hz256
            obtain ⟨zq, hzq⟩ : ∃ zq, zq = z / 8 := ⟨_, rfl⟩
            have hzI : (z : Int) / 8 = ((zq : Nat) : Int) := by rw [hzq]; rfl
            have hzq32 : zq < 32 := by omega
            have cB := hGr.bkt.cell zq
            rw [ints_get (by rw [hGr.len]; exact hzq32)] at cB
            have fB := hGr.bkt.frozen zq
            have hn4 : nth B zq ≤ 5000 := by
              have h1 := HI.out.bd
              by_cases e1 : zq = dk / 8
              · rw [e1]; omega
              · by_cases e2 : zq = lt / 8
                · rw [e2]; omega
                · rw [HI.out.off zq e1 e2]; omega
            have hput : HistI (B.set zq (nth B zq + 1)) (dk / 8) (lt / 8) (1000 * (i - 1) + (x + 1 - lf)) (2 ≤ i ∨ lf < x + 1) := by
              have := HI.out.put (i := zq) (p' := 2 ≤ i ∨ lf < x + 1) (by rcases hzz.1 with e | e <;> rw [hzq, e] <;> simp) hzq32 (fun h => by
                by_cases e : x = lf
                · exact .inr (by rw [hzq, hzz.2 e])
                · exact .inl (by omega))
              exact this.mono (by omega) id
            obtain ⟨nz, hnz⟩ : ∃ nz, nz = nth B zq := ⟨_, rfl⟩
            rw [← hnz] at cB hn4 hput
            have hset := hGr.bkt.set_ zq (.int .i64 ((nz + 1 : Nat) : Int))
            rw [ints_set] at hset
            have hXb : X ≠ bb := hGr.blk.ne_ hGr.bkt (by decide)
            have hG5 : Gh (wr.setCell ⟨bb, zq, none⟩ (.int .i64 ((nz : Int) + 1))) X P nb W W bb (B.set zq (nz + 1)) := ⟨hGr.blk.far hXb _, hset, by rw [List.length_set]; exact hGr.len⟩
            have HG5 := Lib.hid hG5
            have HPUT := Lib.hid hput
            clear hz hzz hzq hset hG5 hput hnz
            go_wp2_with fail
            go_roundw
            case rel => exact ⟨x + 1, _, by omega, by omega, by go_num, HG5.out, HPUT, hkr.setCell (by simp) _⟩
            case measure => simp [intOf]; omega
          · have hdx : decide ((x : Int) < (rt : Int)) = false := by simp; omega
            have hN5 := hN4.kp hkr (by simp; omega)
            have hk5 : Kp [nb, bb] w2 wr := HK4.out.trans hkr (by intro a ha _; simp at ha ⊢; exact .inr ha)
            go_wp2_with fail
            go_roundw
            case rel => exact ⟨i + 1, B, _, by omega, by omega, by go_num, hGr, hN5, tab_length _ _, Lib.hid (HI.out.mono (by omega) (fun _ => by omega)), hk5⟩
            case measure => simp [intOf]; omega
    · have hdi : decide ((i : Int) < 5) = false := by simp; omega
      obtain rfl : i = 5 := by omega
      have h2 := HI.out.two (by omega) (by omega) hp.l1 hp.l2 hp.d3
      go_wp2_with fail
      refine (ebp_any hGr.bkt h2).mono ?_
      rintro e w4 ⟨bv, hbv1, hbv2, rfl, rfl⟩
      obtain ⟨bp, hbp⟩ : ∃ bp, bp = 8 * bv := ⟨_, rfl⟩
      rw [← hbp]
      have hgl1 := hp.l1
      have hgl2 := hp.l2
      have hgd := hp.d3
      have hbpb : dk < bp ∧ bp ≤ lt := by omega
      have hLr := hL2.kp hkr (by simp; omega) (by simp; omega)
      have hAr := hA3.kp hkr (by simp; omega) (by simp; omega)
      have hn := hLr.n
      have hcN := hLr.hc
      clear hbp hbv1 hbv2 h2
      go_wp2_with fail
      refine (lummat_any hLr).mono ?_
      rintro e w4 ⟨rfl, rfl⟩
      go_wp2_with fail
      obtain ⟨wo, rfl⟩ : ∃ wo : World, wo = wr := ⟨_, rfl⟩
      go_loopw [19] (fun t19 wr => ∃ y : Nat, y ≤ H ∧ t19 = .int .i64 (y : Nat) ∧ BX wr A ga W H (upTo y 0 F) ∧ Kp [ga] wo wr) (fun t19 _ => H - (intOf t19).toNat)
      case atStart => exact ⟨0, by omega, rfl, hAr.congr (fun Y X => by unfold upTo; rw [if_neg (by omega)]), Kp.refl _ _⟩
      case round =>
        obtain ⟨y, hy, rfl, hMr, hkq⟩ := hrel
        by_cases hlt3 : y < H
        · have hdy : decide ((y : Int) < (H : Int)) = true := by simp; omega
          obtain ⟨o, ho⟩ : ∃ o, o = y * W := ⟨_, rfl⟩
          have hoN : o + W ≤ N := by
            rw [ho, hLr.hN]
            have : (y + 1) * W ≤ H * W := Nat.mul_le_mul_right _ hlt3
            rw [Nat.succ_mul] at this
            exact this
          have hmul : wrap64 ((y : Int) * (W : Int)) = ((o : Nat) : Int) := by rw [← Int.natCast_mul, ← ho]; exact wrap_nat (by omega)
          have HO := Lib.hid ho
          clear ho
          go_wp2_with fail
          rw [hmul]
          clear hmul
          obtain ⟨wq, rfl⟩ : ∃ wq : World, wq = wr := ⟨_, rfl⟩
          go_loopw [21] (fun t21 wr => ∃ x : Nat, x ≤ W ∧ t21 = .int .i64 (x : Nat) ∧ BX wr A ga W H (upTo y x F) ∧ Kp [ga] wo wr) (fun t21 _ => W - (intOf t21).toNat)
          case atStart => exact ⟨0, by omega, rfl, hMr, hkq⟩
          case round =>
            obtain ⟨x, hx, rfl, hMr, hkq⟩ := hrel
            by_cases hlt4 : x < W
            · have hdx : decide ((x : Int) < (W : Int)) = true := by simp; omega
              have cg := (hLr.gry.kp hkq (by simp; omega)).2 (o + x) (by omega)
              have hpx := hp.px y x hlt3 hlt4
              rw [← HO.out] at hpx
              cases hv : F y x with
              | true =>
                rw [hpx, hv] at cg
                have cg' : wr.cell? ⟨g, o + x, none⟩ = some (.int .u8 (dk : Nat)) := cg
                have hand := u8_and255 dk (by omega)
                have hdb : decide ((dk : Int) < (bp : Int)) = true := by simp; omega
                have HV := Lib.hid hv
                clear hv cg hpx
                go_wp2_with fail
                refine (bxset_any x y hMr rfl rfl hlt4 hlt3).mono ?_
                rintro e w6 ⟨rfl, hM6, hk6⟩
                go_wp2_with fail
                go_roundw
                case rel => exact ⟨x + 1, by omega, by go_num, hM6.congr (fun Y X => upTo_set HV.out Y X), hkq.trans hk6 (by intro a ha _; exact ha)⟩
                case measure => simp [intOf]; omega
              | false =>
                rw [hpx, hv] at cg
                have cg' : wr.cell? ⟨g, o + x, none⟩ = some (.int .u8 (lt : Nat)) := cg
                have hand := u8_and255 lt (by omega)
                have hdb : decide ((lt : Int) < (bp : Int)) = false := by simp; omega
                have HV := Lib.hid hv
                clear hv cg hpx
                go_wp2_with fail
                go_roundw
                case rel => exact ⟨x + 1, by omega, by go_num, hMr.congr (fun Y X => upTo_skip HV.out Y X), hkq⟩
                case measure => simp [intOf]; omega
            · have hdx : decide ((x : Int) < (W : Int)) = false := by simp; omega
              have hxe : x = W := by omega
              have hM' : BX wr A ga W H (upTo (y + 1) 0 F) := hMr.congr (fun Y X => by rw [hxe]; exact upTo_rowF hp.out Y X)
              clear hxe
              go_wp2_with fail
              go_roundw
              case rel => exact ⟨y + 1, by omega, by go_num, hM', hkq⟩
              case measure => simp [intOf]; omega
        · have hdy : decide ((y : Int) < (H : Int)) = false := by simp; omega
          obtain rfl : y = H := by omega
          have hM' : BX wr A ga W y F := hMr.ups hp.out
          go_wp2_with fail
          go_ret2
          refine ⟨A, ga, rfl, hM', hA1, hA2, ?_⟩
          refine ((((Kp.of_below hb1 : Kp [X, bb] w w1).trans hk2 (by intro a ha _; exact ha)).trans hkr (by intro a ha hl; simp at ha ⊢; omega)).trans hkq (by intro a ha hl; simp at ha; omega))
end
end Go.Proofs.YtcekbhhpcmhicaaGreatDoor
