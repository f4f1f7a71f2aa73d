/- Format and version are painted: embedTypeInfo, maybeEmbedVersionInfo; The mask of the encoder; The visit's places as the program computes them; Data cells of each version: room for its bytes, and less than a byte more. -/
import Derived.Test.YtcekbhhpcmhicaaGreatDoorM12
import Derived.Test.YtcekbhhpcmhicaaGreatDoorM15
import Derived.KernelRfl
namespace Go.QM
open Go.QV Go.QZ Go.QW
theorem tinfo_at {d T i : Nat} {f : Cells} {Y X : Nat} (hi : tpos d Y X = i) : b01 (T.testBit i) = tinfo d T (i + 1) f Y X := by
  subst hi
  unfold tinfo b01
  rw [if_pos (show tpos d Y X < tpos d Y X + 1 by omega)]
theorem tinfo_far {d T i : Nat} {f : Cells} {Y X : Nat} (hi : tpos d Y X ≠ i) : tinfo d T i f Y X = tinfo d T (i + 1) f Y X := by
  unfold tinfo
  by_cases l : tpos d Y X < i
  · rw [if_pos l, if_pos (show tpos d Y X < i + 1 by omega)]
  · rw [if_neg l, if_neg (show ¬ tpos d Y X < i + 1 by omega)]
theorem tinfo_a {d T i : Nat} {f : Cells} (hd : 21 ≤ d) (hi : i < 8) (Y X : Nat) :
    upd (upd (tinfo d T i f) (ty i) (tx i) (b01 (T.testBit i))) 8 (d - i - 1) (b01 (T.testBit i)) Y X = tinfo d T (i + 1) f Y X := by
  unfold upd
  by_cases e2 : Y = 8 ∧ X = d - i - 1
  · obtain ⟨rfl, rfl⟩ := e2
    rw [if_pos ⟨rfl, rfl⟩]
    exact tinfo_at (tpos_two1 hd hi)
  · rw [if_neg e2]
    by_cases e1 : Y = ty i ∧ X = tx i
    · obtain ⟨rfl, rfl⟩ := e1
      rw [if_pos ⟨rfl, rfl⟩]
      exact tinfo_at (tpos_one hd (by omega))
    · rw [if_neg e1]
      refine tinfo_far (fun h => ?_)
      rcases tpos_only hd (by omega) h with h | h | h
      · exact e1 h
      · exact e2 h.2
      · omega
theorem tinfo_b {d T i : Nat} {f : Cells} (hd : 21 ≤ d) (h8 : 8 ≤ i) (hi : i < 15) (Y X : Nat) :
    upd (upd (upd (tinfo d T i f) (ty i) (tx i) (b01 (T.testBit i))) (d - 7 + (i - 8)) 8 (b01 (T.testBit i))) (d - 7 + (i - 8)) 8 (b01 (T.testBit i)) Y X = tinfo d T (i + 1) f Y X := by
  unfold upd
  by_cases e2 : Y = d - 7 + (i - 8) ∧ X = 8
  · obtain ⟨rfl, rfl⟩ := e2
    rw [if_pos ⟨rfl, rfl⟩]
    exact tinfo_at (tpos_two2 hd h8 hi)
  · rw [if_neg e2, if_neg e2]
    by_cases e1 : Y = ty i ∧ X = tx i
    · obtain ⟨rfl, rfl⟩ := e1
      rw [if_pos ⟨rfl, rfl⟩]
      exact tinfo_at (tpos_one hd (by omega))
    · rw [if_neg e1]
      refine tinfo_far (fun h => ?_)
      rcases tpos_only hd (by omega) h with h | h | h
      · exact e1 h
      · omega
      · exact e2 h.2
theorem tx_le (i : Nat) : tx i ≤ 8 := by unfold tx; repeat' split
                                         all_goals omega
theorem ty_le (i : Nat) : ty i ≤ 8 := by unfold ty; repeat' split
                                         all_goals omega
theorem vinfo_step {d T i j : Nat} {f : Cells} (hd : 21 ≤ d) (hi : i < 6) (hj : j < 3) (Y X : Nat) :
    upd (upd (vinfo d T (3 * i + j) f) (d - 11 + j) i (b01 (T.testBit (3 * i + j)))) i (d - 11 + j) (b01 (T.testBit (3 * i + j))) Y X = vinfo d T (3 * i + j + 1) f Y X := by
  have at_ : ∀ Y X, vpos d Y X = 3 * i + j → b01 (T.testBit (3 * i + j)) = vinfo d T (3 * i + j + 1) f Y X := by
    intro Y X h
    unfold vinfo b01
    rw [h, if_pos (show 3 * i + j < 3 * i + j + 1 by omega)]
  unfold upd
  by_cases e2 : Y = i ∧ X = d - 11 + j
  · obtain ⟨rfl, rfl⟩ := e2
    rw [if_pos ⟨rfl, rfl⟩]
    exact at_ _ _ (vpos_two hd hi hj)
  · rw [if_neg e2]
    by_cases e1 : Y = d - 11 + j ∧ X = i
    · obtain ⟨rfl, rfl⟩ := e1
      rw [if_pos ⟨rfl, rfl⟩]
      exact at_ _ _ (vpos_one hd hi hj)
    · rw [if_neg e1]
      have hne : vpos d Y X ≠ 3 * i + j := by
        intro h
        rcases vpos_only hd hi hj h with h | h
        · exact e1 h
        · exact e2 h
      unfold vinfo
      by_cases l : vpos d Y X < 3 * i + j
      · rw [if_pos l, if_pos (show vpos d Y X < 3 * i + j + 1 by omega)]
      · rw [if_neg l, if_neg (show ¬ vpos d Y X < 3 * i + j + 1 by omega)]
end Go.QM
namespace Go.Proofs.YtcekbhhpcmhicaaGreatDoor
open Go.RowKit Go.QW Go.QM Go.QV Go.QZ
section
variable {w : World} {A R d : Nat} {f : Cells}
set_option maxHeartbeats 8000000 in
set_option maxRecDepth 100000 in
theorem typeInfo_any (l k : Nat) (hl : l < 4) (hk : k < 8) (h : Mat w A R d f) (hd : 21 ≤ d) :
    Calls Tryz.prog 125 #[.int .i64 l, .int .i64 k, .pointer (some ⟨A, 0, none⟩)] w fun e w' => e = .returned .nilIface ∧ Mat w' A R d (tinfo d (fmtT (l * 8 + k)) 15 f) ∧ Kp (rowsOf R d) w w' := by
  have hd2 := h.le
  obtain ⟨T, hTe⟩ : ∃ T, T = fmtT (l * 8 + k) := ⟨_, rfl⟩
  rw [← hTe]
  have HTE := Lib.hid hTe
  clear hTe
  go_enter Tryz.func125, Tryz.ntmps125
  go_wp2_with fail
  refine (newbitsW_any w).mono ?_
  rintro e w1 ⟨B, g, rfl, hB, hB1, hg1, hb1⟩
  go_wp2_with fail
  refine (typeBits_any l k hl hk hB).mono ?_
  rintro e w2 ⟨rfl, hT, hk2⟩
  rw [← HTE.out] at hT
  have hw2 : Below w.heap.size w w2 := below_of_kp hb1 hk2 hb1.size (by intro i hi; simp only [List.mem_cons, List.not_mem_nil, or_false] at hi; omega)
  have hM2 := h.below hw2
  have hBo : B ∉ rowsOf R d := h.fresh hB1
  have hgo : g ∉ rowsOf R d := h.fresh hg1
  go_wp2_with fail
  go_loopw [9] (fun t9 wr => ∃ i : Nat, i ≤ 15 ∧ t9 = .int .i64 i ∧ Mat wr A R d (tinfo d T i f) ∧ Kp (rowsOf R d) w2 wr) (fun t9 _ => 15 - (intOf t9).toNat)
  case atStart => exact ⟨0, by omega, rfl, hM2.congr (fun y x _ _ => by unfold tinfo; rw [if_neg (by omega)]), Kp.refl _ _⟩
  case round =>
    obtain ⟨i, hi, rfl, hM, hkp⟩ := hrel
    have hTr := hT.kp hkp hBo hgo
    by_cases hlt : i < 15
    · have hbit : (bitsOf 15 T).getD (14 - i) false = T.testBit i := by rw [bitsOf_getD _ _ _ (by omega), show 15 - 1 - (14 - i) = i by omega]
      obtain ⟨b, hb⟩ : ∃ b, b = T.testBit i := ⟨_, rfl⟩
      rw [← hb] at hbit
      have HBIT := Lib.hid hbit
      have hda : decide ((i : Int) < 15) = true := by simp; omega
      have hix : (14 : Int) - (i : Int) = ((14 - i : Nat) : Int) := by omega
      have HIX := Lib.hid hix
      clear hix
      have htx := tx_le i
      have hty := ty_le i
      have h7c : (decide ((i : Int) < 8) = true ∧ i < 8) ∨ (decide ((i : Int) < 8) = false ∧ 8 ≤ i) := by
        simp only [decide_eq_true_eq, decide_eq_false_iff_not]; omega
      have HB := Lib.hid hb
      clear hbit hb
      go_wp2_with fail
      refine (size_any B g 0 _ wr hTr.bits).mono ?_
      rintro e w3 ⟨rfl, rfl⟩
      rw [bitsOf_length]
      go_wp2_with fail
      refine (size_any B g 0 _ wr hTr.bits).mono ?_
      rintro e w3 ⟨rfl, rfl⟩
      rw [bitsOf_length]
      go_wp2_with fail
      rw [HIX.out]
      refine (get_any B g 0 _ (14 - i) wr hTr.bits (by rw [bitsOf_length]; omega)).mono ?_
      rintro e w3 ⟨rfl, rfl⟩
      rw [HBIT.out]
      go_wp2_with fail
      refine (titab_any wr).mono ?_
      rintro e w3 ⟨tb, rfl, hTab, hb3⟩
      obtain ⟨gr, hgr, c0, hbl, hrow⟩ := hTab i hlt
      have hM3 := hM.below hb3
      have r0 := hrow.cell 0
      have r1 := hrow.cell 1
      simp only [tiRow, List.getElem?_toArray, List.getElem?_cons_zero, List.getElem?_cons_succ] at r0 r1
      clear hTab
      go_wp2_with fail
      refine (msetb_any (tx i) (ty i) b hM3 rfl rfl (by omega) (by omega)).mono ?_
      rintro e w4 ⟨rfl, hM4, hk4⟩
      have kk := (hkp.more (Kp.of_below hb3)).more hk4
      clear r0 r1 c0
      rcases h7c with ⟨d7, h7⟩ | ⟨d7, h7⟩
      · go_wp2_with fail
        refine (mw_any hM4).mono ?_
        rintro e w3 ⟨rfl, rfl⟩
        go_wp2_with fail
        refine (msetb_any (d - i - 1) 8 b hM4 (by omega) rfl (by omega) (by omega)).mono ?_
        rintro e w5 ⟨rfl, hM5, hk5⟩
        go_wp2_with fail
        go_roundw
        case rel => exact ⟨i + 1, by omega, by go_num, hM5.congr (fun y x _ _ => by rw [HB.out]; exact tinfo_a hd h7 y x), kk.more hk5⟩
        case measure => simp [intOf]; omega
      · go_wp2_with fail
        refine (mh_any hM4).mono ?_
        rintro e w3 ⟨rfl, rfl⟩
        go_wp2_with fail
        refine (msetb_any 8 (d - 7 + (i - 8)) b hM4 rfl (by omega) (by omega) (by omega)).mono ?_
        rintro e w5 ⟨rfl, hM5, hk5⟩
        go_wp2_with fail
        refine (msetb_any 8 (d - 7 + (i - 8)) b hM5 rfl (by omega) (by omega) (by omega)).mono ?_
        rintro e w6 ⟨rfl, hM6, hk6⟩
        go_wp2_with fail
        go_roundw
        case rel => exact ⟨i + 1, by omega, by go_num, hM6.congr (fun y x _ _ => by rw [HB.out]; exact tinfo_b hd h7 hlt y x), (kk.more hk5).more hk6⟩
        case measure => simp [intOf]; omega
    · have hie : i = 15 := by omega
      subst hie
      go_wp2_with fail
      refine (size_any B g 0 _ wr hTr.bits).mono ?_
      rintro e w3 ⟨rfl, rfl⟩
      rw [bitsOf_length]
      go_wp2_with fail
      go_ret
      exact ⟨rfl, hM, (Kp.of_below hw2).more hkp⟩
set_option maxHeartbeats 8000000 in
set_option maxRecDepth 100000 in
theorem verInfo_any {V v : Nat} (hV : Ver w V v) (h : Mat w A R d f) (hd : 21 ≤ d) (h40 : v ≤ 40) :
    Calls Tryz.prog 126 #[.pointer (some ⟨V, 0, none⟩), .pointer (some ⟨A, 0, none⟩)] w fun e w' => e = .returned .nilIface ∧ Mat w' A R d (if 7 ≤ v then vinfo d (verT v) 18 f else f) ∧ Kp (rowsOf R d) w w' := by
  have hd2 := h.le
  by_cases h7 : 7 ≤ v
  · rw [if_pos h7]
    have hdv : decide ((v : Int) < 7) = false := by simp; omega
    obtain ⟨T, hTe⟩ : ∃ T, T = verT v := ⟨_, rfl⟩
    rw [← hTe]
    have HTE := Lib.hid hTe
    clear hTe
    go_enter Tryz.func126, Tryz.ntmps126
    go_wp2_with fail
    refine (vernum_any V v w hV).mono ?_
    rintro e w1 ⟨rfl, rfl⟩
    go_wp2_with fail
    refine (newbitsW_any w).mono ?_
    rintro e w1 ⟨B, g, rfl, hB, hB1, hg1, hb1⟩
    go_wp2_with fail
    refine (verBits_any V v (hV.below hb1) h7 h40 hB).mono ?_
    rintro e w2 ⟨rfl, hT, hk2⟩
    rw [← HTE.out] at hT
    have hw2 : Below w.heap.size w w2 := below_of_kp hb1 hk2 hb1.size (by intro i hi; simp only [List.mem_cons, List.not_mem_nil, or_false] at hi; omega)
    have hM2 := h.below hw2
    have hBo : B ∉ rowsOf R d := h.fresh hB1
    have hgo : g ∉ rowsOf R d := h.fresh hg1
    go_wp2_with fail
    go_loopw [7, 8] (fun t7 t8 wr => ∃ i : Nat, i ≤ 6 ∧ t8 = .int .i64 i ∧ t7 = .int .i64 (17 - ((3 * i : Nat) : Int)) ∧ Mat wr A R d (vinfo d T (3 * i) f) ∧ Kp (rowsOf R d) w2 wr) (fun _ t8 _ => 6 - (intOf t8).toNat)
    case atStart => exact ⟨0, by omega, rfl, rfl, hM2.congr (fun y x _ _ => by unfold vinfo; rw [if_neg (by omega)]), Kp.refl _ _⟩
    case round =>
      obtain ⟨i, hi, rfl, rfl, hM, hkp⟩ := hrel
      by_cases hlt : i < 6
      · have hda : decide ((i : Int) < 6) = true := by simp; omega
        go_wp2_with fail
        obtain ⟨wo, rfl⟩ : ∃ wo : World, wo = wr := ⟨_, rfl⟩
        go_loopw [7, 9] (fun t7 t9 wr => ∃ j : Nat, j ≤ 3 ∧ t9 = .int .i64 j ∧ t7 = .int .i64 (17 - ((3 * i + j : Nat) : Int)) ∧ Mat wr A R d (vinfo d T (3 * i + j) f) ∧ Kp (rowsOf R d) w2 wr) (fun _ t9 _ => 3 - (intOf t9).toNat)
        case atStart => exact ⟨0, by omega, rfl, rfl, hM, hkp⟩
        case round =>
          obtain ⟨j, hj, rfl, rfl, hM, hkp⟩ := hrel
          have hTr := hT.kp hkp hBo hgo
          by_cases hlt2 : j < 3
          · obtain ⟨n, hn⟩ : ∃ n, n = 3 * i + j := ⟨_, rfl⟩
            rw [← hn] at hM ⊢
            have hbit : (bitsOf 18 T).getD (17 - n) false = T.testBit n := by rw [bitsOf_getD _ _ _ (by omega), show 18 - 1 - (17 - n) = n by omega]
            have hix : (17 : Int) - (n : Int) = ((17 - n : Nat) : Int) := by omega
            have hnl : n ≤ 17 := by omega
            obtain ⟨b, hb⟩ : ∃ b, b = T.testBit n := ⟨_, rfl⟩
            rw [← hb] at hbit
            have HBIT := Lib.hid hbit
            have HB := Lib.hid hb
            have HN := Lib.hid hn
            have hdb : decide ((j : Int) < 3) = true := by simp; omega
            rw [hix]
            clear hbit hb hn hix
            go_wp2_with fail
            refine (get_any B g 0 _ (17 - n) wr hTr.bits (by rw [bitsOf_length]; omega)).mono ?_
            rintro e w3 ⟨rfl, rfl⟩
            rw [HBIT.out]
            go_wp2_with fail
            refine (mh_any hM).mono ?_
            rintro e w3 ⟨rfl, rfl⟩
            go_wp2_with fail
            refine (msetb_any i (d - 11 + j) b hM rfl (by omega) (by omega) (by omega)).mono ?_
            rintro e w4 ⟨rfl, hM4, hk4⟩
            go_wp2_with fail
            refine (mh_any hM4).mono ?_
            rintro e w3 ⟨rfl, rfl⟩
            go_wp2_with fail
            refine (msetb_any (d - 11 + j) i b hM4 (by omega) rfl (by omega) (by omega)).mono ?_
            rintro e w5 ⟨rfl, hM5, hk5⟩
            go_wp2_with fail
            go_roundw
            case rel =>
              refine ⟨j + 1, by omega, by go_num, ?_, hM5.congr (fun y x _ _ => by rw [HB.out, HN.out]; exact vinfo_step hd hlt hlt2 y x), (hkp.more hk4).more hk5⟩
              have := HN.out
              exact congrArg (Value.int .i64) (by omega)
            case measure => simp [intOf]; omega
          · have hje : j = 3 := by omega
            subst hje
            go_wp2_with fail
            go_roundw
            case rel => exact ⟨i + 1, by omega, by go_num, congrArg (Value.int .i64) (by omega), hM, hkp⟩
            case measure => simp [intOf]; omega
      · have hie : i = 6 := by omega
        subst hie
        go_wp2_with fail
        go_ret
        exact ⟨rfl, hM, (Kp.of_below hw2).more hkp⟩
  · rw [if_neg h7]
    have hdv : decide ((v : Int) < 7) = true := by simp; omega
    go_enter Tryz.func126, Tryz.ntmps126
    go_wp2_with fail
    refine (vernum_any V v w hV).mono ?_
    rintro e w1 ⟨rfl, rfl⟩
    go_wp2_with fail
    go_ret
    exact ⟨rfl, h, Kp.refl _ _⟩
end
end Go.Proofs.YtcekbhhpcmhicaaGreatDoor
namespace Go.Proofs.YtcekbhhpcmhicaaGreatDoor
open Go.RowKit Go.QW Go.QM Go.QV Go.QZ
theorem and1 (n : Nat) (h : n < 4611686018427387904) : bits .and .i64 (n : Int) 1 = ((n % 2 : Nat) : Int) := by
  have := i64_and n 1 h (by omega)
  rw [show n &&& 1 = n % 2 from Nat.and_two_pow_sub_one_eq_mod (n := 1) _] at this
  exact this
theorem beq0 (n : Nat) : (((n : Nat) : Int) == 0) = (n == 0) := by
  cases n with
  | zero => rfl
  | succ n => rw [beq_eq_false_iff_ne.2 (by omega), beq_eq_false_iff_ne.2 (by omega)]
section
variable {w : World}
set_option maxHeartbeats 8000000 in
set_option maxRecDepth 100000 in
theorem mask_any (k x y : Nat) (hk : k < 8) (hx : x ≤ 200) (hy : y ≤ 200) :
    Calls Tryz.prog 169 #[.int .i64 k, .int .i64 x, .int .i64 y] w fun e w' => e = .returned (.tuple #[.bool (mbit k y x), .nilIface]) ∧ w = w' := by
  have hp : y * x ≤ 40000 := Nat.le_trans (Nat.mul_le_mul hy hx) (by omega)
  obtain ⟨p, hpe⟩ : ∃ p, p = y * x := ⟨_, rfl⟩
  rw [← hpe] at hp
  have hmul : wrap64 ((y : Int) * (x : Int)) = ((p : Nat) : Int) := by
    rw [← Int.natCast_mul, ← hpe]; unfold wrap64; omega
  have a1 := and1 (y + x) (by omega)
  have a2 := and1 y (by omega)
  have a3 := and1 (y / 2 + x / 3) (by omega)
  have a4 := and1 p (by omega)
  have a5 := and1 (p % 2 + p % 3) (by omega)
  have a6 := and1 (p % 3 + (y + x) % 2) (by omega)
  simp only [Int.natCast_add] at a1
  have HP := Lib.hid hpe
  have HA1 := Lib.hid a1
  have HA2 := Lib.hid a2
  have HA3 := Lib.hid a3
  have HA4 := Lib.hid a4
  have HA5 := Lib.hid a5
  have HA6 := Lib.hid a6
  have HM := Lib.hid hmul
  have ht3 : (p : Int).tmod 3 = ((p % 3 : Nat) : Int) := by rw [Int.tmod_eq_emod_of_nonneg (by omega)]; rfl
  have HT3 := Lib.hid ht3
  clear a1 a2 a3 a4 a5 a6 hmul hpe ht3
  match k, hk with
  | 0, _ =>
    go_enter Tryz.func169, Tryz.ntmps169
    go_wp2_with fail
    go_ret2
    refine ⟨?_, rfl⟩
    rw [HA1.out, beq0]; rfl
  | 1, _ =>
    go_enter Tryz.func169, Tryz.ntmps169
    go_wp2_with fail
    go_ret2
    refine ⟨?_, rfl⟩
    rw [HA2.out, beq0]; rfl
  | 2, _ =>
    go_enter Tryz.func169, Tryz.ntmps169
    go_wp2_with fail
    go_ret2
    refine ⟨?_, rfl⟩
    rw [show (x : Int) % 3 = ((x % 3 : Nat) : Int) from rfl, beq0]; rfl
  | 3, _ =>
    go_enter Tryz.func169, Tryz.ntmps169
    go_wp2_with fail
    go_ret2
    refine ⟨?_, rfl⟩
    rw [show ((y : Int) + x) % 3 = (((y + x) % 3 : Nat) : Int) from rfl, beq0]; rfl
  | 4, _ =>
    go_enter Tryz.func169, Tryz.ntmps169
    go_wp2_with fail
    go_ret2
    refine ⟨?_, rfl⟩
    rw [show (y : Int) / 2 + (x : Int) / 3 = ((y / 2 + x / 3 : Nat) : Int) from rfl, HA3.out, beq0]; rfl
  | 5, _ =>
    go_enter Tryz.func169, Tryz.ntmps169
    go_wp2_with fail
    go_ret2
    refine ⟨?_, rfl⟩
    show Ending.returned (.tuple #[.bool (wrap64 (bits .and .i64 (wrap64 ((y : Int) * x)) 1 + (wrap64 ((y : Int) * x)).tmod 3) == 0), .nilIface]) = _
    rw [HM.out, HA4.out, HT3.out, ← Int.natCast_add, w64_small _ (by omega), beq0, HP.out]; rfl
  | 6, _ =>
    go_enter Tryz.func169, Tryz.ntmps169
    go_wp2_with fail
    go_ret2
    refine ⟨?_, rfl⟩
    show Ending.returned (.tuple #[.bool (bits .and .i64 (wrap64 (bits .and .i64 (wrap64 ((y : Int) * x)) 1 + (wrap64 ((y : Int) * x)).tmod 3)) 1 == 0), .nilIface]) = _
    rw [HM.out, HA4.out, HT3.out, ← Int.natCast_add, w64_small _ (by omega), HA5.out, beq0, HP.out]; rfl
  | 7, _ =>
    go_enter Tryz.func169, Tryz.ntmps169
    go_wp2_with fail
    go_ret2
    refine ⟨?_, rfl⟩
    show Ending.returned (.tuple #[.bool (bits .and .i64 (wrap64 ((wrap64 ((y : Int) * x)).tmod 3 + bits .and .i64 ((y : Int) + x) 1)) 1 == 0), .nilIface]) = _
    rw [HM.out, HA1.out, HT3.out, ← Int.natCast_add, w64_small _ (by omega), HA6.out, beq0, HP.out]; rfl
end
end Go.Proofs.YtcekbhhpcmhicaaGreatDoor
namespace Go.QZ
def yv (d c t : Nat) : Int := if c % 2 = 0 then (d : Int) - 1 - t else t
def dv (c : Nat) : Int := if c % 2 = 0 then -1 else 1
def hx (d c : Nat) : Int := if 6 + 2 * c ≤ d - 1 then (d : Int) - 1 - 2 * c else (d : Int) - 2 - 2 * c
theorem yv_row {d c t : Nat} (h : t < d) : yv d c t = ((rowY d c t : Nat) : Int) := by
  unfold yv rowY
  by_cases e : c % 2 = 0
  · rw [if_pos e, if_pos e]; omega
  · rw [if_neg e, if_neg e]
theorem yv_succ (d c t : Nat) : yv d c (t + 1) = yv d c t + dv c := by
  unfold yv dv
  by_cases e : c % 2 = 0
  · rw [if_pos e, if_pos e, if_pos e]; omega
  · rw [if_neg e, if_neg e, if_neg e]; omega
theorem yv_next (d c : Nat) : yv d c d + dv (c + 1) = yv d (c + 1) 0 := by
  unfold yv dv
  by_cases e : c % 2 = 0
  · rw [if_pos e, if_neg (by omega), if_neg (by omega)]; omega
  · rw [if_neg e, if_pos (by omega), if_pos (by omega)]; omega
theorem dv_next (c : Nat) : - dv c = dv (c + 1) := by
  unfold dv
  by_cases e : c % 2 = 0
  · rw [if_pos e, if_neg (by omega)]; rfl
  · rw [if_neg e, if_pos (by omega)]
theorem dv_bd (c : Nat) : -1 ≤ dv c ∧ dv c ≤ 1 := by unfold dv; split <;> omega
theorem yv_end (d c : Nat) : (yv d c d = -1) ∨ (yv d c d = d) := by
  unfold yv
  by_cases e : c % 2 = 0
  · rw [if_pos e]; left; omega
  · rw [if_neg e]; exact .inr rfl
theorem hx_zero {d : Nat} (h : 21 ≤ d) : hx d 0 = (d : Int) - 1 := by unfold hx; rw [if_pos (by omega)]; omega
theorem hx_col {d c : Nat} (hd : 21 ≤ d) (ho : d % 2 = 1) (hc : c < (d - 1) / 2) : (hx d c = 6 ∧ colX d c = 5) ∨ (hx d c ≠ 6 ∧ hx d c = ((colX d c : Nat) : Int)) := by
  unfold hx colX
  by_cases e : 6 + 2 * c ≤ d - 1
  · rw [if_pos e]
    by_cases e2 : 6 < d - 1 - 2 * c
    · rw [if_pos e2]; right; omega
    · rw [if_neg e2]; left; omega
  · rw [if_neg e, if_neg (by omega)]; right; omega
theorem hx_next {d c : Nat} (hd : 21 ≤ d) (ho : d % 2 = 1) (hc : c < (d - 1) / 2) : ((colX d c : Nat) : Int) - 2 = hx d (c + 1) := by
  unfold hx colX
  by_cases e2 : 6 < d - 1 - 2 * c
  · rw [if_pos e2, if_pos (by omega)]; omega
  · rw [if_neg e2, if_neg (by omega)]; omega
theorem hx_end {d : Nat} (hd : 21 ≤ d) (ho : d % 2 = 1) : hx d ((d - 1) / 2) = -1 := by unfold hx; rw [if_neg (by omega)]; omega
theorem hx_pos {d c : Nat} (hd : 21 ≤ d) (ho : d % 2 = 1) (hc : c < (d - 1) / 2) : 0 < hx d c ∧ hx d c < d := by
  unfold hx
  split <;> omega
end Go.QZ
namespace Go.QZ
open Go.QV
def roomOk (v : Nat) : Bool := ((cntC v (aligns v) (17 + 4 * v) (8 + 2 * v)) / 8).beq (total v)
set_option maxRecDepth 100000 in
theorem room_1 : roomOk 1 = true := by kernel_rfl
set_option maxRecDepth 100000 in
theorem room_2 : roomOk 2 = true := by kernel_rfl
set_option maxRecDepth 100000 in
theorem room_3 : roomOk 3 = true := by kernel_rfl
set_option maxRecDepth 100000 in
theorem room_4 : roomOk 4 = true := by kernel_rfl
set_option maxRecDepth 100000 in
theorem room_5 : roomOk 5 = true := by kernel_rfl
set_option maxRecDepth 100000 in
theorem room_6 : roomOk 6 = true := by kernel_rfl
set_option maxRecDepth 100000 in
theorem room_7 : roomOk 7 = true := by kernel_rfl
set_option maxRecDepth 100000 in
theorem room_8 : roomOk 8 = true := by kernel_rfl
set_option maxRecDepth 100000 in
theorem room_9 : roomOk 9 = true := by kernel_rfl
set_option maxRecDepth 100000 in
theorem room_10 : roomOk 10 = true := by kernel_rfl
set_option maxRecDepth 100000 in
theorem room_11 : roomOk 11 = true := by kernel_rfl
set_option maxRecDepth 100000 in
theorem room_12 : roomOk 12 = true := by kernel_rfl
set_option maxRecDepth 100000 in
theorem room_13 : roomOk 13 = true := by kernel_rfl
set_option maxRecDepth 100000 in
theorem room_14 : roomOk 14 = true := by kernel_rfl
set_option maxRecDepth 100000 in
theorem room_15 : roomOk 15 = true := by kernel_rfl
set_option maxRecDepth 100000 in
theorem room_16 : roomOk 16 = true := by kernel_rfl
set_option maxRecDepth 100000 in
theorem room_17 : roomOk 17 = true := by kernel_rfl
set_option maxRecDepth 100000 in
theorem room_18 : roomOk 18 = true := by kernel_rfl
set_option maxRecDepth 100000 in
theorem room_19 : roomOk 19 = true := by kernel_rfl
set_option maxRecDepth 100000 in
theorem room_20 : roomOk 20 = true := by kernel_rfl
set_option maxRecDepth 100000 in
theorem room_21 : roomOk 21 = true := by kernel_rfl
set_option maxRecDepth 100000 in
theorem room_22 : roomOk 22 = true := by kernel_rfl
set_option maxRecDepth 100000 in
theorem room_23 : roomOk 23 = true := by kernel_rfl
set_option maxRecDepth 100000 in
theorem room_24 : roomOk 24 = true := by kernel_rfl
set_option maxRecDepth 100000 in
theorem room_25 : roomOk 25 = true := by kernel_rfl
set_option maxRecDepth 100000 in
theorem room_26 : roomOk 26 = true := by kernel_rfl
set_option maxRecDepth 100000 in
theorem room_27 : roomOk 27 = true := by kernel_rfl
theorem room_of (v : Nat) (h1 : 1 ≤ v) (h2 : v ≤ 27) : roomOk v = true := by
  match v, h1, h2 with
  | 1, _, _ => exact room_1
  | 2, _, _ => exact room_2
  | 3, _, _ => exact room_3
  | 4, _, _ => exact room_4
  | 5, _, _ => exact room_5
  | 6, _, _ => exact room_6
  | 7, _, _ => exact room_7
  | 8, _, _ => exact room_8
  | 9, _, _ => exact room_9
  | 10, _, _ => exact room_10
  | 11, _, _ => exact room_11
  | 12, _, _ => exact room_12
  | 13, _, _ => exact room_13
  | 14, _, _ => exact room_14
  | 15, _, _ => exact room_15
  | 16, _, _ => exact room_16
  | 17, _, _ => exact room_17
  | 18, _, _ => exact room_18
  | 19, _, _ => exact room_19
  | 20, _, _ => exact room_20
  | 21, _, _ => exact room_21
  | 22, _, _ => exact room_22
  | 23, _, _ => exact room_23
  | 24, _, _ => exact room_24
  | 25, _, _ => exact room_25
  | 26, _, _ => exact room_26
  | 27, _, _ => exact room_27
  | n + 28, _, h => exact absurd h (by omega)
theorem room (v : Nat) (h1 : 1 ≤ v) (h2 : v ≤ 27) : cnt v (2 * ((8 + 2 * v) * (17 + 4 * v))) / 8 = total v := by
  have := room_of v h1 h2
  rw [cnt_C]
  exact Nat.eq_of_beq_eq_true this
end Go.QZ
