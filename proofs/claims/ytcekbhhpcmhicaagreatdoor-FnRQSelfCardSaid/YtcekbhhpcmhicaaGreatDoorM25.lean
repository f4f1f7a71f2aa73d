/- The decoder reads format and version off the matrix; The decoder reads the version off the matrix. -/
import Derived.Test.YtcekbhhpcmhicaaGreatDoorM13
import Derived.Test.YtcekbhhpcmhicaaGreatDoorM22
import Derived.Test.YtcekbhhpcmhicaaGreatDoorM24
namespace Go.Proofs.YtcekbhhpcmhicaaGreatDoor
open Go.RowKit Go.QW Go.QI Go.QM Go.QV Go.QZ
/-- the parser: matrix A, version, format -/
def Psr (w : World) (P A : Nat) (pv pf : Value) : Prop := Blk w P 333 #[.pointer (some ⟨A, 0, none⟩), pv, pf, .bool false]
section
variable {w : World} {A g d P : Nat} {f : Nat → Nat → Bool} {pv pf : Value}
/-- n bits read off the top of T -/
theorem top_step (T m : Nat) : 2 * (T / 2 ^ (m + 1)) + (T.testBit m).toNat = T / 2 ^ m := by
  rw [Nat.testBit_eq_decide_div_mod_eq, Nat.pow_succ, ← Nat.div_div_eq_div_mul]
  generalize T / 2 ^ m = y
  by_cases h1 : y % 2 = 1
  · rw [decide_eq_true h1]; simp only [Bool.toNat_true]; omega
  · rw [decide_eq_false h1]; simp only [Bool.toNat_false]; omega
theorem shl1 (n : Nat) (h : n ≤ 1000000) : wrap64 ((n : Int) * 2) = ((2 * n : Nat) : Int) := by unfold wrap64; omega
theorem or1 (n : Nat) : (2 * n) ||| 1 = 2 * n + 1 := by
  exact (Nat.two_pow_add_eq_or_of_lt (i := 1) (b := 1) (by omega) n).symm
set_option maxHeartbeats 4000000 in
theorem copyBit_any (xn yn n : Nat) {x y b : Int} (hP : Psr w P A pv pf) (h : BM w A g d f) (hx : x = xn) (hy : y = yn) (hb : b = n) (hxd : xn < d) (hyd : yn < d) (hn : n ≤ 1000000) :
    Calls Tryz.prog 218 #[.pointer (some ⟨P, 0, none⟩), .int .i64 x, .int .i64 y, .int .i64 b] w fun e w' => e = .returned (.int .i64 ((2 * n + (f yn xn).toNat : Nat) : Int)) ∧ w = w' := by
  subst hx hy hb
  have a0 := hP.cell 0
  have a3 := hP.cell 3
  simp only [List.getElem?_toArray, List.getElem?_cons_zero, List.getElem?_cons_succ] at a0 a3
  have o1 := i64_or (2 * n) 1 (by omega) (by omega)
  rw [or1] at o1
  have e2 : (n : Int) * 2 = ((2 * n : Nat) : Int) := by omega
  have E2 := Lib.hid e2
  clear e2
  cases hv : f yn xn with
  | true =>
    have HV := Lib.hid hv
    clear hv
    go_enter Tryz.func218, Tryz.ntmps218
    go_wp2_with fail
    refine (bmget_any xn yn h rfl rfl hxd hyd).mono ?_
    rintro e w2 ⟨rfl, rfl⟩
    rw [HV.out]
    go_wp2_with fail
    go_ret
    refine ⟨?_, rfl⟩
    apply ret_int
    show bits .or .i64 ((n : Int) * 2) 1 = _
    rw [E2.out]; exact o1
  | false =>
    have HV := Lib.hid hv
    clear hv
    go_enter Tryz.func218, Tryz.ntmps218
    go_wp2_with fail
    refine (bmget_any xn yn h rfl rfl hxd hyd).mono ?_
    rintro e w2 ⟨rfl, rfl⟩
    rw [HV.out]
    go_wp2_with fail
    go_ret
    refine ⟨?_, rfl⟩
    apply ret_int
    show (n : Int) * 2 = _
    rw [E2.out]; rfl
/-- the matrix bears the format T -/
def FmtIn (d T : Nat) (f : Nat → Nat → Bool) : Prop := ∀ y x, y < d → x < d → tpos d y x < 15 → f y x = T.testBit (tpos d y x)
theorem FmtIn.read {d T : Nat} {f : Nat → Nat → Bool} (h : FmtIn d T f) (y x m : Nat) (hy : y < d) (hx : x < d) (hm : tpos d y x = m) (h15 : m < 15) : 2 * (T / 2 ^ (m + 1)) + (f y x).toNat = T / 2 ^ m := by
  rw [h y x hy hx (by omega), hm, top_step]
theorem tp1 {d x : Nat} (hx : x ≤ 5) : tpos d 8 x = 14 - x := by unfold tpos; rw [if_neg (by omega), if_neg (by omega), if_neg (by omega), if_neg (by omega), if_pos (by omega)]
theorem tp2 (d : Nat) : tpos d 8 7 = 8 := by unfold tpos; rw [if_neg (by omega), if_neg (by omega), if_neg (by omega), if_pos (by omega)]
theorem tp3 (d : Nat) : tpos d 8 8 = 7 := by unfold tpos; rw [if_neg (by omega), if_neg (by omega), if_pos (by omega)]
theorem tp4 (d : Nat) : tpos d 7 8 = 6 := by unfold tpos; rw [if_neg (by omega), if_pos (by omega)]
theorem tp5 {d y : Nat} (hy : y ≤ 5) : tpos d y 8 = y := by unfold tpos; rw [if_pos (by omega)]
theorem tp6 {d y : Nat} (hd : 21 ≤ d) (hy : d - 7 ≤ y) (hy2 : y < d) : tpos d y 8 = y + 15 - d := by unfold tpos; rw [if_neg (by omega), if_neg (by omega), if_neg (by omega), if_neg (by omega), if_neg (by omega), if_neg (by omega), if_pos (by omega)]
theorem tp7 {d x : Nat} (hd : 21 ≤ d) (hx : d - 8 ≤ x) (hx2 : x < d) : tpos d 8 x = d - 1 - x := by unfold tpos; rw [if_neg (by omega), if_neg (by omega), if_neg (by omega), if_neg (by omega), if_neg (by omega), if_pos (by omega)]
theorem div_le_big (T m : Nat) (h : T < 32768) : T / 2 ^ m ≤ 1000000 := Nat.le_trans (Nat.div_le_self _ _) (by omega)
theorem top15 (T : Nat) (h : T < 32768) : T / 2 ^ 15 = 0 := Nat.div_eq_of_lt (by omega)
set_option maxHeartbeats 8000000 in
set_option maxRecDepth 100000 in
theorem readfmt_any (t : Nat) (ht : t < 32) (hP : Psr w P A pv (.pointer none)) (h : BM w A g d f) (hd : 21 ≤ d) (hd2 : d ≤ 200) (hf : FmtIn d (fmtT t) f) :
    Calls Tryz.prog 179 #[.pointer (some ⟨P, 0, none⟩)] w fun e w' => ∃ F, e = .returned (.tuple #[.pointer (some ⟨F, 0, none⟩), .nilIface]) ∧ Fi w' F (t / 8) (t % 8) ∧ Psr w' P A pv (.pointer (some ⟨F, 0, none⟩)) ∧ Kp [P] w w' ∧ w.heap.size ≤ F := by
  have hT := fmt_lt ⟨t, ht⟩
  simp only at hT
  have hdec := fun w => decfmt_any t ht w
  obtain ⟨T, hTe⟩ : ∃ T, T = fmtT t := ⟨_, rfl⟩
  rw [← hTe] at hT hf hdec
  have HDEC := Lib.hid hdec
  clear hTe hdec
  have HF := Lib.hid hf
  clear hf
  have a0 := hP.cell 0
  have a2 := hP.cell 2
  have fz := hP.frozen 2
  simp only [List.getElem?_toArray, List.getElem?_cons_zero, List.getElem?_cons_succ] at a0 a2
  have T15 := top15 T hT
  have cv : IntKind.u64.wrap (T : Int) = (T : Int) := by rw [IntKind.wrap_u64]; omega
  go_enter Tryz.func179, Tryz.ntmps179
  go_wp2_with fail
  go_loop [4, 5] (fun t4 t5 => ∃ i : Nat, i ≤ 6 ∧ t5 = .int .i64 (i : Nat) ∧ t4 = .int .i64 ((T / 2 ^ (15 - i) : Nat) : Int)) (fun _ t5 => 6 - (intOf t5).toNat)
  case atStart => exact ⟨0, by omega, rfl, by rw [Nat.sub_zero, T15]; rfl⟩
  case round =>
    obtain ⟨i, hi, rfl, rfl⟩ := hrel
    by_cases hlt : i < 6
    · have hda : decide ((i : Int) < 6) = true := by simp; omega
      have hr := HF.out.read 8 i (14 - i) (by omega) (by omega) (tp1 (by omega)) (by omega)
      rw [show 14 - i + 1 = 15 - i by omega] at hr
      have hbig := div_le_big T (15 - i) hT
      obtain ⟨n, hn⟩ : ∃ n, n = T / 2 ^ (15 - i) := ⟨_, rfl⟩
      rw [← hn] at hr hbig ⊢
      have HR := Lib.hid hr
      clear hn hr
      go_wp2_with fail
      refine (copyBit_any i 8 n hP h rfl rfl rfl (by omega) (by omega) hbig).mono ?_
      rintro e w2 ⟨rfl, rfl⟩
      rw [HR.out]
      go_wp2_with fail
      go_round
      case rel => exact ⟨i + 1, by omega, by go_num, by rw [show 15 - (i + 1) = 14 - i by omega]; rfl⟩
      case measure => simp [intOf]; omega
    · obtain rfl : i = 6 := by omega
      clear hlt hi
      have r1 := HF.out.read 8 7 8 (by omega) (by omega) (tp2 d) (by omega)
      have r2 := HF.out.read 8 8 7 (by omega) (by omega) (tp3 d) (by omega)
      have r3 := HF.out.read 7 8 6 (by omega) (by omega) (tp4 d) (by omega)
      have b9 := div_le_big T (8 + 1) hT
      have b8 := div_le_big T 8 hT
      have b7 := div_le_big T 7 hT
      have R1 := Lib.hid r1
      have R2 := Lib.hid r2
      have R3 := Lib.hid r3
      clear r1 r2 r3
      have e9 : ((T / 2 ^ (15 - 6) : Nat) : Int) = ((T / 2 ^ (8 + 1) : Nat) : Int) := rfl
      rw [e9]
      clear e9
      obtain ⟨n9, hn9⟩ : ∃ n, n = T / 2 ^ (8 + 1) := ⟨_, rfl⟩
      rw [← hn9] at b9 R1 ⊢
      clear hn9
      go_wp2_with fail
      refine (copyBit_any 7 8 n9 hP h rfl rfl rfl (by omega) (by omega) b9).mono ?_
      rintro e w2 ⟨rfl, rfl⟩
      rw [R1.out]
      obtain ⟨n8, hn8⟩ : ∃ n, n = T / 2 ^ 8 := ⟨_, rfl⟩
      rw [← hn8] at b8 ⊢
      have R2' : Hid (2 * n8 + (f 8 8).toNat = T / 2 ^ 7) := Lib.hid (by rw [hn8]; exact R2.out)
      clear hn8 R2
      go_wp2_with fail
      refine (copyBit_any 8 8 n8 hP h rfl rfl rfl (by omega) (by omega) b8).mono ?_
      rintro e w2 ⟨rfl, rfl⟩
      rw [R2'.out]
      obtain ⟨n7, hn7⟩ : ∃ n, n = T / 2 ^ 7 := ⟨_, rfl⟩
      rw [← hn7] at b7 ⊢
      have R3' : Hid (2 * n7 + (f 7 8).toNat = T / 2 ^ 6) := Lib.hid (by rw [hn7]; exact R3.out)
      clear hn7 R3
      go_wp2_with fail
      refine (copyBit_any 8 7 n7 hP h rfl rfl rfl (by omega) (by omega) b7).mono ?_
      rintro e w2 ⟨rfl, rfl⟩
      rw [R3'.out]
      go_wp2_with fail
      go_loop [4, 6] (fun t4 t6 => ∃ j : Nat, j ≤ 6 ∧ t6 = .int .i64 ((j : Int) - 1) ∧ t4 = .int .i64 ((T / 2 ^ j : Nat) : Int)) (fun _ t6 => (intOf t6 + 1).toNat)
      case atStart => exact ⟨6, by omega, rfl, rfl⟩
      case round =>
        obtain ⟨j, hj, rfl, rfl⟩ := hrel
        by_cases hlt : 1 ≤ j
        · have hda : decide ((0 : Int) ≤ (j : Int) - 1) = true := by simp; omega
          have hdb : decide ((1 : Int) ≤ (j : Int)) = true := by simp; omega
          have hr := HF.out.read (j - 1) 8 (j - 1) (by omega) (by omega) (tp5 (by omega)) (by omega)
          rw [show j - 1 + 1 = j by omega] at hr
          have hbig := div_le_big T j hT
          obtain ⟨n, hn⟩ : ∃ n, n = T / 2 ^ j := ⟨_, rfl⟩
          rw [← hn] at hr hbig ⊢
          have HR := Lib.hid hr
          clear hn hr
          go_wp2_with fail
          refine (copyBit_any 8 (j - 1) n hP h rfl (by omega) rfl (by omega) (by omega) hbig).mono ?_
          rintro e w2 ⟨rfl, rfl⟩
          rw [HR.out]
          go_wp2_with fail
          go_round
          case rel => exact ⟨j - 1, by omega, congrArg (Value.int .i64) (by omega), rfl⟩
          case measure => simp [intOf]; omega
        · obtain rfl : j = 0 := by omega
          clear hlt hj
          have e0 : ((T / 2 ^ 0 : Nat) : Int) = (T : Int) := by rw [Nat.pow_zero, Nat.div_one]
          rw [e0]
          clear e0
          go_wp2_with fail
          refine (bmh_any h).mono ?_
          rintro e w2 ⟨rfl, rfl⟩
          go_wp2_with fail
          go_loop [8, 10] (fun t8 t10 => ∃ j : Nat, j ≤ 7 ∧ t10 = .int .i64 ((d : Int) - 1 - j) ∧ t8 = .int .i64 ((T / 2 ^ (15 - j) : Nat) : Int)) (fun _ t10 => (intOf t10 - ((d : Int) - 8)).toNat)
          case atStart => exact ⟨0, by omega, congrArg (Value.int .i64) (by omega), by rw [Nat.sub_zero, T15]; rfl⟩
          case round =>
            obtain ⟨j, hj, rfl, rfl⟩ := hrel
            by_cases hlt : j < 7
            · have hda : decide ((d : Int) - 7 ≤ (d : Int) - 1 - (j : Int)) = true := by simp; omega
              have hr := HF.out.read (d - 1 - j) 8 (14 - j) (by omega) (by omega) (by rw [tp6 hd (by omega) (by omega)]; omega) (by omega)
              rw [show 14 - j + 1 = 15 - j by omega] at hr
              have hbig := div_le_big T (15 - j) hT
              obtain ⟨n, hn⟩ : ∃ n, n = T / 2 ^ (15 - j) := ⟨_, rfl⟩
              rw [← hn] at hr hbig ⊢
              have HR := Lib.hid hr
              clear hn hr
              obtain ⟨Y, hY⟩ : ∃ Y : Int, Y = (d : Int) - 1 - (j : Int) := ⟨_, rfl⟩
              have hYn : Y = ((d - 1 - j : Nat) : Int) := by omega
              have hYb : 0 ≤ Y ∧ Y ≤ 200 := by omega
              rw [← hY] at hda ⊢
              have HY := Lib.hid hY
              have HYN := Lib.hid hYn
              clear hY hYn
              go_wp2_with fail
              refine (copyBit_any 8 (d - 1 - j) n hP h rfl HYN.out rfl (by omega) (by omega) hbig).mono ?_
              rintro e w2 ⟨rfl, rfl⟩
              rw [HR.out]
              go_wp2_with fail
              go_round
              case rel => exact ⟨j + 1, by omega, congrArg (Value.int .i64) (by have := HY.out; omega), by rw [show 15 - (j + 1) = 14 - j by omega]; rfl⟩
              case measure => have := HY.out; simp [intOf]; omega
            · obtain rfl : j = 7 := by omega
              clear hlt hj
              have hda : decide ((d : Int) - 7 ≤ (d : Int) - 1 - ((7 : Nat) : Int)) = false := by simp; omega
              obtain ⟨Y, hY⟩ : ∃ Y : Int, Y = (d : Int) - 1 - ((7 : Nat) : Int) := ⟨_, rfl⟩
              rw [← hY] at hda ⊢
              clear hY
              go_wp2_with fail
              go_loop [8, 11] (fun t8 t11 => ∃ j : Nat, j ≤ 8 ∧ t11 = .int .i64 ((d : Int) - 8 + j) ∧ t8 = .int .i64 ((T / 2 ^ (8 - j) : Nat) : Int)) (fun _ t11 => ((d : Int) - intOf t11).toNat)
              case atStart => exact ⟨0, by omega, congrArg (Value.int .i64) (by omega), rfl⟩
              case round =>
                obtain ⟨j, hj, rfl, rfl⟩ := hrel
                by_cases hlt : j < 8
                · obtain ⟨X, hX⟩ : ∃ X : Int, X = (d : Int) - 8 + (j : Int) := ⟨_, rfl⟩
                  have hXn : X = ((d - 8 + j : Nat) : Int) := by omega
                  have hXb : 0 ≤ X ∧ X ≤ 200 := by omega
                  have hda : decide (X < (d : Int)) = true := by simp; omega
                  have hr := HF.out.read 8 (d - 8 + j) (7 - j) (by omega) (by omega) (by rw [tp7 hd (by omega) (by omega)]; omega) (by omega)
                  rw [show 7 - j + 1 = 8 - j by omega] at hr
                  have hbig := div_le_big T (8 - j) hT
                  obtain ⟨n, hn⟩ : ∃ n, n = T / 2 ^ (8 - j) := ⟨_, rfl⟩
                  rw [← hn] at hr hbig ⊢
                  have HR := Lib.hid hr
                  clear hn hr
                  rw [← hX]
                  have HX := Lib.hid hX
                  have HXN := Lib.hid hXn
                  clear hX hXn
                  go_wp2_with fail
                  refine (copyBit_any (d - 8 + j) 8 n hP h HXN.out rfl rfl (by omega) (by omega) hbig).mono ?_
                  rintro e w2 ⟨rfl, rfl⟩
                  rw [HR.out]
                  go_wp2_with fail
                  go_round
                  case rel => exact ⟨j + 1, by omega, congrArg (Value.int .i64) (by have := HX.out; omega), by rw [show 8 - (j + 1) = 7 - j by omega]; rfl⟩
                  case measure => have := HX.out; simp [intOf]; omega
                · obtain rfl : j = 8 := by omega
                  clear hlt hj
                  have hda : decide ((d : Int) - 8 + ((8 : Nat) : Int) < (d : Int)) = false := by simp
                  obtain ⟨X, hX⟩ : ∃ X : Int, X = (d : Int) - 8 + ((8 : Nat) : Int) := ⟨_, rfl⟩
                  rw [← hX] at hda ⊢
                  clear hX
                  have e0 : ((T / 2 ^ (8 - 8) : Nat) : Int) = (T : Int) := by rw [Nat.sub_self, Nat.pow_zero, Nat.div_one]
                  rw [e0]
                  clear e0
                  go_wp2_with fail
                  refine (HDEC.out _).mono ?_
                  rintro e w2 ⟨F, rfl, hF, hb2, hF2⟩
                  have hP2 : Psr w2 P A pv (.pointer none) := hP.below hb2 hP.lt
                  have b0 := hP2.cell 0
                  have b2 := hP2.cell 2
                  have fz2 := hP2.frozen 2
                  have hPl := hP2.lt
                  have hPF : P ≠ F := by have := hP.lt; omega
                  have hk2 : Kp [P] w w2 := Kp.of_below hb2
                  simp only [List.getElem?_toArray, List.getElem?_cons_zero, List.getElem?_cons_succ] at b0 b2
                  have hS := hP2.set_ 2 (.pointer (some ⟨F, 0, none⟩))
                  have hFF := hF.far (p := ⟨P, 2, none⟩) (by simp only; omega) (.pointer (some ⟨F, 0, none⟩))
                  clear a0 a2 fz
                  go_wp2_with fail
                  go_ret2
                  exact ⟨F, rfl, hFF, hS, hk2.setCell (by simp) _, hF2⟩
set_option maxHeartbeats 4000000 in
theorem readfmt2_any {F : Nat} (hP : Psr w P A pv (.pointer (some ⟨F, 0, none⟩))) :
    Calls Tryz.prog 179 #[.pointer (some ⟨P, 0, none⟩)] w fun e w' => e = .returned (.tuple #[.pointer (some ⟨F, 0, none⟩), .nilIface]) ∧ w = w' := by
  have a2 := hP.cell 2
  simp only [List.getElem?_toArray, List.getElem?_cons_zero, List.getElem?_cons_succ] at a2
  go_enter Tryz.func179, Tryz.ntmps179
  go_wp2_with fail
  go_ret2
  exact ⟨rfl, rfl⟩
end
end Go.Proofs.YtcekbhhpcmhicaaGreatDoor
namespace Go.Proofs.YtcekbhhpcmhicaaGreatDoor
open Go.RowKit Go.QW Go.QI Go.QM Go.QV Go.QZ
section
variable {w : World} {A g d P v : Nat} {f : Nat → Nat → Bool} {pv pf : Value}
/-- the matrix bears the version -/
def VerIn (d T : Nat) (f : Nat → Nat → Bool) : Prop := ∀ y x, y < d → x < d → vpos d y x < 18 → f y x = T.testBit (vpos d y x)
theorem VerIn.read {d T : Nat} {f : Nat → Nat → Bool} (h : VerIn d T f) (y x m : Nat) (hy : y < d) (hx : x < d) (hm : vpos d y x = m) (h15 : m < 18) : 2 * (T / 2 ^ (m + 1)) + (f y x).toNat = T / 2 ^ m := by
  rw [h y x hy hx (by omega), hm, top_step]
theorem div_le_big18 (T m : Nat) (h : T < 262144) : T / 2 ^ m ≤ 1000000 := Nat.le_trans (Nat.div_le_self _ _) (by omega)
theorem top18 (T : Nat) (h : T < 262144) : T / 2 ^ (3 * 6) = 0 := Nat.div_eq_of_lt (by omega)
/-- what stands in the parser's field of the version -/
def PvOk (w : World) (v : Nat) (pv : Value) : Prop := pv = .pointer none ∨ ∃ V, pv = .pointer (some ⟨V, 0, none⟩) ∧ Ver w V v
set_option maxHeartbeats 8000000 in
set_option maxRecDepth 100000 in
theorem readver_any (hP : Psr w P A (.pointer none) pf) (h : BM w A g d f) (hd : d = 17 + 4 * v) (h1 : 1 ≤ v) (h27 : v ≤ 27) (hv : 7 ≤ v → VerIn d (verT v) f) :
    Calls Tryz.prog 178 #[.pointer (some ⟨P, 0, none⟩)] w fun e w' => ∃ V pv', e = .returned (.tuple #[.pointer (some ⟨V, 0, none⟩), .nilIface]) ∧ Ver w' V v ∧ Psr w' P A pv' pf ∧ PvOk w' v pv' ∧ Kp [P] w w' := by
  have a0 := hP.cell 0
  have a1 := hP.cell 1
  simp only [List.getElem?_toArray, List.getElem?_cons_zero, List.getElem?_cons_succ] at a0 a1
  have hdb : 17 + 4 * v ≤ d ∧ d ≤ 17 + 4 * v := by omega
  have HD := Lib.hid hd
  clear hd
  have hq : ((d : Int) - 17) / 4 = (v : Int) := by omega
  by_cases h6 : v ≤ 6
  · have d6 : decide ((v : Int) ≤ 6) = true := by simp; omega
    clear hv
    go_enter Tryz.func178, Tryz.ntmps178
    go_wp2_with fail
    refine (bmh_any h).mono ?_
    rintro e w2 ⟨rfl, rfl⟩
    go_wp2_with fail
    refine (getver_any v h1 h27 _).mono ?_
    rintro e w2 ⟨V, rfl, hV, hb2, hV2⟩
    go_wp2_with fail
    go_ret2
    exact ⟨V, _, rfl, hV, hP.below hb2 hP.lt, .inl rfl, Kp.of_below hb2⟩
  · have d6 : decide ((v : Int) ≤ 6) = false := by simp; omega
    have hT := ver_lt ⟨v, by omega⟩
    simp only at hT
    have hv' := hv (by omega)
    have hdec := fun w => decver_any v (by omega) h27 w
    obtain ⟨T, hTe⟩ : ∃ T, T = verT v := ⟨_, rfl⟩
    rw [← hTe] at hT hv' hdec
    have HDEC := Lib.hid hdec
    have HV := Lib.hid hv'
    clear hTe hdec hv hv'
    have T18 := top18 T hT
    have HT18 := Lib.hid T18
    clear T18
    go_enter Tryz.func178, Tryz.ntmps178
    go_wp2_with fail
    refine (bmh_any h).mono ?_
    rintro e w2 ⟨rfl, rfl⟩
    go_wp2_with fail
    go_loop [6, 8, 9] (fun t6 t8 t9 => ∃ j : Nat, j ≤ 6 ∧ t8 = .int .i64 ((j : Int) - 1) ∧ t6 = .int .i64 ((T / 2 ^ (3 * j) : Nat) : Int)) (fun _ t8 _ => (intOf t8 + 1).toNat)
    case atStart => exact ⟨6, by omega, rfl, by rw [HT18.out]; rfl⟩
    case round =>
      obtain ⟨j, hj, rfl, rfl⟩ := hrel
      by_cases hlt : 1 ≤ j
      · have hda : decide ((0 : Int) ≤ (j : Int) - 1) = true := by simp; omega
        have hdb2 : decide ((1 : Int) ≤ (j : Int)) = true := by simp; omega
        obtain ⟨Y, hY⟩ : ∃ Y : Int, Y = (j : Int) - 1 := ⟨_, rfl⟩
        have hYn : Y = ((j - 1 : Nat) : Int) := by omega
        have hYb : 0 ≤ Y ∧ Y ≤ 5 := by omega
        rw [← hY] at hda ⊢
        have HY := Lib.hid hY
        have HYN := Lib.hid hYn
        clear hY hYn
        go_wp2_with fail
        go_loop [6, 9] (fun t6 t9 => ∃ i : Nat, i ≤ 3 ∧ t9 = .int .i64 ((d : Int) - 12 + i) ∧ t6 = .int .i64 ((T / 2 ^ (3 * (j - 1) + i) : Nat) : Int)) (fun _ t9 => (intOf t9 - ((d : Int) - 12)).toNat)
        case atStart => exact ⟨3, by omega, congrArg (Value.int .i64) (by omega), by rw [show 3 * (j - 1) + 3 = 3 * j by omega]; rfl⟩
        case round =>
          obtain ⟨i, hi, rfl, rfl⟩ := hrel
          obtain ⟨X, hX⟩ : ∃ X : Int, X = (d : Int) - 12 + (i : Int) := ⟨_, rfl⟩
          have hXb : 0 ≤ X ∧ X ≤ 200 := by omega
          by_cases hlt2 : 1 ≤ i
          · have hdc : decide ((d : Int) - 11 ≤ X) = true := by simp; omega
            have hXn : X = ((d - 11 + (i - 1) : Nat) : Int) := by omega
            have hr := HV.out.read (j - 1) (d - 11 + (i - 1)) (3 * (j - 1) + (i - 1)) (by omega) (by omega) (vpos_two (by omega) (by omega) (by omega)) (by omega)
            rw [show 3 * (j - 1) + (i - 1) + 1 = 3 * (j - 1) + i by omega] at hr
            have hbig := div_le_big18 T (3 * (j - 1) + i) hT
            obtain ⟨n, hn⟩ : ∃ n, n = T / 2 ^ (3 * (j - 1) + i) := ⟨_, rfl⟩
            rw [← hn] at hr hbig ⊢
            rw [← hX]
            have HR := Lib.hid hr
            have HX := Lib.hid hX
            have HXN := Lib.hid hXn
            clear hn hr hX hXn
            go_wp2_with fail
            refine (copyBit_any (d - 11 + (i - 1)) (j - 1) n hP h HXN.out HYN.out rfl (by omega) (by omega) hbig).mono ?_
            rintro e w2 ⟨rfl, rfl⟩
            rw [HR.out]
            go_wp2_with fail
            go_round
            case rel => exact ⟨i - 1, by omega, congrArg (Value.int .i64) (by have := HX.out; omega), rfl⟩
            case measure => have := HX.out; simp [intOf]; omega
          · have hdc : decide ((d : Int) - 11 ≤ X) = false := by simp; omega
            obtain rfl : i = 0 := by omega
            rw [← hX]
            clear hX hlt2 hi
            go_wp2_with fail
            go_round
            case rel => exact ⟨j - 1, by omega, by have := HYN.out; have := HY.out; omega, rfl⟩
            case measure => have := HY.out; simp [intOf]; omega
      · obtain rfl : j = 0 := by omega
        clear hlt hj
        have e0 : ((T / 2 ^ (3 * 0) : Nat) : Int) = (T : Int) := by rw [Nat.mul_zero, Nat.pow_zero, Nat.div_one]
        rw [e0]
        clear e0
        have hde : ((d : Int) == (d : Int)) = true := by simp
        go_wp2_with fail
        refine (HDEC.out _).mono ?_
        rintro e w2 ⟨V, rfl, hV, hb2, hV2⟩
        have hP2 : Psr w2 P A (.pointer none) pf := hP.below hb2 hP.lt
        have hPl := hP2.lt
        have fz2 := hP2.frozen 1
        have hk2 : Kp [P] w w2 := Kp.of_below hb2
        have hS := hP2.set_ 1 (.pointer (some ⟨V, 0, none⟩))
        have hVk := hV.kp ((Kp.refl [P] w2).setCell (p := ⟨P, 1, none⟩) (by simp) (.pointer (some ⟨V, 0, none⟩))) (by
          intro k hk t arr hb
          simp only [List.mem_cons, List.not_mem_nil, or_false] at hk
          subst hk
          rw [← Blk.ty hP2 hb]; decide)
        have b1 := hP2.cell 1
        simp only [List.getElem?_toArray, List.getElem?_cons_zero, List.getElem?_cons_succ] at b1
        clear a0 a1
        go_wp2_with fail
        refine (verdim_any V v w2 hV (by omega)).mono ?_
        rintro e w3 ⟨rfl, rfl⟩
        rw [← HD.out]
        go_wp2_with fail
        go_ret2
        exact ⟨V, .pointer (some ⟨V, 0, none⟩), rfl, hVk, hS, .inr ⟨V, rfl, hVk⟩, hk2.setCell (by simp) _⟩
set_option maxHeartbeats 4000000 in
theorem readver2_any {V : Nat} (hP : Psr w P A (.pointer (some ⟨V, 0, none⟩)) pf) :
    Calls Tryz.prog 178 #[.pointer (some ⟨P, 0, none⟩)] w fun e w' => e = .returned (.tuple #[.pointer (some ⟨V, 0, none⟩), .nilIface]) ∧ w = w' := by
  have a1 := hP.cell 1
  simp only [List.getElem?_toArray, List.getElem?_cons_zero, List.getElem?_cons_succ] at a1
  go_enter Tryz.func178, Tryz.ntmps178
  go_wp2_with fail
  go_ret2
  exact ⟨rfl, rfl⟩
theorem PvOk.kp {w w' : World} {S : List Nat} {v : Nat} {pv : Value} (h : PvOk w v pv) (hk : Kp S w w') (ho : Off w S [3, 141, 201, 211]) : PvOk w' v pv := by
  rcases h with h | ⟨V, h, hV⟩
  · exact .inl h
  · exact .inr ⟨V, h, hV.kp hk ho⟩
/-- either way -/
theorem readverE_any (hP : Psr w P A pv pf) (hpv : PvOk w v pv) (h : BM w A g d f) (hd : d = 17 + 4 * v) (h1 : 1 ≤ v) (h27 : v ≤ 27) (hv : 7 ≤ v → VerIn d (verT v) f) :
    Calls Tryz.prog 178 #[.pointer (some ⟨P, 0, none⟩)] w fun e w' => ∃ V pv', e = .returned (.tuple #[.pointer (some ⟨V, 0, none⟩), .nilIface]) ∧ Ver w' V v ∧ Psr w' P A pv' pf ∧ PvOk w' v pv' ∧ Kp [P] w w' := by
  rcases hpv with rfl | ⟨V, rfl, hV⟩
  · exact readver_any hP h hd h1 h27 hv
  · refine (readver2_any hP).mono ?_
    rintro e w' ⟨rfl, rfl⟩
    exact ⟨V, _, rfl, hV, hP, .inr ⟨V, rfl, hV⟩, Kp.refl _ _⟩
end
end Go.Proofs.YtcekbhhpcmhicaaGreatDoor
