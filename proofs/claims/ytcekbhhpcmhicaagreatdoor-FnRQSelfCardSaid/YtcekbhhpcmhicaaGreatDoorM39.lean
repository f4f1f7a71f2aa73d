/- The modules are taken out of the picture of a symbol: moduleSize, Round, extractPureBits; impl.rowsOf, impl.taken, ExtractPureBits: the modules as rows of bools. -/
import Derived.Test.YtcekbhhpcmhicaaGreatDoorM37
import Derived.Test.YtcekbhhpcmhicaaGreatDoorM38
import Derived.Lib.SliceRun
namespace Go.Proofs.YtcekbhhpcmhicaaGreatDoor
open Go.RowKit Go.QW Go.QI Go.QP Go.QF
/-- the picture of n times n modules of side s in W times H pixels -/
structure Fr (s L T n S W H : Nat) (f : Nat → Nat → Bool) : Prop where
  s1 : 1 ≤ s
  s6 : s ≤ 6
  hS : S = s * n
  hW : L + S < W
  hH : T + S < H
  W1 : W ≤ 1000
  H1 : H ≤ 1000
  crn : Corn n f
section
variable {s L T n S W H : Nat} {f : Nat → Nat → Bool}
theorem Fr.big (h : Fr s L T n S W H f) : 21 * s ≤ S ∧ S ≤ 750 ∧ 21 ≤ n ∧ n ≤ 125 := by
  have h1 := Nat.mul_le_mul_left s h.crn.n1
  have h2 := Nat.mul_le_mul h.s6 h.crn.n2
  have h3 := h.hS
  rw [← h3] at h1 h2
  exact ⟨by omega, by omega, h.crn.n1, h.crn.n2⟩
theorem Fr.at_ (h : Fr s L T n S W H f) {y x : Nat} (hy : y < S) (hx : x < S) : pic s L T n f (T + y) (L + x) = f (y / s) (x / s) := pic_in (by rw [← h.hS]; exact hy) (by rw [← h.hS]; exact hx)
theorem Fr.within (h : Fr s L T n S W H f) {y x : Nat} (hp : pic s L T n f y x = true) : T ≤ y ∧ y < T + S ∧ L ≤ x ∧ x < L + S := by
  have := pic_true hp
  rw [← h.hS] at this
  exact this
theorem Fr.diag (h : Fr s L T n S W H f) {k : Nat} (hk : k ≤ 7 * s) : pic s L T n f (T + k) (L + k) = dg (k / s) := by
  have hb := h.big
  have hs1 := h.s1
  rw [h.at_ (by omega) (by omega)]
  exact h.crn.diag _ (by
    have : k / s ≤ 7 := Nat.le_of_lt_succ (Nat.div_lt_of_lt_mul (by omega))
    omega)
/-- the first bit that is on -/
theorem Fr.first (h : Fr s L T n S W H f) : pic s L T n f T L = true ∧ ∀ y x, y < H → pic s L T n f y x = true → T < y ∨ (y = T ∧ L ≤ x) := by
  refine ⟨?_, fun y x _ hp => ?_⟩
  · have := h.diag (k := 0) (by omega)
    rw [Nat.add_zero, Nat.add_zero, Nat.zero_div] at this
    rw [this]; rfl
  · have := h.within hp
    omega
/-- the last row has bits on -/
theorem Fr.last (h : Fr s L T n S W H f) : pic s L T n f (T + S - 1) (L + s) = true ∧ ∀ y x, y < H → pic s L T n f y x = true → y ≤ T + S - 1 := by
  have hb := h.big
  have hs1 := h.s1
  refine ⟨?_, fun y x _ hp => ?_⟩
  · have := h.at_ (y := S - 1) (x := s) (by omega) (by omega)
    rw [show T + (S - 1) = T + S - 1 by omega] at this
    rw [this, Nat.div_self (by omega), show (S - 1) / s = n - 1 from by
      rw [h.hS]
      have : s * n - 1 = s * (n - 1) + (s - 1) := by
        have := Nat.mul_sub_one s n
        have h3 := Nat.le_mul_of_pos_right s (show 0 < n by omega)
        omega
      rw [this, Nat.mul_add_div (by omega), Nat.div_eq_of_lt (by omega), Nat.add_zero]]
    exact h.crn.b1
  · have := h.within hp
    omega
/-- the middle of a module -/
theorem Fr.mid (h : Fr s L T n S W H f) {y x : Nat} (hy : y < n) (hx : x < n) : y * s + s ≤ S ∧ x * s + s ≤ S ∧ pic s L T n f (T + s / 2 + y * s) (L + s / 2 + x * s) = f y x := by
  have hs1 := h.s1
  have e1 : y * s + s ≤ S := by
    have := Nat.mul_le_mul_right s (show y + 1 ≤ n from hy)
    rw [Nat.succ_mul, Nat.mul_comm n, ← h.hS] at this
    exact this
  have e2 : x * s + s ≤ S := by
    have := Nat.mul_le_mul_right s (show x + 1 ≤ n from hx)
    rw [Nat.succ_mul, Nat.mul_comm n, ← h.hS] at this
    exact this
  refine ⟨e1, e2, ?_⟩
  rw [Nat.add_assoc, Nat.add_assoc, h.at_ (by omega) (by omega)]
  have d : ∀ z, (s / 2 + z * s) / s = z := fun z => by
    rw [Nat.add_mul_div_right _ _ (by omega), Nat.div_eq_of_lt (by omega), Nat.zero_add]
  rw [d, d]
end
section
variable {w : World}
theorem round_any (n : Nat) (hn : n < 130) : Calls Tryz.prog 142 #[.float .f64 (fl n)] w fun e w' => e = .returned (.int .i64 (n : Nat)) ∧ w = w' := by
  obtain ⟨r, h1, h2⟩ := round hn
  have h0 := neg hn
  have ha : ∀ w, (binOp .add 242 (.float .f64 (fl n)) (.float .f64 4602678819172646912)).run Tryz.prog w = .ok (.float .f64 r) w := fun w => run_float_arith w .add _ .f64 _ _ r h1
  have hc : ∀ w, (convert 242 3 (.float .f64 r)).run Tryz.prog w = .ok (.int .i64 (n : Nat)) w := fun w => run_convert_float_int w _ _ _ _ _ _ (by kernel_rfl) Tryz.underlying3 h2
  go_enter Tryz.func142, Tryz.ntmps142
  go_wp2_with fail
  go_ret
  exact ⟨rfl, rfl⟩
/-- painted up to row i, column j -/
def upTo (i j : Nat) (f : Nat → Nat → Bool) : Nat → Nat → Bool := fun Y X => if Y < i ∨ (Y = i ∧ X < j) then f Y X else false
theorem upTo_set {i j : Nat} {f : Nat → Nat → Bool} (h : f i j = true) (Y X : Nat) : (if Y = i ∧ X = j then true else upTo i j f Y X) = upTo i (j + 1) f Y X := by
  unfold upTo
  by_cases c : Y = i ∧ X = j
  · obtain ⟨rfl, rfl⟩ := c
    rw [if_pos ⟨rfl, rfl⟩, if_pos (by omega), h]
  · rw [if_neg c]
    by_cases c2 : Y < i ∨ (Y = i ∧ X < j)
    · rw [if_pos c2, if_pos (by omega)]
    · rw [if_neg c2, if_neg (by omega)]
theorem upTo_skip {i j : Nat} {f : Nat → Nat → Bool} (h : f i j = false) (Y X : Nat) : upTo i j f Y X = upTo i (j + 1) f Y X := by
  unfold upTo
  by_cases c : Y = i ∧ X = j
  · obtain ⟨rfl, rfl⟩ := c
    rw [if_neg (by omega), if_pos (by omega), h]
  · by_cases c2 : Y < i ∨ (Y = i ∧ X < j)
    · rw [if_pos c2, if_pos (by omega)]
    · rw [if_neg c2, if_neg (by omega)]
theorem upTo_row {i n : Nat} {f : Nat → Nat → Bool} {Y X : Nat} (hX : X < n) : upTo i n f Y X = upTo (i + 1) 0 f Y X := by
  unfold upTo
  by_cases c2 : Y < i ∨ (Y = i ∧ X < n)
  · rw [if_pos c2, if_pos (by omega)]
  · rw [if_neg c2, if_neg (by omega)]
def SizeB (s : Nat) (w : World) (e : Ending) (w' : World) : Prop := e = .returned (.tuple #[.float .f64 (fl s), .nilIface]) ∧ w = w'
set_option maxHeartbeats 8000000 in
set_option maxRecDepth 100000 in
theorem msize_any {A g X G s L T n S W H : Nat} {f : Nat → Nat → Bool} (h : BX w A g W H (pic s L T n f)) (hf : Fr s L T n S W H f) (hG : Blk w G 3 #[.int .i64 L, .int .i64 T]) :
    Calls Tryz.prog 141 #[.pointer (some ⟨X, 0, none⟩), .slice (some ⟨G, 0, none⟩) 2 2, .pointer (some ⟨A, 0, none⟩)] w (SizeB s w) := by
  have c0 := hG.cell 0
  have c1 := hG.cell 1
  simp only [List.getElem?_toArray, List.getElem?_cons_zero, List.getElem?_cons_succ] at c0 c1
  have hb := hf.big
  have hs1 := hf.s1
  have hs6 := hf.s6
  have hW := hf.hW
  have hH := hf.hH
  have hW1 := hf.W1
  have hH1 := hf.H1
  have HF := Lib.hid hf
  clear hf
  go_enter Tryz.func141, Tryz.ntmps141
  go_wp2_with fail
  refine (bxh_any h).mono ?_
  rintro e w1 ⟨rfl, rfl⟩
  go_wp2_with fail
  refine (bxw_any h).mono ?_
  rintro e w1 ⟨rfl, rfl⟩
  go_wp2_with fail
  go_loop [10, 11, 12, 13] (fun t10 t11 t12 t13 => ∃ (k x y tr : Nat) (b : Bool), k ≤ 7 * s ∧ (L + k ≤ x ∧ x ≤ L + k) ∧ (T + k ≤ y ∧ y ≤ T + k) ∧ tr ≤ 4 ∧ t10 = .int .i64 (x : Nat) ∧ t11 = .int .i64 (y : Nat) ∧ t12 = .bool b ∧ t13 = .int .i64 (tr : Nat) ∧ Hid (b = dB s k ∧ tr = trN s k)) (fun t10 _ _ _ => L + 50 - (intOf t10).toNat)
  case atStart => exact ⟨0, L, T, 0, true, by omega, by omega, by omega, by omega, rfl, rfl, rfl, rfl, Lib.hid ⟨rfl, rfl⟩⟩
  case round =>
    obtain ⟨k, x, y, tr, b, hk, hx, hy, htr, rfl, rfl, rfl, rfl, HK⟩ := hrel
    have hdx : decide ((x : Int) < (W : Int)) = true := by simp; omega
    have hdy : decide ((y : Int) < (H : Int)) = true := by simp; omega
    go_wp2_with fail
    refine (bxget_any x y h rfl rfl (by omega) (by omega)).mono ?_
    rintro e w1 ⟨rfl, rfl⟩
    obtain ⟨p, hp⟩ : ∃ p, p = pic s L T n f y x := ⟨_, rfl⟩
    have hpd : p = dg (k / s) := by
      rw [hp, show y = T + k by omega, show x = L + k by omega]; exact HF.out.diag hk
    rw [← hp]
    clear hp
    by_cases hlt : k < 7 * s
    · have hst := diag_step hs1 hs6 hlt
      rw [← hpd, ← HK.out.1, ← HK.out.2] at hst
      rcases hst with ⟨e1, e2, e3⟩ | ⟨e1, e2, e3, e4⟩
      · subst e1
        have HK2 : Hid (b = dB s (k + 1) ∧ tr = trN s (k + 1)) := Lib.hid ⟨e2.symm, e3.symm⟩
        clear hpd e2 e3
        have hne : (!(b == b)) = false := by cases b <;> rfl
        go_wp2_with fail
        go_round
        case rel => exact ⟨k + 1, x + 1, y + 1, tr, b, by omega, by omega, by omega, htr, by go_num, by go_num, rfl, rfl, HK2⟩
        case measure => simp [intOf]; omega
      · have HK2 : Hid ((!b) = dB s (k + 1) ∧ tr + 1 = trN s (k + 1)) := Lib.hid ⟨e2.symm, e3.symm⟩
        have hne : (!(b == p)) = true := by rw [e1]; cases p <;> rfl
        have h5 : ((tr : Int) + 1 == 5) = false := by rw [beq_eq_false_iff_ne]; omega
        clear hpd e1 e2 e3
        go_wp2_with fail
        go_round
        case rel => exact ⟨k + 1, x + 1, y + 1, tr + 1, !b, by omega, by omega, by omega, by omega, by go_num, by go_num, rfl, by go_num, HK2⟩
        case measure => simp [intOf]; omega
    · obtain rfl : k = 7 * s := by omega
      have hend := diag_end ⟨s, by omega⟩ hs1
      simp only at hend
      rw [← HK.out.1, ← HK.out.2, ← hpd] at hend
      obtain ⟨e1, e2, e3⟩ := hend
      subst e1 e2 e3
      have hxW : ((x : Int) == (W : Int)) = false := by rw [beq_eq_false_iff_ne]; omega
      have hyH : ((y : Int) == (H : Int)) = false := by rw [beq_eq_false_iff_ne]; omega
      have hdv : ∀ w, (binOp .quo 242 (.float .f64 (floatOfInt .f64 ((x : Int) - (L : Int)))) (.float .f64 4619567317775286272)).run Tryz.prog w = .ok (.float .f64 (fl s)) w := fun w => by
        have e : (x : Int) - (L : Int) = ((7 * s : Nat) : Int) := by omega
        rw [e, fl_eq, ← fl7]
        exact run_float_arith w .quo _ .f64 _ _ _ (div7 hs6)
      clear hpd hdx hdy
      go_wp2_with fail
      go_ret2
      exact ⟨rfl, rfl⟩

def TakeB (n : Nat) (f : Nat → Nat → Bool) (w : World) (e : Ending) (w' : World) : Prop := ∃ A g, e = .returned (.tuple #[.pointer (some ⟨A, 0, none⟩), .nilIface]) ∧ BM w' A g n f ∧ Below w.heap.size w w'
set_option maxHeartbeats 16000000 in
set_option maxRecDepth 100000 in
theorem extract_any {A g X s L T n S W H : Nat} {f : Nat → Nat → Bool} (h : BX w A g W H (pic s L T n f)) (hf : Fr s L T n S W H f) :
    Calls Tryz.prog 95 #[.pointer (some ⟨X, 0, none⟩), .pointer (some ⟨A, 0, none⟩)] w (TakeB n f w) := by
  have hb := hf.big
  have hs1 := hf.s1
  have hs6 := hf.s6
  have hW := hf.hW
  have hH := hf.hH
  have hW1 := hf.W1
  have hH1 := hf.H1
  have HF := Lib.hid hf
  have qT : ∀ (w : World) (a : Option Addr) (n c n' c' : Nat), (binOp .eql 138 (.slice a n c) (.slice none n' c')).run Tryz.prog w = .ok (.bool a.isNone) w := fun w a n c n' c' => Lib.run_eql_slice_nil w _ _ a n c n' c' Tryz.underlying138
  have hAl := h.lt
  clear hf
  go_enter Tryz.func95, Tryz.ntmps95
  go_wp2_with fail
  refine (tlon_any h HF.out.first.1 (by omega) (by omega) HF.out.first.2).mono ?_
  rintro e w1 ⟨G1, rfl, hG1, hb1⟩
  have hz1 := hb1.size
  have h1 := h.below hb1 hAl.1 hAl.2
  have hAl1 := h1.lt
  go_wp2_with fail
  refine (bron_any h1 HF.out.last.1 (by omega) HF.out.last.2).mono ?_
  rintro e w2 ⟨xr, ⟨hxr1, hxr2, hxr3⟩, G2, rfl, hG2, hb2⟩
  have hxl := hxr3 _ HF.out.last.1
  have hxw := HF.out.within hxr2
  have hz2 := hb2.size
  have h2 := h1.below hb2 hAl1.1 hAl1.2
  have hG1' := hG1.below hb2 hG1.lt
  have hAl2 := h2.lt
  clear hxr2 hxr3
  obtain ⟨yb, hyb⟩ : ∃ yb, yb = T + S - 1 := ⟨_, rfl⟩
  rw [← hyb] at hG2
  have hyb2 : yb + 1 = T + S := by omega
  clear hyb
  have p0 := hG1'.cell 0
  have p1 := hG1'.cell 1
  have q0 := hG2.cell 0
  have q1 := hG2.cell 1
  simp only [List.getElem?_toArray, List.getElem?_cons_zero, List.getElem?_cons_succ] at p0 p1 q0 q1
  go_wp2_with fail
  refine (msize_any h2 HF.out hG1').mono ?_
  rintro e w2' ⟨rfl, rfl⟩
  have hd1 : decide ((xr : Int) ≤ (L : Int)) = false := by simp; omega
  have hd2 : decide ((yb : Int) ≤ (T : Int)) = false := by simp; omega
  by_cases heq : xr + 1 = L + S
  · have hne : ((yb : Int) - (T : Int) != (xr : Int) - (L : Int)) = false := by rw [bne_eq_false_iff_eq]; omega

    have hg1 : floatOfInt .f64 ((xr : Int) - (L : Int) + 1) = fl (s * n) := by
      rw [show (xr : Int) - (L : Int) + 1 = ((s * n : Nat) : Int) by rw [← HF.out.hS]; omega]; rfl
    have hg2 : floatOfInt .f64 ((yb : Int) - (T : Int) + 1) = fl (s * n) := by
      rw [show (yb : Int) - (T : Int) + 1 = ((s * n : Nat) : Int) by rw [← HF.out.hS]; omega]; rfl
    have hdv : ∀ w, (binOp .quo 242 (.float .f64 (fl (s * n))) (.float .f64 (fl s))).run Tryz.prog w = .ok (.float .f64 (fl n)) w := fun w => run_float_arith w .quo _ .f64 _ _ _ (divn hs1 hs6 (by omega))
    go_wp2_with fail
    refine (round_any n (by omega)).mono ?_
    rintro e w2' ⟨rfl, rfl⟩
    go_wp2_with fail
    refine (round_any n (by omega)).mono ?_
    rintro e w2' ⟨rfl, rfl⟩
    obtain ⟨r2, hr2, hr2'⟩ := half hs6
    rw [fl2] at hr2
    obtain ⟨nd, hnd⟩ : ∃ nd, nd = s / 2 := ⟨_, rfl⟩
    rw [← hnd] at hr2'
    have hq2 : ∀ w, (binOp .quo 242 (.float .f64 (fl s)) (.float .f64 4611686018427387904)).run Tryz.prog w = .ok (.float .f64 r2) w := fun w => run_float_arith w .quo _ .f64 _ _ _ hr2
    have hc2 : ∀ w, (convert 242 3 (.float .f64 r2)).run Tryz.prog w = .ok (.int .i64 (nd : Nat)) w := fun w => run_convert_float_int w _ _ _ _ _ _ (by kernel_rfl) Tryz.underlying3 hr2'
    have hg3 : floatOfInt .f64 ((n : Int) - 1) = fl (n - 1) := by
      rw [show (n : Int) - 1 = ((n - 1 : Nat) : Int) by omega]; rfl
    obtain ⟨r3, hr3, hr3'⟩ := mul (n := n - 1) hs6 (by omega)
    have hm3 : (n - 1) * s + s = S := by
      rw [HF.out.hS, Nat.mul_comm s, Nat.sub_mul, Nat.one_mul]
      have := Nat.le_mul_of_pos_left s (show 0 < n by omega)
      omega
    obtain ⟨m3, hm3e⟩ : ∃ m3, m3 = (n - 1) * s := ⟨_, rfl⟩
    rw [← hm3e] at hr3' hm3
    have hq3 : ∀ w, (binOp .mul 242 (.float .f64 (fl (n - 1))) (.float .f64 (fl s))).run Tryz.prog w = .ok (.float .f64 r3) w := fun w => run_float_arith w .mul _ .f64 _ _ _ hr3
    have hc3 : ∀ w, (convert 242 3 (.float .f64 r3)).run Tryz.prog w = .ok (.int .i64 (m3 : Nat)) w := fun w => run_convert_float_int w _ _ _ _ _ _ (by kernel_rfl) Tryz.underlying3 hr3'
    have hnd2 : 2 * nd ≤ s ∧ s ≤ 2 * nd + 1 := by omega
    have HND := Lib.hid hnd
    clear hm3e hr2 hr2' hr3 hr3' hnd
    go_wp2_with fail
    refine (newbm_any n (by omega) (by omega) _).mono ?_
    rintro e w3 ⟨A3, g3, rfl, hM, hA3, hg3', hb3⟩
    have hz3 := hb3.size
    have h3 := h2.below hb3 hAl2.1 hAl2.2
    have hAl3 := h3.lt
    clear hg1 hg2 hdv hq2 hc2 hg3 hq3 hc3
    go_wp2_with fail
    go_loopw [21] (fun t21 wr => ∃ i : Nat, i ≤ n ∧ t21 = .int .i64 (i : Nat) ∧ BM wr A3 g3 n (upTo i 0 f) ∧ Kp [g3] w3 wr) (fun t21 _ => n - (intOf t21).toNat)
    case atStart => exact ⟨0, by omega, rfl, hM.congr (fun Y X _ _ => by unfold upTo; rw [if_neg (by omega)]), Kp.refl _ _⟩
    case round =>
      obtain ⟨i, hi, rfl, hMr, hkr⟩ := hrel
      by_cases hlt : i < n
      · have hdi : decide ((i : Int) < (n : Int)) = true := by simp; omega
        have hgi : floatOfInt .f64 (i : Int) = fl i := rfl
        obtain ⟨ri, hri, hri'⟩ := mul (n := i) hs6 (by omega)
        have hmid := HF.out.mid hlt (show 0 < n by omega)
        obtain ⟨mi, hmi⟩ : ∃ mi, mi = i * s := ⟨_, rfl⟩
        rw [← hmi] at hri' hmid
        have hmi2 := hmid.1
        have hqi : ∀ w, (binOp .mul 242 (.float .f64 (fl i)) (.float .f64 (fl s))).run Tryz.prog w = .ok (.float .f64 ri) w := fun w => run_float_arith w .mul _ .f64 _ _ _ hri
        have hci : ∀ w, (convert 242 3 (.float .f64 ri)).run Tryz.prog w = .ok (.int .i64 (mi : Nat)) w := fun w => run_convert_float_int w _ _ _ _ _ _ (by kernel_rfl) Tryz.underlying3 hri'
        have HMI := Lib.hid hmi
        clear hri hri' hmid hmi
        go_wp2_with fail
        clear hgi hqi hci
        obtain ⟨wo, rfl⟩ : ∃ wo : World, wo = wr := ⟨_, rfl⟩
        go_loopw [23] (fun t23 wr => ∃ j : Nat, j ≤ n ∧ t23 = .int .i64 (j : Nat) ∧ BM wr A3 g3 n (upTo i j f) ∧ Kp [g3] w3 wr) (fun t23 _ => n - (intOf t23).toNat)
        case atStart => exact ⟨0, by omega, rfl, hMr, hkr⟩
        case round =>
          obtain ⟨j, hj, rfl, hMr, hkr⟩ := hrel
          by_cases hlt2 : j < n
          · have hdj : decide ((j : Int) < (n : Int)) = true := by simp; omega
            have hgj : floatOfInt .f64 (j : Int) = fl j := rfl
            obtain ⟨rj, hrj, hrj'⟩ := mul (n := j) hs6 (by omega)
            have hmid := HF.out.mid hlt hlt2
            obtain ⟨mj, hmj⟩ : ∃ mj, mj = j * s := ⟨_, rfl⟩
            rw [← hmj] at hrj' hmid
            have hmj2 := hmid.2.1
            have hpx := hmid.2.2
            rw [← HMI.out, ← HND.out] at hpx
            have hqj : ∀ w, (binOp .mul 242 (.float .f64 (fl j)) (.float .f64 (fl s))).run Tryz.prog w = .ok (.float .f64 rj) w := fun w => run_float_arith w .mul _ .f64 _ _ _ hrj
            have hcj : ∀ w, (convert 242 3 (.float .f64 rj)).run Tryz.prog w = .ok (.int .i64 (mj : Nat)) w := fun w => run_convert_float_int w _ _ _ _ _ _ (by kernel_rfl) Tryz.underlying3 hrj'
            have h4 := h3.kp hkr (by simp; omega) (by simp; omega)
            have HPX := Lib.hid hpx
            clear hrj hrj' hmid hmj hpx
            go_wp2_with fail
            refine (bxget_any (L + nd + mj) (T + nd + mi) h4 (by omega) (by omega) (by omega) (by omega)).mono ?_
            rintro e w5 ⟨rfl, rfl⟩
            rw [HPX.out]
            clear hgj hqj hcj h4
            cases hv : f i j with
            | true =>
              have HV := Lib.hid hv
              clear hv
              go_wp2_with fail
              refine (bmset_any j i hMr rfl rfl hlt2 hlt).mono ?_
              rintro e w5 ⟨rfl, hM5, hk5⟩
              go_wp2_with fail
              go_roundw
              case rel => exact ⟨j + 1, by omega, by go_num, hM5.congr (fun Y X _ _ => upTo_set HV.out Y X), hkr.trans hk5 (by intro q hq _; exact hq)⟩
              case measure => simp [intOf]; omega
            | false =>
              have HV := Lib.hid hv
              clear hv
              go_wp2_with fail
              go_roundw
              case rel => exact ⟨j + 1, by omega, by go_num, hMr.congr (fun Y X _ _ => upTo_skip HV.out Y X), hkr⟩
              case measure => simp [intOf]; omega
          · have hdj : decide ((j : Int) < (n : Int)) = false := by simp; omega
            have hje : j = n := by omega
            have hM' : BM wr A3 g3 n (upTo (i + 1) 0 f) := hMr.congr (fun Y X _ hX => by rw [hje]; exact upTo_row hX)
            clear hje
            go_wp2_with fail
            go_roundw
            case rel => exact ⟨i + 1, by omega, by go_num, hM', hkr⟩
            case measure => simp [intOf]; omega
      · have hdi : decide ((i : Int) < (n : Int)) = false := by simp; omega
        have hM' : BM wr A3 g3 n f := hMr.congr (fun Y X hY _ => by unfold upTo; rw [if_pos (by omega)])
        go_wp2_with fail
        go_ret2
        exact ⟨A3, g3, rfl, hM', below_of_kp (((hb1.trans (hb2.mono hz1)).trans (hb3.mono (Nat.le_trans hz1 hz2)))) hkr (by omega) (by intro q hq; simp at hq; omega)⟩

  · have hne : ((yb : Int) - (T : Int) != (xr : Int) - (L : Int)) = true := by rw [bne_iff_ne]; omega
    have hd3 : decide ((W : Int) ≤ (L : Int) + ((yb : Int) - (T : Int))) = false := by simp; omega
    go_wp2_with fail
    refine (bxw_any h2).mono ?_
    rintro e w2' ⟨rfl, rfl⟩

    have hg1 : floatOfInt .f64 (((L : Int) + ((yb : Int) - (T : Int))) - (L : Int) + 1) = fl (s * n) := by
      rw [show ((L : Int) + ((yb : Int) - (T : Int))) - (L : Int) + 1 = ((s * n : Nat) : Int) by rw [← HF.out.hS]; omega]; rfl
    have hg2 : floatOfInt .f64 ((yb : Int) - (T : Int) + 1) = fl (s * n) := by
      rw [show (yb : Int) - (T : Int) + 1 = ((s * n : Nat) : Int) by rw [← HF.out.hS]; omega]; rfl
    have hdv : ∀ w, (binOp .quo 242 (.float .f64 (fl (s * n))) (.float .f64 (fl s))).run Tryz.prog w = .ok (.float .f64 (fl n)) w := fun w => run_float_arith w .quo _ .f64 _ _ _ (divn hs1 hs6 (by omega))
    go_wp2_with fail
    refine (round_any n (by omega)).mono ?_
    rintro e w2' ⟨rfl, rfl⟩
    go_wp2_with fail
    refine (round_any n (by omega)).mono ?_
    rintro e w2' ⟨rfl, rfl⟩
    obtain ⟨r2, hr2, hr2'⟩ := half hs6
    rw [fl2] at hr2
    obtain ⟨nd, hnd⟩ : ∃ nd, nd = s / 2 := ⟨_, rfl⟩
    rw [← hnd] at hr2'
    have hq2 : ∀ w, (binOp .quo 242 (.float .f64 (fl s)) (.float .f64 4611686018427387904)).run Tryz.prog w = .ok (.float .f64 r2) w := fun w => run_float_arith w .quo _ .f64 _ _ _ hr2
    have hc2 : ∀ w, (convert 242 3 (.float .f64 r2)).run Tryz.prog w = .ok (.int .i64 (nd : Nat)) w := fun w => run_convert_float_int w _ _ _ _ _ _ (by kernel_rfl) Tryz.underlying3 hr2'
    have hg3 : floatOfInt .f64 ((n : Int) - 1) = fl (n - 1) := by
      rw [show (n : Int) - 1 = ((n - 1 : Nat) : Int) by omega]; rfl
    obtain ⟨r3, hr3, hr3'⟩ := mul (n := n - 1) hs6 (by omega)
    have hm3 : (n - 1) * s + s = S := by
      rw [HF.out.hS, Nat.mul_comm s, Nat.sub_mul, Nat.one_mul]
      have := Nat.le_mul_of_pos_left s (show 0 < n by omega)
      omega
    obtain ⟨m3, hm3e⟩ : ∃ m3, m3 = (n - 1) * s := ⟨_, rfl⟩
    rw [← hm3e] at hr3' hm3
    have hq3 : ∀ w, (binOp .mul 242 (.float .f64 (fl (n - 1))) (.float .f64 (fl s))).run Tryz.prog w = .ok (.float .f64 r3) w := fun w => run_float_arith w .mul _ .f64 _ _ _ hr3
    have hc3 : ∀ w, (convert 242 3 (.float .f64 r3)).run Tryz.prog w = .ok (.int .i64 (m3 : Nat)) w := fun w => run_convert_float_int w _ _ _ _ _ _ (by kernel_rfl) Tryz.underlying3 hr3'
    have hnd2 : 2 * nd ≤ s ∧ s ≤ 2 * nd + 1 := by omega
    have HND := Lib.hid hnd
    clear hm3e hr2 hr2' hr3 hr3' hnd
    go_wp2_with fail
    refine (newbm_any n (by omega) (by omega) _).mono ?_
    rintro e w3 ⟨A3, g3, rfl, hM, hA3, hg3', hb3⟩
    have hz3 := hb3.size
    have h3 := h2.below hb3 hAl2.1 hAl2.2
    have hAl3 := h3.lt
    clear hg1 hg2 hdv hq2 hc2 hg3 hq3 hc3
    go_wp2_with fail
    go_loopw [21] (fun t21 wr => ∃ i : Nat, i ≤ n ∧ t21 = .int .i64 (i : Nat) ∧ BM wr A3 g3 n (upTo i 0 f) ∧ Kp [g3] w3 wr) (fun t21 _ => n - (intOf t21).toNat)
    case atStart => exact ⟨0, by omega, rfl, hM.congr (fun Y X _ _ => by unfold upTo; rw [if_neg (by omega)]), Kp.refl _ _⟩
    case round =>
      obtain ⟨i, hi, rfl, hMr, hkr⟩ := hrel
      by_cases hlt : i < n
      · have hdi : decide ((i : Int) < (n : Int)) = true := by simp; omega
        have hgi : floatOfInt .f64 (i : Int) = fl i := rfl
        obtain ⟨ri, hri, hri'⟩ := mul (n := i) hs6 (by omega)
        have hmid := HF.out.mid hlt (show 0 < n by omega)
        obtain ⟨mi, hmi⟩ : ∃ mi, mi = i * s := ⟨_, rfl⟩
        rw [← hmi] at hri' hmid
        have hmi2 := hmid.1
        have hqi : ∀ w, (binOp .mul 242 (.float .f64 (fl i)) (.float .f64 (fl s))).run Tryz.prog w = .ok (.float .f64 ri) w := fun w => run_float_arith w .mul _ .f64 _ _ _ hri
        have hci : ∀ w, (convert 242 3 (.float .f64 ri)).run Tryz.prog w = .ok (.int .i64 (mi : Nat)) w := fun w => run_convert_float_int w _ _ _ _ _ _ (by kernel_rfl) Tryz.underlying3 hri'
        have HMI := Lib.hid hmi
        clear hri hri' hmid hmi
        go_wp2_with fail
        clear hgi hqi hci
        obtain ⟨wo, rfl⟩ : ∃ wo : World, wo = wr := ⟨_, rfl⟩
        go_loopw [23] (fun t23 wr => ∃ j : Nat, j ≤ n ∧ t23 = .int .i64 (j : Nat) ∧ BM wr A3 g3 n (upTo i j f) ∧ Kp [g3] w3 wr) (fun t23 _ => n - (intOf t23).toNat)
        case atStart => exact ⟨0, by omega, rfl, hMr, hkr⟩
        case round =>
          obtain ⟨j, hj, rfl, hMr, hkr⟩ := hrel
          by_cases hlt2 : j < n
          · have hdj : decide ((j : Int) < (n : Int)) = true := by simp; omega
            have hgj : floatOfInt .f64 (j : Int) = fl j := rfl
            obtain ⟨rj, hrj, hrj'⟩ := mul (n := j) hs6 (by omega)
            have hmid := HF.out.mid hlt hlt2
            obtain ⟨mj, hmj⟩ : ∃ mj, mj = j * s := ⟨_, rfl⟩
            rw [← hmj] at hrj' hmid
            have hmj2 := hmid.2.1
            have hpx := hmid.2.2
            rw [← HMI.out, ← HND.out] at hpx
            have hqj : ∀ w, (binOp .mul 242 (.float .f64 (fl j)) (.float .f64 (fl s))).run Tryz.prog w = .ok (.float .f64 rj) w := fun w => run_float_arith w .mul _ .f64 _ _ _ hrj
            have hcj : ∀ w, (convert 242 3 (.float .f64 rj)).run Tryz.prog w = .ok (.int .i64 (mj : Nat)) w := fun w => run_convert_float_int w _ _ _ _ _ _ (by kernel_rfl) Tryz.underlying3 hrj'
            have h4 := h3.kp hkr (by simp; omega) (by simp; omega)
            have HPX := Lib.hid hpx
            clear hrj hrj' hmid hmj hpx
            go_wp2_with fail
            refine (bxget_any (L + nd + mj) (T + nd + mi) h4 (by omega) (by omega) (by omega) (by omega)).mono ?_
            rintro e w5 ⟨rfl, rfl⟩
            rw [HPX.out]
            clear hgj hqj hcj h4
            cases hv : f i j with
            | true =>
              have HV := Lib.hid hv
              clear hv
              go_wp2_with fail
              refine (bmset_any j i hMr rfl rfl hlt2 hlt).mono ?_
              rintro e w5 ⟨rfl, hM5, hk5⟩
              go_wp2_with fail
              go_roundw
              case rel => exact ⟨j + 1, by omega, by go_num, hM5.congr (fun Y X _ _ => upTo_set HV.out Y X), hkr.trans hk5 (by intro q hq _; exact hq)⟩
              case measure => simp [intOf]; omega
            | false =>
              have HV := Lib.hid hv
              clear hv
              go_wp2_with fail
              go_roundw
              case rel => exact ⟨j + 1, by omega, by go_num, hMr.congr (fun Y X _ _ => upTo_skip HV.out Y X), hkr⟩
              case measure => simp [intOf]; omega
          · have hdj : decide ((j : Int) < (n : Int)) = false := by simp; omega
            have hje : j = n := by omega
            have hM' : BM wr A3 g3 n (upTo (i + 1) 0 f) := hMr.congr (fun Y X _ hX => by rw [hje]; exact upTo_row hX)
            clear hje
            go_wp2_with fail
            go_roundw
            case rel => exact ⟨i + 1, by omega, by go_num, hM', hkr⟩
            case measure => simp [intOf]; omega
      · have hdi : decide ((i : Int) < (n : Int)) = false := by simp; omega
        have hM' : BM wr A3 g3 n f := hMr.congr (fun Y X hY _ => by unfold upTo; rw [if_pos (by omega)])
        go_wp2_with fail
        go_ret2
        exact ⟨A3, g3, rfl, hM', below_of_kp (((hb1.trans (hb2.mono hz1)).trans (hb3.mono (Nat.le_trans hz1 hz2)))) hkr (by omega) (by intro q hq; simp at hq; omega)⟩

end
end Go.Proofs.YtcekbhhpcmhicaaGreatDoor
namespace Go.Proofs.YtcekbhhpcmhicaaGreatDoor
open Go.RowKit Go.QW Go.QGF Go.QI Go.QM Go.QV Go.QZ Go.QP
theorem bools_upto {j : Nat} {f : Nat → Bool} {b : Bool} (hb : b = f j) : (fun i => if i = j then b else (fun x => if x < j then f x else false) i) = fun x => if x < j + 1 then f x else false := by
  funext i
  by_cases e : i = j
  · rw [if_pos e, if_pos (by omega), hb, e]
  · rw [if_neg e]
    by_cases h : i < j
    · simp only [if_pos h, if_pos (show i < j + 1 by omega)]
    · simp only [if_neg h, if_neg (show ¬ i < j + 1 by omega)]
section
variable {w : World} {A g n : Nat} {f : Nat → Nat → Bool}
theorem bmw_any (h : BM w A g n f) :
    Calls Tryz.prog 136 #[.pointer (some ⟨A, 0, none⟩)] w fun e w' => e = .returned (.int .i64 (n : Nat)) ∧ w = w' := by
  obtain ⟨ws, r, -, -, hA, -⟩ := h.ex
  have a0 := hA.cell 0
  simp only [List.getElem?_toArray, List.getElem?_cons_zero] at a0
  go_enter Tryz.func136, Tryz.ntmps136
  go_wp2
  go_ret
  exact ⟨rfl, rfl⟩
theorem BM.drewN (h : BM w A g n f) (k : Nat) : BM (w.drewN k) A g n f := by
  obtain ⟨ws, r, hr, hl, hA, hg, k'⟩ := h.ex
  exact ⟨ws, r, hr, hl, hA.drewN k, hg.drewN k, k'⟩
theorem BM.below {w' : World} {B : Nat} (h : BM w A g n f) (hb : Below B w w') (h1 : A < B) (h2 : g < B) : BM w' A g n f := by
  obtain ⟨ws, r, hr, hl, hA, hg, k'⟩ := h.ex
  exact ⟨ws, r, hr, hl, hA.below hb h1, hg.below hb h2, k'⟩
theorem bmget_quiet (xn yn k : Nat) (h : BM w A g n f) (hxd : xn < n) (hyd : yn < n) :
    Calls Tryz.prog 137 #[.pointer (some ⟨A, 0, none⟩), .int .i64 xn, .int .i64 yn] (w.drewN k) fun e w' => e = .returned (.bool (f yn xn)) ∧ ∃ m, w' = w.drewN m :=
  (bmget_any xn yn (h.drewN k) rfl rfl hxd hyd).mono fun _ _ h => ⟨h.1, k, h.2.symm⟩
theorem Blk_new_set (w : World) (b i : Nat) (v : Value) (cs : Array Value) : Blk ((w.setCell ⟨b, i, none⟩ v).alloc (.cells cs 4)) w.heap.size 4 cs := by
  have h := Blk.new (w.setCell ⟨b, i, none⟩ v) 4 cs
  rw [show (w.setCell ⟨b, i, none⟩ v).heap.size = w.heap.size by simp [World.setCell]] at h
  exact h
def RowsB (n : Nat) (f : Nat → Nat → Bool) (w : World) (e : Ending) (w' : World) : Prop := ∃ hb, e = .returned (.slice (some ⟨hb, 0, none⟩) n n) ∧ BoolMap w' hb n f ∧ Below w.heap.size w w'
set_option maxHeartbeats 8000000 in
set_option maxRecDepth 100000 in
theorem rowsof_any (h : BM w A g n f) (h1 : 1 ≤ n) (h2 : n ≤ 200) : Calls Tryz.prog 94 #[.pointer (some ⟨A, 0, none⟩)] w (RowsB n f w) := by
  have hmk := fun w => make_rows (P := Tryz.prog) (t := 23) (e := 42) n Tryz.underlying23 (by kernel_rfl) n (n : Int) rfl (by omega) w
  have hmb := fun w => make_bools (P := Tryz.prog) (t := 42) (e := 4) (by kernel_rfl) (by kernel_rfl) n (by omega) w
  have hAl := h.lts
  go_enter Tryz.func94, Tryz.ntmps94
  go_wp2_with fail
  refine (bmh_any h).mono ?_
  rintro e w1 ⟨rfl, rfl⟩
  go_wp2_with fail
  clear hmk
  have hR0 : RMk (w.alloc (.cells (rowsV n n []) 42)) w.heap.size n n 0 [] f := ⟨rfl, Blk.new w _ _, fun j hj => by omega⟩
  have hb1 : Below w.heap.size w (w.alloc (.cells (rowsV n n []) 42)) := (Below.refl _ _).alloc (Nat.le_refl _) _
  obtain ⟨w1, hw1⟩ : ∃ w1, w1 = w.alloc (.cells (rowsV n n []) 42) := ⟨_, rfl⟩
  rw [← hw1] at hR0 hb1 ⊢
  clear hw1
  obtain ⟨hb, hhb⟩ : ∃ hb, hb = w.heap.size := ⟨_, rfl⟩
  rw [← hhb] at hR0 ⊢
  have hm1 := h.below hb1 hAl.1 hAl.2.1
  have hz1 := hb1.size
  have hAh : A < hb ∧ g < hb := by omega
  have HHB := Lib.hid hhb
  clear hhb h
  go_loopw [11] (fun t11 wr => ∃ (i : Nat) (rs : List Nat), i ≤ n ∧ t11 = .int .i64 (i : Nat) ∧ RMk wr hb n n i rs f ∧ Kp [hb] w1 wr) (fun t11 _ => n - (intOf t11).toNat)
  case atStart => exact ⟨0, [], by omega, rfl, hR0, Kp.refl _ _⟩
  case round =>
    obtain ⟨i, rs, hi, rfl, hR, hkr⟩ := hrel
    by_cases hlt : i < n
    · have hdi : decide ((i : Int) < (n : Int)) = true := by simp; omega
      have hmr := hm1.kp hkr (by simp; omega) (by simp; omega)
      have hhl := hR.hd.lt
      have fh := hR.hd.frozen i
      have chd := hR.hd.cell i
      rw [rowsV_get hlt, if_neg (by rw [hR.len]; omega)] at chd
      go_wp2_with fail
      refine (bmw_any hmr).mono ?_
      rintro e w2' ⟨rfl, rfl⟩
      have hst := (hR.store (G := wr.heap.size))
      have hsz : (wr.setCell ⟨hb, i, none⟩ (.slice (some ⟨wr.heap.size, 0, none⟩) n n)).heap.size = wr.heap.size := by simp [World.setCell]
      have hG0 := Blk.new (wr.setCell ⟨hb, i, none⟩ (.slice (some ⟨wr.heap.size, 0, none⟩) n n)) 4 (bools n (fun _ => false))
      rw [hsz] at hG0
      have hH2 := hst.1.alloc (.cells (bools n (fun _ => false)) 4)
      have hrw2 : ∀ j, j < i → Blk ((wr.setCell ⟨hb, i, none⟩ (.slice (some ⟨wr.heap.size, 0, none⟩) n n)).alloc (.cells (bools n (fun _ => false)) 4)) (nth (rs ++ [wr.heap.size]) j) 4 (bools n (f j)) := fun j hj => (hst.2 j hj).alloc _
      have hk2 : Kp [hb] w1 ((wr.setCell ⟨hb, i, none⟩ (.slice (some ⟨wr.heap.size, 0, none⟩) n n)).alloc (.cells (bools n (fun _ => false)) 4)) := (hkr.setCell (by simp) _).alloc _
      have hch2 := hH2.cell i
      rw [rowsV_get hlt, if_pos (by rw [List.length_append, hR.len, List.length_singleton]; omega), show nth (rs ++ [wr.heap.size]) i = wr.heap.size by have := nth_append_right (l := rs) (m := [wr.heap.size]) (i := 0); rw [hR.len, Nat.add_zero] at this; rw [this]; rfl] at hch2
      have HST := Lib.hid (And.intro hH2 (And.intro hrw2 (And.intro hk2 hG0)))
      clear hst hH2 hrw2 hk2 hG0
      go_wp2_with fail
      obtain ⟨w2, hw2⟩ : ∃ w2, w2 = (wr.setCell ⟨hb, i, none⟩ (.slice (some ⟨wr.heap.size, 0, none⟩) n n)).alloc (.cells (bools n (fun _ => false)) 4) := ⟨_, rfl⟩
      have hX := HST.out
      rw [← hw2] at hX hch2 ⊢
      obtain ⟨hH2, hrw2, hk2, hG0⟩ := hX
      have hG0' : Blk w2 wr.heap.size 4 (bools n (fun _ => false)) := by rw [hw2]; exact Blk_new_set wr hb i _ _
      obtain ⟨G, hG⟩ : ∃ G, G = wr.heap.size := ⟨_, rfl⟩
      rw [← hG] at hH2 hrw2 hch2 hG0' ⊢
      have hzr := hkr.size
      have hGz : w1.heap.size ≤ G := by omega
      have hnG : hb ≠ G := by omega
      have hnr : ∀ j, j < i → nth (rs ++ [G]) j ≠ G := fun j hj => by
        rw [nth_append_left (by rw [hR.len]; exact hj)]
        have := (hR.row j hj).lt
        omega
      have HR := Lib.hid (And.intro hH2 (And.intro hrw2 (And.intro hk2 (And.intro hnr hR.len))))
      clear hw2 HST hH2 hrw2 hk2 hG hR hkr hmr hhl fh chd hsz hnr hG0
      have hm2 := hm1.kp HR.out.2.2.1 (by simp; omega) (by simp; omega)
      have hGl := hG0'.lt
      obtain ⟨wo, rfl⟩ : ∃ wo : World, wo = wr := ⟨_, rfl⟩
      go_loopw [25] (fun t25 wr => ∃ j : Nat, j ≤ n ∧ t25 = .int .i64 (j : Nat) ∧ Blk wr G 4 (bools n (fun x => if x < j then f i x else false)) ∧ Kp [G] w2 wr) (fun t25 _ => n - (intOf t25).toNat)
      case atStart => exact ⟨0, by omega, rfl, by rw [bools_congr (g := fun _ => false) (fun x _ => if_neg (by omega))]; exact hG0', Kp.refl _ _⟩
      case round =>
        obtain ⟨j, hj, rfl, hGr, hkr⟩ := hrel
        have hHr := HR.out.1.kp hkr (by simpa using hnG)
        by_cases hlt2 : j < n
        · have hdj : decide ((j : Int) < (n : Int)) = true := by simp; omega
          have hmr := hm2.kp hkr (by simp; omega) (by simp; omega)
          have chr := (hkr.cell (p := ⟨hb, i, none⟩) HR.out.1.lt (by simpa using hnG)).trans hch2
          have cg := hGr.cell j
          rw [bools_get hlt2] at cg
          have fg := hGr.frozen j
          have hset := hGr.set_ j (.bool (f i j))
          rw [bools_set, bools_upto rfl] at hset
          have HSET := Lib.hid hset
          obtain ⟨bz, hbz⟩ : ∃ bz, bz = (if j < j then f i j else false) := ⟨_, rfl⟩
          clear hset hbz hHr
          go_wp2_with fail
          refine wp_region_quiet_tail 10 (by kernel_rfl) (by kernel_rfl) ?_
          simp only [List.take_succ_cons, List.take_zero, List.drop_succ_cons, List.drop_zero]
          repeat (go_big_quiet_step (first | (go_at_call 137; exact bmget_quiet j i _ hmr hlt2 hlt)))
          refine wpQuiet_nil ?_
          intro _ hw''
          obtain ⟨nr, rfl⟩ := hw''
          go_wp2_with fail
          go_roundw
          case rel => exact ⟨j + 1, by omega, by go_num, HSET.out, (hkr.drewN nr).setCell (by simp) _⟩
          case measure => simp [intOf]; omega
        · have hdj : decide ((j : Int) < (n : Int)) = false := by simp; omega
          have hje : j = n := by omega
          have hGf : Blk wr G 4 (bools n (f i)) := by
            rw [bools_congr (g := f i) (fun x hx => by rw [if_pos (by omega)])] at hGr
            exact hGr
          have hRn : RMk wr hb n n (i + 1) (rs ++ [G]) f := RMk.next HR.out.2.2.2.2 hHr (fun j hj => (HR.out.2.1 j hj).kp hkr (by simp; exact HR.out.2.2.2.1 j hj)) hGf
          have hkn : Kp [hb] w1 wr := HR.out.2.2.1.trans hkr (by intro q hq hl; simp at hq; omega)
          clear hje
          go_wp2_with fail
          go_roundw
          case rel => exact ⟨i + 1, _, by omega, by go_num, hRn, hkn⟩
          case measure => simp [intOf]; omega
    · have hdi : decide ((i : Int) < (n : Int)) = false := by simp; omega
      obtain rfl : i = n := by omega
      go_wp2_with fail
      go_ret
      exact ⟨hb, rfl, hR.rm, below_of_kp hb1 hkr hz1 (by intro q hq; simp at hq; have := HHB.out; omega)⟩
end
end Go.Proofs.YtcekbhhpcmhicaaGreatDoor
