/- The decoder's mask: the eight functions and UnmaskBitMatrix. -/
import Derived.Test.YtcekbhhpcmhicaaGreatDoorM16
import Derived.Test.YtcekbhhpcmhicaaGreatDoorM22
import Derived.FollowTie
namespace Go.Proofs.YtcekbhhpcmhicaaGreatDoor
open Go.RowKit Go.QW Go.QI Go.QM Go.QV Go.QZ
theorem BM.lts {w : World} {A g d : Nat} {f : Nat → Nat → Bool} (h : BM w A g d f) : A < w.heap.size ∧ g < w.heap.size ∧ A ≠ g := by
  obtain ⟨ws, r, -, -, hA, hg, -⟩ := h.ex
  exact ⟨hA.lt, hg.lt, hA.ne_ hg (by decide)⟩
section
variable {w : World}
theorem callFunc_go {P : Program} {n : Nat} {fn : Func} (h : P.funcs[n]? = some fn) (h1 : (fn.name == "runtime.NumGoroutine") = false) (h2 : fn.body.isNone = false) (a : Array Value) (w : World) : Sem.run P (callFunc n a) w = .ok (.enter n a) w := by
  have h1' : ¬ fn.name = "runtime.NumGoroutine" := by simpa using h1
  have h2' : ¬ fn.body = none := fun e => by rw [e] at h2; simp at h2
  simp [callFunc, h, h1', h2', go_sem]
/-- what a function of the list DataMaskValues answers -/
def MaskF (n k : Nat) : Prop := (∀ (a : Array Value) (w : World), Sem.run Tryz.prog (callFunc n a) w = .ok (.enter n a) w) ∧ ∀ (i j : Nat) (w : World), i ≤ 200 → j ≤ 200 → Calls Tryz.prog n #[.int .i64 i, .int .i64 j] w fun e w' => e = .returned (.bool (mbit k i j)) ∧ w = w'
theorem ret_beq0 (u v : Nat) (b : Bool) (h : (u == 0) = b) (e : u = v) : Ending.returned (.bool (((v : Nat) : Int) == 0)) = .returned (.bool b) := by
  subst e; rw [← h]; exact ret_bool (beq0 u)
theorem m56 (q : Nat) : (q % 2 + q % 3 == 0) = (q % 6 == 0) := by rw [Bool.eq_iff_iff, beq_iff_eq, beq_iff_eq]; omega
theorem m66 (q : Nat) : ((q % 2 + q % 3) % 2 == 0) = decide (q % 6 < 3) := by rw [Bool.eq_iff_iff, beq_iff_eq, decide_eq_true_eq]; omega
theorem m76 (q s : Nat) : ((q % 3 + s % 2) % 2 == 0) = ((s + q % 3) % 2 == 0) := by rw [Bool.eq_iff_iff, beq_iff_eq, beq_iff_eq]; omega
theorem m6i (p : Nat) : decide (((p : Int) % 6) < 3) = decide (p % 6 < 3) := by rw [Bool.eq_iff_iff, decide_eq_true_eq, decide_eq_true_eq]; omega
set_option maxHeartbeats 4000000 in
theorem maskF0 : MaskF 255 0 := by
  refine ⟨callFunc_go Tryz.func255 (by kernel_rfl) (by kernel_rfl), ?_⟩
  intro i j w hi hj
  have ha := and1 (i + j) (by omega)
  rw [Int.natCast_add] at ha
  go_enter Tryz.func255, Tryz.ntmps255
  go_wp2_with fail
  go_ret
  refine ⟨ret_bool ?_, rfl⟩
  show (((i : Int) + (j : Int)) % 2 == 0) = ((i + j) % 2 == 0)
  rw [show (((i : Int) + (j : Int)) % 2) = (((i + j) % 2 : Nat) : Int) by omega, beq0]
set_option maxHeartbeats 4000000 in
theorem maskF1 : MaskF 256 1 := by
  refine ⟨callFunc_go Tryz.func256 (by kernel_rfl) (by kernel_rfl), ?_⟩
  intro i j w hi hj
  have ha := and1 i (by omega)
  go_enter Tryz.func256, Tryz.ntmps256
  go_wp2_with fail
  go_ret
  refine ⟨ret_bool ?_, rfl⟩
  show (((i : Int)) % 2 == 0) = (i % 2 == 0)
  rw [show ((i : Int) % 2) = ((i % 2 : Nat) : Int) by omega, beq0]
set_option maxHeartbeats 4000000 in
theorem maskF2 : MaskF 257 2 := by
  refine ⟨callFunc_go Tryz.func257 (by kernel_rfl) (by kernel_rfl), ?_⟩
  intro i j w hi hj
  go_enter Tryz.func257, Tryz.ntmps257
  go_wp2_with fail
  go_ret
  refine ⟨ret_bool ?_, rfl⟩
  show (((j : Int) % 3) == 0) = (j % 3 == 0)
  rw [show ((j : Int) % 3) = ((j % 3 : Nat) : Int) by omega, beq0]
set_option maxHeartbeats 4000000 in
theorem maskF3 : MaskF 258 3 := by
  refine ⟨callFunc_go Tryz.func258 (by kernel_rfl) (by kernel_rfl), ?_⟩
  intro i j w hi hj
  go_enter Tryz.func258, Tryz.ntmps258
  go_wp2_with fail
  go_ret
  refine ⟨ret_bool ?_, rfl⟩
  show ((((i : Int) + (j : Int)) % 3) == 0) = ((i + j) % 3 == 0)
  rw [show (((i : Int) + (j : Int)) % 3) = (((i + j) % 3 : Nat) : Int) by omega, beq0]
set_option maxHeartbeats 4000000 in
theorem maskF4 : MaskF 259 4 := by
  refine ⟨callFunc_go Tryz.func259 (by kernel_rfl) (by kernel_rfl), ?_⟩
  intro i j w hi hj
  have ha := and1 (i / 2 + j / 3) (by omega)
  rw [Int.natCast_add] at ha
  go_enter Tryz.func259, Tryz.ntmps259
  go_wp2_with fail
  go_ret
  refine ⟨ret_bool ?_, rfl⟩
  show (bits .and .i64 (((i / 2 : Nat) : Int) + ((j / 3 : Nat) : Int)) 1 == 0) = ((i / 2 + j / 3) % 2 == 0)
  rw [ha, beq0]
theorem prod_nat (i j : Nat) (hi : i ≤ 200) (hj : j ≤ 200) : ∃ p : Nat, p = i * j ∧ p ≤ 40000 ∧ wrap64 ((i : Int) * (j : Int)) = (p : Int) := by
  have h := Nat.mul_le_mul hi hj
  refine ⟨i * j, rfl, by omega, ?_⟩
  rw [← Int.natCast_mul]
  unfold wrap64
  omega
set_option maxHeartbeats 4000000 in
theorem maskF5 : MaskF 260 5 := by
  refine ⟨callFunc_go Tryz.func260 (by kernel_rfl) (by kernel_rfl), ?_⟩
  intro i j w hi hj
  obtain ⟨p, hp, hpl, hw⟩ := prod_nat i j hi hj
  have HP := Lib.hid hp
  clear hp
  go_enter Tryz.func260, Tryz.ntmps260
  go_wp2_with fail
  go_ret
  refine ⟨ret_bool ?_, rfl⟩
  have e : mbit 5 i j = (p % 6 == 0) := by
    rw [HP.out]
    exact m56 (i * j)
  rw [e]
  show (((p : Int) % 6) == 0) = _
  rw [show ((p : Int) % 6) = ((p % 6 : Nat) : Int) by omega, beq0]
set_option maxHeartbeats 4000000 in
theorem maskF6 : MaskF 261 6 := by
  refine ⟨callFunc_go Tryz.func261 (by kernel_rfl) (by kernel_rfl), ?_⟩
  intro i j w hi hj
  obtain ⟨p, hp, hpl, hw⟩ := prod_nat i j hi hj
  have HP := Lib.hid hp
  clear hp
  go_enter Tryz.func261, Tryz.ntmps261
  go_wp2_with fail
  go_ret
  refine ⟨ret_bool ?_, rfl⟩
  have e : mbit 6 i j = decide (p % 6 < 3) := by
    rw [HP.out]
    exact m66 (i * j)
  rw [e]
  exact m6i p
set_option maxHeartbeats 4000000 in
theorem maskF7 : MaskF 262 7 := by
  refine ⟨callFunc_go Tryz.func262 (by kernel_rfl) (by kernel_rfl), ?_⟩
  intro i j w hi hj
  obtain ⟨p, hp, hpl, hw⟩ := prod_nat i j hi hj
  have HP := Lib.hid hp
  clear hp
  have ha := and1 (i + j + p % 3) (by omega)
  rw [Int.natCast_add, Int.natCast_add] at ha
  go_enter Tryz.func262, Tryz.ntmps262
  go_wp2_with fail
  go_ret
  refine ⟨ret_bool ?_, rfl⟩
  have e : mbit 7 i j = ((i + j + p % 3) % 2 == 0) := by
    rw [HP.out]
    exact m76 (i * j) (i + j)
  rw [e]
  show (bits .and .i64 ((i : Int) + (j : Int) + ((p % 3 : Nat) : Int)) 1 == 0) = _
  rw [ha, beq0]
def maskId (k : Nat) : Nat := [255, 256, 257, 258, 259, 260, 261, 262].getD k 0
theorem maskF (k : Nat) (hk : k < 8) : MaskF (maskId k) k := by
  match k, hk with
  | 0, _ => exact maskF0
  | 1, _ => exact maskF1
  | 2, _ => exact maskF2
  | 3, _ => exact maskF3
  | 4, _ => exact maskF4
  | 5, _ => exact maskF5
  | 6, _ => exact maskF6
  | 7, _ => exact maskF7
/-- unmasked up to row i, column j -/
def umK (k i j : Nat) (f : Nat → Nat → Bool) : Nat → Nat → Bool := fun Y X => if Y < i ∨ (Y = i ∧ X < j) then (f Y X ^^ mbit k Y X) else f Y X
theorem umK_row {k i d : Nat} {f : Nat → Nat → Bool} {Y X : Nat} (hX : X < d) : umK k i d f Y X = umK k (i + 1) 0 f Y X := by
  unfold umK
  by_cases c : Y < i ∨ (Y = i ∧ X < d)
  · rw [if_pos c, if_pos (by omega)]
  · rw [if_neg c, if_neg (by omega)]
theorem umK_flip {k i j : Nat} {f : Nat → Nat → Bool} (hm : mbit k i j = true) (Y X : Nat) : (if Y = i ∧ X = j then !(umK k i j f i j) else umK k i j f Y X) = umK k i (j + 1) f Y X := by
  unfold umK
  by_cases c : Y = i ∧ X = j
  · obtain ⟨rfl, rfl⟩ := c
    rw [if_pos ⟨rfl, rfl⟩, if_neg (by omega), if_pos (by omega), hm, Bool.xor_true]
  · rw [if_neg c]
    by_cases c2 : Y < i ∨ (Y = i ∧ X < j)
    · rw [if_pos c2, if_pos (by omega)]
    · rw [if_neg c2, if_neg (by omega)]
theorem umK_keep {k i j : Nat} {f : Nat → Nat → Bool} (hm : mbit k i j = false) (Y X : Nat) : umK k i j f Y X = umK k i (j + 1) f Y X := by
  unfold umK
  by_cases c : Y = i ∧ X = j
  · obtain ⟨rfl, rfl⟩ := c
    rw [if_neg (by omega), if_pos (by omega), hm, Bool.xor_false]
  · by_cases c2 : Y < i ∨ (Y = i ∧ X < j)
    · rw [if_pos c2, if_pos (by omega)]
    · rw [if_neg c2, if_neg (by omega)]
set_option maxHeartbeats 8000000 in
set_option maxRecDepth 100000 in
theorem unmask_any {A g d n k : Nat} {f : Nat → Nat → Bool} (hF : MaskF n k) (h : BM w A g d f) (hd : d ≤ 200) :
    Calls Tryz.prog 217 #[.agg #[.func (.func n) #[] #[]], .pointer (some ⟨A, 0, none⟩), .int .i64 d] w fun e w' => e = .returned (.tuple #[]) ∧ BM w' A g d (fun Y X => f Y X ^^ mbit k Y X) ∧ Kp [g] w w' := by
  obtain ⟨hcf, hF⟩ := hF
  have HF := Lib.hid hF
  clear hF
  go_enter Tryz.func217, Tryz.ntmps217
  go_wp2_with fail
  have hlt := h.lts
  have hb0 := Blk.new w 344 #[.func (.func n) #[] #[]]
  have hM0 := h.kp ((Kp.refl [] w).alloc (.cells #[.func (.func n) #[] #[]] 344)) (by simp) (by simp)
  have hk0 := (Kp.refl [g] w).alloc (.cells #[.func (.func n) #[] #[]] 344)
  obtain ⟨w1, hw1⟩ : ∃ w1, w1 = w.alloc (.cells #[.func (.func n) #[] #[]] 344) := ⟨_, rfl⟩
  rw [← hw1] at hb0 hM0 hk0 ⊢
  clear hw1
  obtain ⟨N, hN⟩ : ∃ N, N = w.heap.size := ⟨_, rfl⟩
  rw [← hN] at hb0 hlt ⊢
  clear hN
  go_loopw [6] (fun t6 wr => ∃ i : Nat, i ≤ d ∧ t6 = .int .i64 (i : Nat) ∧ BM wr A g d (umK k i 0 f) ∧ Blk wr N 344 #[.func (.func n) #[] #[]] ∧ Kp [g] w wr) (fun t6 _ => d - (intOf t6).toNat)
  case atStart => exact ⟨0, by omega, rfl, hM0.congr (fun Y X _ _ => by unfold umK; rw [if_neg (by omega)]), hb0, hk0⟩
  case round =>
    obtain ⟨i, hi, rfl, hM, hB, hkp⟩ := hrel
    by_cases hlt1 : i < d
    · have hda : decide ((i : Int) < (d : Int)) = true := by simp; omega
      go_wp2_with fail
      obtain ⟨wo, rfl⟩ : ∃ wo : World, wo = wr := ⟨_, rfl⟩
      go_loopw [7] (fun t7 wr => ∃ j : Nat, j ≤ d ∧ t7 = .int .i64 (j : Nat) ∧ BM wr A g d (umK k i j f) ∧ Blk wr N 344 #[.func (.func n) #[] #[]] ∧ Kp [g] w wr) (fun t7 _ => d - (intOf t7).toNat)
      case atStart => exact ⟨0, by omega, rfl, hM, hB, hkp⟩
      case round =>
        obtain ⟨j, hj, rfl, hM, hB, hkp⟩ := hrel
        by_cases hlt2 : j < d
        · have hdb : decide ((j : Int) < (d : Int)) = true := by simp; omega
          have c0 := hB.cell 0
          simp only [List.getElem?_toArray, List.getElem?_cons_zero] at c0
          cases hmb : mbit k i j with
          | true =>
            have HMB := Lib.hid hmb
            clear hmb
            go_wp2_with fail
            refine (HF.out i j _ (by omega) (by omega)).mono ?_
            rintro e w2 ⟨rfl, rfl⟩
            rw [HMB.out]
            clear c0
            go_wp2_with fail
            refine (bmflip_any j i hM rfl rfl hlt2 hlt1).mono ?_
            rintro e w2 ⟨rfl, hM2, hk2⟩
            have hB2 := hB.kp hk2 (by simp; omega)
            go_wp2_with fail
            go_roundw
            case rel => exact ⟨j + 1, by omega, by go_num, hM2.congr (fun Y X _ _ => umK_flip HMB.out Y X), hB2, hkp.more hk2⟩
            case measure => simp [intOf]; omega
          | false =>
            have HMB := Lib.hid hmb
            clear hmb
            go_wp2_with fail
            refine (HF.out i j _ (by omega) (by omega)).mono ?_
            rintro e w2 ⟨rfl, rfl⟩
            rw [HMB.out]
            clear c0
            go_wp2_with fail
            go_roundw
            case rel => exact ⟨j + 1, by omega, by go_num, hM.congr (fun Y X _ _ => umK_keep HMB.out Y X), hB, hkp⟩
            case measure => simp [intOf]; omega
        · have hje : j = d := by omega
          have hdb : decide ((j : Int) < (d : Int)) = false := by simp; omega
          have hM' := hM
          rw [hje] at hM'
          clear hje
          go_wp2_with fail
          go_roundw
          case rel => exact ⟨i + 1, by omega, by go_num, hM'.congr (fun Y X _ hX => umK_row hX), hB, hkp⟩
          case measure => simp [intOf]; omega
    · have hie : i = d := by omega
      have hda : decide ((i : Int) < (d : Int)) = false := by simp; omega
      have hM' := hM
      rw [hie] at hM'
      clear hie
      go_wp2_with fail
      go_end0
      exact ⟨rfl, hM'.congr (fun Y X hY _ => by unfold umK; rw [if_pos (by omega)]), hkp⟩
end
end Go.Proofs.YtcekbhhpcmhicaaGreatDoor
