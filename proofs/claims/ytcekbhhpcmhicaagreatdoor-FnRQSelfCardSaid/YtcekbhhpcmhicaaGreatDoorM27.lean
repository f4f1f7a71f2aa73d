/- The decoder's matrix of function cells: buildFunctionPattern. -/
import Derived.Test.YtcekbhhpcmhicaaGreatDoorM13
import Derived.Test.YtcekbhhpcmhicaaGreatDoorM25
import Derived.Test.YtcekbhhpcmhicaaGreatDoorM26
import Derived.Deep.DeepCutAuto
import Derived.Deep.LoopGhost
namespace Go.Proofs.YtcekbhhpcmhicaaGreatDoor
open Go.RowKit Go.QW Go.QI Go.QM Go.QV Go.QZ
def cornIx (n i j : Nat) : Bool := (i == 0 && (j == 0 || j + 1 == n)) || (i + 1 == n && j == 0)
theorem cornIx_all : ∀ v : Fin 28, 1 ≤ v.val → ∀ i : Fin 7, ∀ j : Fin 7, i.val < (aligns v.val).length → j.val < (aligns v.val).length → cornIx (aligns v.val).length i.val j.val = corner (17 + 4 * v.val) (nth (aligns v.val) i.val) (nth (aligns v.val) j.val) := by decide +kernel
theorem cornIx_eq (v i j : Nat) (h1 : 1 ≤ v) (h2 : v ≤ 27) (hi : i < (aligns v).length) (hj : j < (aligns v).length) : cornIx (aligns v).length i j = corner (17 + 4 * v) (nth (aligns v) i) (nth (aligns v) j) := by
  have hl := al_len v h1 h2
  exact cornIx_all ⟨v, by omega⟩ h1 ⟨i, by omega⟩ ⟨j, by omega⟩ hi hj
theorem rect_true (l t wd ht : Nat) (f : Nat → Nat → Bool) (Y X : Nat) : rect l t wd ht f Y X = true ↔ f Y X = true ∨ ((t ≤ Y ∧ Y < t + ht) ∧ l ≤ X ∧ X < l + wd) := by
  unfold rect
  by_cases c : (t ≤ Y ∧ Y < t + ht) ∧ l ≤ X ∧ X < l + wd
  · rw [if_pos c]; simp [c]
  · rw [if_neg c]; simp [c]
/-- the cells marked so far: those of F0 and the alignment patterns up to (a, b) -/
def AlF (v a b : Nat) (F0 F : Nat → Nat → Bool) : Prop := ∀ y x, y < 17 + 4 * v → x < 17 + 4 * v → (F y x = true ↔ F0 y x = true ∨ alK v a b y x)
theorem AlF.same {v a b a' b' : Nat} {F0 F : Nat → Nat → Bool} (h : AlF v a b F0 F) (e : ∀ y x, alK v a b y x ↔ alK v a' b' y x) : AlF v a' b' F0 F := fun y x hy hx => by rw [h y x hy hx, e]
theorem AlF.paint {v a b : Nat} {F0 F : Nat → Nat → Bool} (h : AlF v a b F0 F) (h1 : 1 ≤ v) (h2 : v ≤ 27) (ha : a < (aligns v).length) (hb : b < (aligns v).length) (hc : corner (17 + 4 * v) (nth (aligns v) a) (nth (aligns v) b) = false) :
    AlF v a (b + 1) F0 (rect (nth (aligns v) b - 2) (nth (aligns v) a - 2) 5 5 F) := by
  have ok := al_ok v a b h1 h2 ha hb
  intro y x hy hx
  rw [rect_true, h y x hy hx, alK_step v a b y x ha hb hc, near_iff, near_iff, or_assoc]
  have l1 := ok.lo1
  have l2 := ok.lo2
  apply or_congr Iff.rfl
  apply or_congr Iff.rfl
  omega
section
variable {w : World} {V v : Nat}
set_option maxHeartbeats 8000000 in
set_option maxRecDepth 100000 in
theorem bfp_any (hV : Ver w V v) (h1 : 1 ≤ v) (h2 : v ≤ 27) :
    Calls Tryz.prog 238 #[.pointer (some ⟨V, 0, none⟩)] w fun e w' => ∃ B g, e = .returned (.tuple #[.pointer (some ⟨B, 0, none⟩), .nilIface]) ∧ BM w' B g (17 + 4 * v) (fun y x => fp v y x) ∧ Below w.heap.size w w' ∧ w.heap.size ≤ B ∧ w.heap.size ≤ g := by
  go_enter Tryz.func238, Tryz.ntmps238
  go_wp2_with fail
  refine (verdim_any V v w hV (by omega)).mono ?_
  rintro e w2 ⟨rfl, rfl⟩
  obtain ⟨d, hd⟩ : ∃ d, d = 17 + 4 * v := ⟨_, rfl⟩
  rw [← hd]
  have hdb : 17 + 4 * v ≤ d ∧ d ≤ 17 + 4 * v := by omega
  have HD := Lib.hid hd
  clear hd
  go_wp2_with fail
  refine (newsq_any d (by omega) (by omega) w).mono ?_
  rintro e w1 ⟨B, g, rfl, hM, hB, hg, hb1⟩
  have hs1 := hb1.size
  have hV1 := hV.below hb1
  go_wp2_with fail
  refine (region_any 0 0 9 9 hM rfl rfl rfl rfl (by omega) (by omega) (by omega) (by omega) (by omega)).mono ?_
  rintro e w2 ⟨rfl, hM2, hk2⟩
  go_wp2_with fail
  refine (region_any (d - 8) 0 8 9 hM2 (by omega) rfl rfl rfl (by omega) (by omega) (by omega) (by omega) (by omega)).mono ?_
  rintro e w3 ⟨rfl, hM3, hk3⟩
  go_wp2_with fail
  refine (region_any 0 (d - 8) 9 8 hM3 rfl (by omega) rfl rfl (by omega) (by omega) (by omega) (by omega) (by omega)).mono ?_
  rintro e w4 ⟨rfl, hM4, hk4⟩
  have hkp : Kp [g] w1 w4 := (hk2.more hk3).more hk4
  have hgo : Off w1 [g] [3, 141, 201, 211] := by
    obtain ⟨ws, r, -, -, -, hgb, -⟩ := hM.ex
    intro k hk t arr hb
    simp only [List.mem_cons, List.not_mem_nil, or_false] at hk
    subst hk
    rw [← Blk.ty hgb hb]; decide
  obtain ⟨F0, hF0⟩ : ∃ F0, F0 = rect 0 (d - 8) 9 8 (rect (d - 8) 0 8 9 (rect 0 0 9 9 fun _ _ => false)) := ⟨_, rfl⟩
  rw [← hF0] at hM4
  have HF0 := Lib.hid hF0
  clear hF0 hM2 hM3 hk2 hk3 hk4 hM
  have hV4 := hV1.kp hkp hgo
  obtain ⟨ga, ge, g0, g1, g2, g3, L0, L1, L2, L3, -, hVb, -⟩ := hV4.ex
  have v0 := hVb.cell 0
  have v1 := hVb.cell 1
  simp only [List.getElem?_toArray, List.getElem?_cons_zero, List.getElem?_cons_succ] at v0 v1
  have hal := al_len v h1 h2
  obtain ⟨m, hm⟩ : ∃ m, m = (aligns v).length := ⟨_, rfl⟩
  rw [← hm] at v1 hal
  have HM := Lib.hid hm
  clear hm hVb
  go_wp2_with fail
  clear v0 v1
  go_loopg [8] m (fun gk t8 wr => ∃ a : Nat, a ≤ m ∧ m ≤ gk + a ∧ t8 = .int .i64 (a : Nat) ∧ Kp [g] w1 wr ∧ ∃ F, BM wr B g d F ∧ AlF v a 0 F0 F)
  case atStart => exact ⟨0, by omega, by omega, rfl, hkp, F0, hM4, fun y x _ _ => by simp [alK_zero]⟩
  case round =>
    obtain ⟨a, ha, hgk, rfl, hkr, F, hMr, hF⟩ := hrel
    have hVr := hV1.kp hkr hgo
    have hX := hVr.ex
    obtain ⟨ga, ge, g0, g1, g2, g3, L0, L1, L2, L3, -, hVb, hal2, -⟩ := hX
    have v0 := hVb.cell 0
    have v1 := hVb.cell 1
    simp only [List.getElem?_toArray, List.getElem?_cons_zero, List.getElem?_cons_succ] at v0 v1
    rw [← HM.out] at v1
    clear hVb
    by_cases hlt : a < m
    · have hda : decide ((a : Int) < (m : Int)) = true := by simp; omega
      have c0 := hal2.cell a
      rw [ints_get (by rw [← HM.out]; exact hlt)] at c0
      have okA := al_ok v a a h1 h2 (by rw [← HM.out]; exact hlt) (by rw [← HM.out]; exact hlt)
      have o1 := okA.lo1
      have o2 := okA.hi1
      clear okA
      obtain ⟨ca, hca⟩ : ∃ ca, ca = nth (aligns v) a := ⟨_, rfl⟩
      rw [← hca] at c0 o1 o2
      have HCA := Lib.hid hca
      clear hca
      go_wp2_with fail
      clear v0 v1 c0
      obtain ⟨wo, rfl⟩ : ∃ wo : World, wo = wr := ⟨_, rfl⟩
      go_loopg [10] m (fun gk t10 wr => ∃ b : Nat, b ≤ m ∧ m ≤ gk + b ∧ t10 = .int .i64 (b : Nat) ∧ Kp [g] w1 wr ∧ ∃ F, BM wr B g d F ∧ AlF v a b F0 F)
      case atStart => exact ⟨0, by omega, by omega, rfl, hkr, F, hMr, hF⟩
      case round =>
        obtain ⟨b, hb, hgk2, rfl, hkr, F, hMr, hF⟩ := hrel
        by_cases hlt2 : b < m
        · have hdb2 : decide ((b : Int) < (m : Int)) = true := by simp; omega
          have hci := cornIx_eq v a b h1 h2 (by rw [← HM.out]; exact hlt) (by rw [← HM.out]; exact hlt2)
          rw [← HM.out] at hci
          have HCI := Lib.hid hci
          clear hci
          go_upto_region 16 with fail
          go_cut [75] (fun s wx => s = .bool (cornIx m a b) ∧ wr = wx)
          case first =>
            obtain ⟨b1, hb1⟩ : ∃ c, ((a : Int) == 0) = c := ⟨_, rfl⟩
            obtain ⟨b2, hb2⟩ : ∃ c, ((b : Int) == 0) = c := ⟨_, rfl⟩
            obtain ⟨b3, hb3⟩ : ∃ c, ((b : Int) == (m : Int) - 1) = c := ⟨_, rfl⟩
            obtain ⟨b4, hb4⟩ : ∃ c, ((a : Int) == (m : Int) - 1) = c := ⟨_, rfl⟩
            have hcx : cornIx m a b = ((b1 && (b2 || b3)) || (b4 && b2)) := by
              unfold cornIx
              rw [← hb1, ← hb2, ← hb3, ← hb4]
              have e1 : ((a : Int) == 0) = (a == 0) := beq0 a
              have e2 : ((b : Int) == 0) = (b == 0) := beq0 b
              have e3 : ((b : Int) == (m : Int) - 1) = (b + 1 == m) := by rw [Bool.eq_iff_iff, beq_iff_eq, beq_iff_eq]; omega
              have e4 : ((a : Int) == (m : Int) - 1) = (a + 1 == m) := by rw [Bool.eq_iff_iff, beq_iff_eq, beq_iff_eq]; omega
              rw [e1, e2, e3, e4]
            have HCX := Lib.hid hcx
            clear hcx
            cases b1 <;> cases b2 <;> cases b3 <;> cases b4
            all_goals
              go_wp2_with fail
              go_meet
              exact ⟨by rw [HCX.out]; rfl, rfl⟩
          case rest =>
            obtain ⟨rfl, rfl⟩ := hcut
            cases hcc : cornIx m a b with
            | true =>
              have HC : Hid (corner (17 + 4 * v) (nth (aligns v) a) (nth (aligns v) b) = true) := Lib.hid (by rw [← HCI.out, hcc])
              clear hcc
              go_wp2_with fail
              go_roundg (m - (b + 1))
              case measure => omega
              case rel => exact ⟨b + 1, by omega, by omega, by go_num, hkr, F, hMr, hF.same (fun y x => alK_skip v a b y x (.inr (.inr HC.out)))⟩
            | false =>
              have HC : Hid (corner (17 + 4 * v) (nth (aligns v) a) (nth (aligns v) b) = false) := Lib.hid (by rw [← HCI.out, hcc])
              clear hcc
              have hVr := hV1.kp hkr hgo
              have hX := hVr.ex
              obtain ⟨ga, ge, g0, g1, g2, g3, L0, L1, L2, L3, -, hVb, hal2, -⟩ := hX
              have v0 := hVb.cell 0
              have v1 := hVb.cell 1
              simp only [List.getElem?_toArray, List.getElem?_cons_zero, List.getElem?_cons_succ] at v0 v1
              rw [← HM.out] at v1
              clear hVb
              have c0 := hal2.cell b
              rw [ints_get (by rw [← HM.out]; exact hlt2)] at c0
              have okB := al_ok v a b h1 h2 (by rw [← HM.out]; exact hlt) (by rw [← HM.out]; exact hlt2)
              have o3 := okB.lo2
              have o4 := okB.hi2
              clear okB
              obtain ⟨cb, hcb⟩ : ∃ cb, cb = nth (aligns v) b := ⟨_, rfl⟩
              rw [← hcb] at c0 o3 o4
              have HCB := Lib.hid hcb
              clear hcb
              have hpt := hF.paint h1 h2 (by rw [← HM.out]; exact hlt) (by rw [← HM.out]; exact hlt2) HC.out
              rw [← HCA.out, ← HCB.out] at hpt
              have HPT := Lib.hid hpt
              clear hpt
              go_wp2_with fail
              refine (region_any (cb - 2) (ca - 2) 5 5 hMr (by omega) (by omega) rfl rfl (by omega) (by omega) (by omega) (by omega) (by omega)).mono ?_
              rintro e w5 ⟨rfl, hM5, hk5⟩
              clear v0 v1 c0
              go_wp2_with fail
              go_roundg (m - (b + 1))
              case measure => omega
              case rel => exact ⟨b + 1, by omega, by omega, by go_num, hkr.more hk5, _, hM5, HPT.out⟩
        · have hdb2 : decide ((b : Int) < (m : Int)) = false := by simp; omega
          have hbe : b = m := by omega
          have hF' := hF.same (fun y x => alK_row v a b y x (by rw [← HM.out]; omega))
          clear hbe
          go_wp2_with fail
          go_roundg (m - (a + 1))
          case measure => omega
          case rel => exact ⟨a + 1, by omega, by omega, by go_num, hkr, F, hMr, hF'⟩
    · have hda : decide ((a : Int) < (m : Int)) = false := by simp; omega
      have hFin : ∀ y x, y < 17 + 4 * v → x < 17 + 4 * v → (F y x = true ↔ F0 y x = true ∨ alB (17 + 4 * v) (aligns v) y x = true) := fun y x hy hx => by
        rw [hF y x hy hx, alK_all v y x a (by rw [← HM.out]; omega)]
      have HFIN := Lib.hid hFin
      clear hF hFin
      go_wp2_with fail
      refine (region_any 6 9 1 (d - 17) hMr rfl rfl rfl (by omega) (by omega) (by omega) (by omega) (by omega) (by omega)).mono ?_
      rintro e w5 ⟨rfl, hM5, hk5⟩
      have hV5 := hVr.kp hk5 (by
        obtain ⟨ws, r, -, -, -, hgb, -⟩ := hMr.ex
        intro k hk t arr hb
        simp only [List.mem_cons, List.not_mem_nil, or_false] at hk
        subst hk
        rw [← Blk.ty hgb hb]; decide)
      clear v0 v1
      go_wp2_with fail
      refine (region_any 9 6 (d - 17) 1 hM5 rfl rfl (by omega) rfl (by omega) (by omega) (by omega) (by omega) (by omega)).mono ?_
      rintro e w6 ⟨rfl, hM6, hk6⟩
      have hV6 := hV5.kp hk6 (by
        obtain ⟨ws, r, -, -, -, hgb, -⟩ := hM5.ex
        intro k hk t arr hb
        simp only [List.mem_cons, List.not_mem_nil, or_false] at hk
        subst hk
        rw [← Blk.ty hgb hb]; decide)
      obtain ⟨ga, ge, g0, g1, g2, g3, L0, L1, L2, L3, -, hVb, -⟩ := hV6.ex
      have v0 := hVb.cell 0
      simp only [List.getElem?_toArray, List.getElem?_cons_zero] at v0
      clear hVb
      have hk16 := (hkr.more hk5).more hk6
      have hfin : ∀ w7 : World, Kp [g] w6 w7 → Below w.heap.size w w7 := fun w7 hk7 => below_of_kp hb1 (hk16.more hk7) hs1 (by intro k hk; simp only [List.mem_cons, List.not_mem_nil, or_false] at hk; omega)
      have HFN := Lib.hid hfin
      clear hfin
      by_cases h6 : 6 < v
      · have dv : decide ((6 : Int) < (v : Int)) = true := by simp; omega
        go_wp2_with fail
        refine (region_any (d - 11) 0 3 6 hM6 (by omega) rfl rfl rfl (by omega) (by omega) (by omega) (by omega) (by omega)).mono ?_
        rintro e w7 ⟨rfl, hM7, hk7⟩
        clear v0
        go_wp2_with fail
        refine (region_any 0 (d - 11) 6 3 hM7 rfl (by omega) rfl rfl (by omega) (by omega) (by omega) (by omega) (by omega)).mono ?_
        rintro e w8 ⟨rfl, hM8, hk8⟩
        go_wp2_with fail
        go_ret2
        refine ⟨B, g, rfl, ?_, HFN.out _ (hk7.more hk8), hB, hg⟩
        rw [← HD.out]
        refine hM8.congr (fun y x hy hx => ?_)
        rw [Bool.eq_iff_iff, rect_true, rect_true, rect_true, rect_true, HFIN.out y x (by omega) (by omega), HF0.out, rect_true, rect_true, rect_true]
        unfold fp fpB
        have hbb := HD.out
        simp only [Bool.or_eq_true, Bool.and_eq_true, Nat.blt_eq, Nat.ble_eq, Nat.beq_eq, Bool.false_eq_true, false_or]
        generalize alB (17 + 4 * v) (aligns v) y x = q
        cases q
        · simp only [Bool.false_eq_true, or_false]; omega
        · simp
      · have dv : decide ((6 : Int) < (v : Int)) = false := by simp; omega
        go_wp2_with fail
        go_ret2
        refine ⟨B, g, rfl, ?_, HFN.out _ (Kp.refl _ _), hB, hg⟩
        rw [← HD.out]
        refine hM6.congr (fun y x hy hx => ?_)
        rw [Bool.eq_iff_iff, rect_true, rect_true, HFIN.out y x (by omega) (by omega), HF0.out, rect_true, rect_true, rect_true]
        unfold fp fpB
        have hbb := HD.out
        simp only [Bool.or_eq_true, Bool.and_eq_true, Nat.blt_eq, Nat.ble_eq, Nat.beq_eq, Bool.false_eq_true, false_or]
        generalize alB (17 + 4 * v) (aligns v) y x = q
        cases q
        · simp only [Bool.false_eq_true, or_false]; omega
        · simp
end
end Go.Proofs.YtcekbhhpcmhicaaGreatDoor
