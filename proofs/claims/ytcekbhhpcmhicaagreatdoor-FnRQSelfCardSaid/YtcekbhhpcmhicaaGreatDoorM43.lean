/- The hybrid binarizer: all blocks of a picture; The hybrid binarizer's matrix of a picture of two grays, the dark one 0; impl.source, impl.black: the dark pixels of a picture of two grays; spec.RQGrays, spec.RQTold: the grays of a picture; whether it can be told. -/
import Derived.Test.YtcekbhhpcmhicaaGreatDoorM34
import Derived.Test.YtcekbhhpcmhicaaGreatDoorM40
import Derived.Test.YtcekbhhpcmhicaaGreatDoorM42
namespace Go.Proofs.YtcekbhhpcmhicaaGreatDoor
open Go.RowKit Go.QW Go.QGF Go.QH Go.QH2
/-- what the blocks ahead of row y, column x cover -/
def CovI (W H y x : Nat) (F0 F : Nat → Nat → Bool) : Prop := (∀ Y X, F0 Y X = true → F Y X = true) ∧ ∀ Y X, Y < H → X < W → (Y < 8 * y ∨ (Y < 8 * y + 8 ∧ X < 8 * x)) → F Y X = true → F0 Y X = true
theorem CovI.zero (W H : Nat) (F : Nat → Nat → Bool) : CovI W H 0 0 (fun _ _ => false) F := ⟨fun _ _ h => absurd h (by simp), fun Y X _ _ h _ => absurd h (by omega)⟩
theorem CovI.step {W H y x yo xo : Nat} {F0 F : Nat → Nat → Bool} (h : CovI W H y x F0 F) (hy : yo ≤ 8 * y ∧ (yo = 8 * y ∨ yo + 8 = H)) (hx : xo ≤ 8 * x ∧ (xo = 8 * x ∨ xo + 8 = W)) : CovI W H y (x + 1) (blkK yo xo 8 0 F0 F) F := by
  refine ⟨fun Y X hp => ?_, fun Y X hY hX hc hF => ?_⟩
  · unfold blkK at hp
    rw [Bool.or_eq_true, Bool.and_eq_true] at hp
    rcases hp with hp | hp
    · exact h.1 Y X hp
    · exact hp.2
  · unfold blkK
    rw [Bool.or_eq_true, Bool.and_eq_true]
    by_cases c : Y < 8 * y ∨ (Y < 8 * y + 8 ∧ X < 8 * x)
    · exact .inl (h.2 Y X hY hX c hF)
    · exact .inr ⟨decide_eq_true (by omega), hF⟩
theorem CovI.row {W H y x : Nat} {F0 F : Nat → Nat → Bool} (h : CovI W H y x F0 F) (hx : W ≤ 8 * x) : CovI W H (y + 1) 0 F0 F := ⟨h.1, fun Y X hY hX hc hF => h.2 Y X hY hX (by omega) hF⟩
theorem CovI.all {W H y : Nat} {F0 F : Nat → Nat → Bool} (h : CovI W H y 0 F0 F) (hy : H ≤ 8 * y) {Y X : Nat} (hY : Y < H) (hX : X < W) : F0 Y X = F Y X := by
  cases hc : F Y X with
  | true => exact h.2 Y X hY hX (by omega) hc
  | false =>
    cases hd : F0 Y X with
    | false => rfl
    | true => rw [h.1 Y X hd] at hc; cases hc
section
variable {w : World}
theorem BX.cov {A ga W H y : Nat} {F0 F : Nat → Nat → Bool} (h : BX w A ga W H F0) (hc : CovI W H y 0 F0 F) (hy : H ≤ 8 * y) (hF : ∀ y x, W ≤ x → F y x = false) : BX w A ga W H F := by
  obtain ⟨ws, r, hr, hl, hA, hg, hw, ht, ho, h1, h2⟩ := h.ex
  refine ⟨ws, r, hr, hl, hA, hg, hw, fun y x hy' hx => ?_, hF, h1, h2⟩
  rw [ht y x hy' hx]
  by_cases hxW : x < W
  · exact hc.all hy hy' hxW
  · rw [ho y x (by omega), hF y x (by omega)]
theorem BX.drewN {A ga W H : Nat} {F : Nat → Nat → Bool} (h : BX w A ga W H F) (n : Nat) : BX (w.drewN n) A ga W H F := by
  obtain ⟨ws, r, hr, hl, hA, hg, k⟩ := h.ex
  exact ⟨ws, r, hr, hl, hA.drewN n, hg.drewN n, k⟩
theorem IMk.cell {hb H W M : Nat} {rs : List Nat} (h : IMk w hb H W H rs M) {y : Nat} (hy : y < H) : ∃ G l, w.cell? ⟨hb, y, none⟩ = some (.slice (some ⟨G, 0, none⟩) W W) ∧ (∀ k, k < W → w.cell? ⟨G, k, none⟩ = some (.int .i64 (nth l k : Nat))) ∧ ∀ k, nth l k < M := by
  obtain ⟨l, a, b, c⟩ := h.row y hy
  refine ⟨nth rs y, l, ?_, fun k hk => ?_, c⟩
  · rw [h.hd.cell y, rowsV_get hy, if_pos (by rw [h.len]; exact hy)]
  · have := a.cell k
    rw [ints_get (by rw [b]; exact hk)] at this
    exact this
set_option maxHeartbeats 16000000 in
set_option maxRecDepth 100000 in
theorem cthr_any {Y g N c A ga W H sw sh M hb : Nat} {rs : List Nat} {phi : Nat → Nat} {F : Nat → Nat → Bool} (hA : BX w A ga W H (fun _ _ => false)) (hI : IMk w hb sh sw sh rs M) (hg : Gry w g N phi) (hN : N = H * W) (hW : 40 ≤ W ∧ W ≤ 1000) (hH : 40 ≤ H ∧ H ≤ 1000) (hsw : sw = (W + 7) / 8) (hsh : sh = (H + 7) / 8)
    (hne : g ≠ ga) (hp : Grays F W H 0 M phi) :
    Calls Tryz.prog 337 #[.pointer (some ⟨Y, 0, none⟩), .slice (some ⟨g, 0, none⟩) N c, .int .i64 sw, .int .i64 sh, .int .i64 W, .int .i64 H, .slice (some ⟨hb, 0, none⟩) sh sh, .pointer (some ⟨A, 0, none⟩)] w fun e w' => e = .returned (.tuple #[]) ∧ BX w' A ga W H F ∧ Kp [ga] w w' := by
  have hswb : 5 ≤ sw ∧ sw ≤ 126 ∧ 8 * sw ≤ W + 7 ∧ W ≤ 8 * sw := by omega
  have hshb : 5 ≤ sh ∧ sh ≤ 126 ∧ 8 * sh ≤ H + 7 ∧ H ≤ 8 * sh := by omega
  have hl2 := hp.l2
  have hl1 := hp.l1
  have hgab : ga ∉ [hb] ∧ ∀ j, j < sh → nth rs j ≠ ga := by
    obtain ⟨ws, r, hr, hl, hA', hg', -⟩ := hA.ex
    refine ⟨by simp; exact (Ne.symm (hI.hd.ne_ hg' (by decide))), fun j hj => ?_⟩
    obtain ⟨l, a, -⟩ := hI.row j hj
    exact a.ne_ hg' (by decide)
  have HI := Lib.hid hI
  have HN := Lib.hid hN
  have HG := Lib.hid hg
  have HPX := Lib.hid hp
  have HGA := Lib.hid hgab
  clear hI hsw hsh hN hg hp hgab
  go_enter Tryz.func337, Tryz.ntmps337
  go_wp2_with fail
  go_loopw [18] (fun t18 wr => ∃ (y : Nat) (F0 : Nat → Nat → Bool), y ≤ sh ∧ t18 = .int .i64 (y : Nat) ∧ BX wr A ga W H F0 ∧ Hid (CovI W H y 0 F0 F) ∧ Kp [ga] w wr) (fun t18 _ => sh - (intOf t18).toNat)
  case atStart => exact ⟨0, _, by omega, rfl, hA, Lib.hid (CovI.zero W H F), Kp.refl _ _⟩
  case round =>
    obtain ⟨y, F0, hy, rfl, hM, HC, hk⟩ := hrel
    by_cases hlt : y < sh
    · have hdy : decide ((y : Int) < (sh : Int)) = true := by simp; omega
      go_upto_if 41 with fail
      go_cut [19] (fun s wx => ∃ yo : Nat, (yo + 8 ≤ H ∧ yo ≤ 8 * y ∧ (yo = 8 * y ∨ yo + 8 = H)) ∧ s = .int .i64 (yo : Nat) ∧ wr = wx)
      case first =>
        by_cases hbr : H - 8 < 8 * y
        · have hdb : decide ((H : Int) - 8 < (y : Int) * 8) = true := by simp; omega
          go_wp2_with fail
          go_meet
          exact ⟨H - 8, by omega, by congr 1; omega, rfl⟩
        · have hdb : decide ((H : Int) - 8 < (y : Int) * 8) = false := by simp; omega
          go_wp2_with fail
          go_meet
          exact ⟨8 * y, by omega, by congr 1; omega, rfl⟩
      case rest =>
        obtain ⟨yo, hyo, rfl, rfl⟩ := hcut
        go_wp2_with fail
        refine (cap_any y (sh - 3) (by omega) (by omega)).mono ?_
        rintro e w1 ⟨tp, htp1, htp2, rfl, rfl⟩
        go_wp2_with fail
        obtain ⟨wo, rfl⟩ : ∃ wo : World, wo = wr := ⟨_, rfl⟩
        go_loopw [21] (fun t21 wr => ∃ (x : Nat) (F0 : Nat → Nat → Bool), x ≤ sw ∧ t21 = .int .i64 (x : Nat) ∧ BX wr A ga W H F0 ∧ Hid (CovI W H y x F0 F) ∧ Kp [ga] w wr) (fun t21 _ => sw - (intOf t21).toNat)
        case atStart => exact ⟨0, F0, by omega, rfl, hM, HC, hk⟩
        case round =>
          clear hM HC hk
          obtain ⟨x, F0, hx, rfl, hM, HC, hk⟩ := hrel
          by_cases hltx : x < sw
          · have hdx : decide ((x : Int) < (sw : Int)) = true := by simp; omega
            go_upto_if 57 with fail
            go_cut [22] (fun s wx => ∃ xo : Nat, (xo + 8 ≤ W ∧ xo ≤ 8 * x ∧ (xo = 8 * x ∨ xo + 8 = W)) ∧ s = .int .i64 (xo : Nat) ∧ wr = wx)
            case first =>
              by_cases hbx : W - 8 < 8 * x
              · have hdb : decide ((W : Int) - 8 < (x : Int) * 8) = true := by simp; omega
                go_wp2_with fail
                go_meet
                exact ⟨W - 8, by omega, by congr 1; omega, rfl⟩
              · have hdb : decide ((W : Int) - 8 < (x : Int) * 8) = false := by simp; omega
                go_wp2_with fail
                go_meet
                exact ⟨8 * x, by omega, by congr 1; omega, rfl⟩
            case rest =>
              obtain ⟨xo, hxo, rfl, rfl⟩ := hcut
              go_wp2_with fail
              refine (cap_any x (sw - 3) (by omega) (by omega)).mono ?_
              rintro e w1 ⟨lf, hlf1, hlf2, rfl, rfl⟩
              have hIr := HI.out.kp hk (by have := HGA.out.1; simp at this ⊢; exact fun h => this h.symm) (fun j hj => by have := HGA.out.2 j hj; simpa using this)
              have HIR := Lib.hid hIr
              clear hIr
              go_wp2_with fail
              obtain ⟨wq, hwq⟩ : ∃ wq : World, wq = wr := ⟨_, rfl⟩
              go_loopw [24, 25] (fun t24 t25 wx => ∃ (k s n : Nat), k ≤ 5 ∧ s ≤ 1300 * k ∧ t24 = .int .i64 (s : Nat) ∧ t25 = .int .i64 ((k : Int) - 2) ∧ Hid (s ≤ (M - 1) * (5 * k)) ∧ wx = wr.drewN n) (fun _ t25 _ => 5 - (intOf t25 + 2).toNat)
              case atStart => exact ⟨0, 0, 0, by omega, by omega, rfl, rfl, Lib.hid (by omega), rfl⟩
              case round =>
                obtain ⟨k, s, n, hk5, hs, rfl, rfl, HS, rfl⟩ := hrel
                by_cases hlk : k < 5
                · have hdk : decide ((k : Int) - 2 ≤ 2) = true := by simp; omega
                  obtain ⟨q, hq⟩ : ∃ q : Nat, (tp : Int) + ((k : Int) - 2) = (q : Int) := ⟨tp + k - 2, by omega⟩
                  obtain ⟨G, l, c1, c2, c3⟩ := HIR.out.cell (y := q) (by omega)
                  have e1 := c2 (lf - 2) (by omega)
                  have e2 := c2 (lf - 1) (by omega)
                  have e3 := c2 lf (by omega)
                  have e4 := c2 (lf + 1) (by omega)
                  have e5 := c2 (lf + 2) (by omega)
                  have m1 := c3 (lf - 2)
                  have m2 := c3 (lf - 1)
                  have m3 := c3 lf
                  have m4 := c3 (lf + 1)
                  have m5 := c3 (lf + 2)
                  obtain ⟨v1, hv1⟩ : ∃ v, v = nth l (lf - 2) := ⟨_, rfl⟩
                  obtain ⟨v2, hv2⟩ : ∃ v, v = nth l (lf - 1) := ⟨_, rfl⟩
                  obtain ⟨v3, hv3⟩ : ∃ v, v = nth l lf := ⟨_, rfl⟩
                  obtain ⟨v4, hv4⟩ : ∃ v, v = nth l (lf + 1) := ⟨_, rfl⟩
                  obtain ⟨v5, hv5⟩ : ∃ v, v = nth l (lf + 2) := ⟨_, rfl⟩
                  rw [← hv1] at e1 m1
                  rw [← hv2] at e2 m2
                  rw [← hv3] at e3 m3
                  rw [← hv4] at e4 m4
                  rw [← hv5] at e5 m5
                  have HS2 : Hid (s + (v1 + v2 + v3 + v4 + v5) ≤ (M - 1) * (5 * (k + 1))) := Lib.hid (by rw [Nat.mul_succ, Nat.mul_add]; have := HS.out; omega)
                  clear c2 c3 hv1 hv2 hv3 hv4 hv5
                  go_wp2_with fail
                  go_quiet (fail)
                  go_wp2_with fail
                  go_roundw
                  case rel => exact ⟨k + 1, s + (v1 + v2 + v3 + v4 + v5), n + nq, by omega, by omega, by congr 1 <;> omega, by congr 1 <;> omega, HS2, rfl⟩
                  case measure => simp [intOf]; omega
                · obtain rfl : k = 5 := by omega
                  obtain ⟨th, hth⟩ : ∃ th, th = s / 25 := ⟨_, rfl⟩
                  have hthI : (s : Int) / 25 = ((th : Nat) : Int) := by rw [hth]; rfl
                  have hthM : th < M := by have := HS.out; omega
                  clear hth
                  go_wp2_with fail
                  refine (thr_any (hM.drewN n) (HG.out.kp (hk.drewN n) (by simpa using hne)) HN.out hW hH hne HPX.out hxo.1 hyo.1 hthM).mono ?_
                  rintro e w5 ⟨rfl, hM5, hk5⟩
                  have HC5 : Hid (CovI W H y (x + 1) (blkK yo xo 8 0 F0 F) F) := Lib.hid (HC.out.step hyo.2 hxo.2)
                  go_wp2_with fail
                  go_roundw
                  case rel => exact ⟨x + 1, _, by omega, by go_num, hM5, HC5, (hk.drewN n).trans hk5 (by intro a ha _; exact ha)⟩
                  case measure => simp [intOf]; omega
          · have hdx : decide ((x : Int) < (sw : Int)) = false := by simp; omega
            have HC2 : Hid (CovI W H (y + 1) 0 F0 F) := Lib.hid (HC.out.row (by omega))
            go_wp2_with fail
            go_roundw
            case rel => exact ⟨y + 1, F0, by omega, by go_num, hM, HC2, hk⟩
            case measure => simp [intOf]; omega
    · have hdy : decide ((y : Int) < (sh : Int)) = false := by simp; omega
      have hM' := hM.cov HC.out (by omega) HPX.out.out
      go_wp2_with fail
      go_end0
      exact ⟨rfl, hM', hk⟩
end
end Go.Proofs.YtcekbhhpcmhicaaGreatDoor
namespace Go.Proofs.YtcekbhhpcmhicaaGreatDoor
open Go.RowKit Go.QW Go.QGF Go.QH Go.QH2
theorem Grays.two {F : Nat → Nat → Bool} {W H M N : Nat} {phi : Nat → Nat} (h : Grays F W H 0 M phi) (hN : N = H * W) (hW : 1 ≤ W) {i : Nat} (hi : i < N) : phi i = 0 ∨ phi i = M := by
  have hm := Nat.mod_lt i (show 0 < W by omega)
  have hd : i / W < H := Nat.div_lt_of_lt_mul (by rw [Nat.mul_comm, ← hN]; exact hi)
  have := h.px (i / W) (i % W) hd hm
  rw [Nat.mul_comm, Nat.div_add_mod] at this
  rw [this]
  cases F (i / W) (i % W)
  · exact .inr rfl
  · exact .inl rfl
section
variable {w : World}
set_option maxHeartbeats 8000000 in
set_option maxRecDepth 100000 in
theorem hgbm_any {Y P g W H N c M : Nat} {XV : Value} {phi : Nat → Nat} {F : Nat → Nat → Bool} (hY : Blk w Y 236 #[XV, .pointer none]) {X lb ll lc bb : Nat} {B : List Nat} (hXV : XV = .pointer (some ⟨X, 0, none⟩)) (hG : Gh w X P lb ll lc bb B) (hL : Lum w P g W H N c phi) (hW : 40 ≤ W) (hH : 40 ≤ H) (hp : Grays F W H 0 M phi) :
    Calls Tryz.prog 335 #[.pointer (some ⟨Y, 0, none⟩)] w fun e w' => ∃ A g', e = .returned (.tuple #[.pointer (some ⟨A, 0, none⟩), .nilIface]) ∧ BX w' A g' W H F ∧ w.heap.size ≤ A ∧ w.heap.size ≤ g' ∧ Kp [Y] w w' := by
  subst hXV
  have hw1 := hL.w1
  have hh1 := hL.h1
  have hmw : ∀ w, (method 546 298 (.pointer (some ⟨P, 0, none⟩)) "GetWidth").run Tryz.prog w = .ok (348, .pointer (some ⟨P, 0, none⟩)) w := fun _ => by kernel_rfl
  have hmh : ∀ w, (method 546 298 (.pointer (some ⟨P, 0, none⟩)) "GetHeight").run Tryz.prog w = .ok (345, .pointer (some ⟨P, 0, none⟩)) w := fun _ => by kernel_rfl
  have hmm : ∀ w, (method 546 298 (.pointer (some ⟨P, 0, none⟩)) "GetMatrix").run Tryz.prog w = .ok (346, .pointer (some ⟨P, 0, none⟩)) w := fun _ => by kernel_rfl
  have a0 := hY.cell 0
  have a1 := hY.cell 1
  simp only [List.getElem?_toArray, List.getElem?_cons_zero, List.getElem?_cons_succ] at a0 a1
  have hYl := hY.lt
  have hand : ∀ n : Nat, n ≤ 1000 → bits .and .i64 (n : Int) 7 = ((n % 8 : Nat) : Int) := fun n hn => by
    have := i64_and n 7 (by omega) (by omega)
    rw [show n &&& 7 = n % 8 from Nat.and_two_pow_sub_one_eq_mod (n := 3) n] at this
    exact this
  have hand1 := hand W hw1.2
  have hand2 := hand H hh1.2
  clear hand
  go_enter Tryz.func335, Tryz.ntmps335
  go_wp2_with fail
  refine (ghsrc_any hG).mono ?_
  rintro e w1 ⟨rfl, rfl⟩
  go_wp2_with fail
  refine (lumw_any hL).mono ?_
  rintro e w1 ⟨rfl, rfl⟩
  go_wp2_with fail
  refine (lumh_any hL).mono ?_
  rintro e w1 ⟨rfl, rfl⟩
  go_wp2_with fail
  try any_goals (exfalso; omega)
  refine (lummat_any hL).mono ?_
  rintro e w1 ⟨rfl, rfl⟩
  go_upto_if 45 with fail
  go_cut [8] (fun s wx => ∃ sw : Nat, sw = (W + 7) / 8 ∧ s = .int .i64 (sw : Nat) ∧ w = wx)
  case first =>
    by_cases h8 : W % 8 = 0
    · go_wp2_with fail
      go_meet
      exact ⟨(W + 7) / 8, rfl, by congr 1; omega, rfl⟩
    · go_wp2_with fail
      go_meet
      exact ⟨(W + 7) / 8, rfl, by congr 1; omega, rfl⟩
  case rest =>
    obtain ⟨sw, hsw, rfl, rfl⟩ := hcut
    go_upto_if 52 with fail
    go_cut [9] (fun s wx => ∃ sh : Nat, sh = (H + 7) / 8 ∧ s = .int .i64 (sh : Nat) ∧ w = wx)
    case first =>
      by_cases h8 : H % 8 = 0
      · go_wp2_with fail
        go_meet
        exact ⟨(H + 7) / 8, rfl, by congr 1; omega, rfl⟩
      · go_wp2_with fail
        go_meet
        exact ⟨(H + 7) / 8, rfl, by congr 1; omega, rfl⟩
    case rest =>
      obtain ⟨sh, hsh, rfl, rfl⟩ := hcut
      have hLl := hL.blk.lt
      have hgl := hL.gry.1
      have hcb := fun w' (hg : Gry w' g N phi) => cbp_any (Y := Y) hg hL.hN hL.hc ⟨hW, hw1.2⟩ ⟨hH, hh1.2⟩ hsw hsh (fun i hi => hp.two hL.hN hw1.1 hi) hp.l1 hp.l2
      have HCB := Lib.hid hcb
      have HSW := Lib.hid (And.intro hsw hsh)
      clear hcb hsw hsh hand1 hand2
      go_wp2_with fail
      refine (HCB.out _ hL.gry).mono ?_
      rintro e w1 ⟨hb, rs, rfl, hI, hb1⟩
      have hz1 := hb1.size
      go_wp2_with fail
      refine (newbx_any W H hw1 hh1 w1).mono ?_
      rintro e w2 ⟨A, ga, rfl, hA, hA1, hA2, hb2⟩
      have hz2 := hb2.size
      have hI2 := hI.below hb2
      have hg2 := (hL.gry.below hb1 hgl).below (g := g) hb2 (by omega)
      go_wp2_with fail
      refine (cthr_any hA hI2 hg2 hL.hN ⟨hW, hw1.2⟩ ⟨hH, hh1.2⟩ HSW.out.1 HSW.out.2 (by omega) hp).mono ?_
      rintro e w3 ⟨rfl, hM, hk3⟩
      have hk03 : Kp [ga] w w3 := (Kp.of_below (hb1.trans (hb2.mono hz1))).trans hk3 (by intro q hq _; exact hq)
      have hY3 := hY.kp hk03 (by simp; omega)
      have b1 := hY3.cell 1
      have f1 := hY3.frozen 1
      simp only [List.getElem?_toArray, List.getElem?_cons_zero, List.getElem?_cons_succ] at b1
      have hAl := hM.lt
      have hM4 := hM.kp ((Kp.refl [Y] w3).setCell (p := ⟨Y, 1, none⟩) (by simp) (.pointer (some ⟨A, 0, none⟩))) (by simp; omega) (by simp; omega)
      have HM4 := Lib.hid hM4
      clear hM4 hM
      go_wp2_with fail
      have hY4 := hY3.set_ 1 (.pointer (some ⟨A, 0, none⟩))
      have c4 : (w3.setCell ⟨Y, 1, none⟩ (.pointer (some ⟨A, 0, none⟩))).cell? ⟨Y, 1, none⟩ = some (.pointer (some ⟨A, 0, none⟩)) := hY4.cell 1
      go_wp2_with fail
      go_ret2
      exact ⟨A, ga, rfl, HM4.out, by omega, by omega, (hk03.mono (T := [Y]) (by intro q hq hl; simp at hq; omega)).setCell (by simp) _⟩
end
end Go.Proofs.YtcekbhhpcmhicaaGreatDoor
namespace Go.Proofs.YtcekbhhpcmhicaaGreatDoor
open Go.RowKit Go.QW Go.QGF Go.QI Go.QM Go.QV Go.QZ Go.QH Go.QH2
section
variable {w : World}
theorem fits_any {W H N : Nat} (hN : N = H * W) (hW : 1 ≤ W ∧ W ≤ 1000) (hH : 1 ≤ H ∧ H ≤ 1000) : Calls Tryz.prog 133 #[.int .i64 W, .int .i64 H, .int .i64 N] w fun e w' => e = .returned (.bool true) ∧ w = w' := by
  have hN6 : N ≤ 1000000 := by rw [hN]; exact Nat.le_trans (Nat.mul_le_mul hH.2 hW.2) (by omega)
  have e0 : N / W = H := by rw [hN]; exact Nat.mul_div_cancel _ (by omega)
  have e1 : N % W = 0 := by rw [hN]; exact Nat.mul_mod_left _ _
  have e2 : Int.tdiv (N : Int) (W : Int) = (H : Int) := by rw [Int.tdiv_eq_ediv_of_nonneg (by omega), ← Int.natCast_ediv, e0]
  have e3 : Int.tmod (N : Int) (W : Int) = 0 := by rw [Int.tmod_eq_emod_of_nonneg (by omega), ← Int.natCast_emod, e1]; rfl
  have e4 : (N : Int) / (W : Int) = (H : Int) := by rw [← Int.natCast_ediv, e0]
  have e5 : (N : Int) % (W : Int) = 0 := by rw [← Int.natCast_emod, e1]; rfl
  have d1 : decide ((0 : Int) < (W : Int)) = true := by simp; omega
  have d2 : decide ((0 : Int) < (H : Int)) = true := by simp; omega
  clear hN e0 e1
  go_enter Tryz.func133, Tryz.ntmps133
  go_wp2_with fail
  go_ret
  exact ⟨rfl, rfl⟩
  all_goals (exfalso; omega)
theorem newyuv_any {g W H N c : Nat} {phi : Nat → Nat} (hg : Gry w g N phi) (hN : N = H * W) (hc : N ≤ c) (hW : 1 ≤ W ∧ W ≤ 1000) (hH : 1 ≤ H ∧ H ≤ 1000) :
    Calls Tryz.prog 134 #[.slice (some ⟨g, 0, none⟩) N c, .int .i64 W, .int .i64 H, .int .i64 0, .int .i64 0, .int .i64 W, .int .i64 H, .bool false] w fun e w' => ∃ P, e = .returned (.tuple #[.iface 298 (.pointer (some ⟨P, 0, none⟩)), .nilIface]) ∧ Lum w' P g W H N c phi ∧ w.heap.size ≤ P ∧ Below w.heap.size w w' := by
  have HN := Lib.hid hN
  clear hN
  go_enter Tryz.func134, Tryz.ntmps134
  go_wp2_with fail
  go_ret2
  have hb : Below w.heap.size w (w.alloc (.cells #[.int .i64 W, .int .i64 H, .slice (some ⟨g, 0, none⟩) N c, .int .i64 W, .int .i64 H, .int .i64 0, .int .i64 0] 302)) := (Below.refl _ _).alloc (Nat.le_refl _) _
  exact ⟨w.heap.size, rfl, ⟨Blk.new _ _ _, hg.below hb hg.1, HN.out, hW, hH, hc⟩, Nat.le_refl _, hb⟩
set_option maxHeartbeats 4000000 in
set_option maxRecDepth 100000 in
theorem source_any {g W H N c : Nat} {phi : Nat → Nat} (hg : Gry w g N phi) (hN : N = H * W) (hW : 1 ≤ W ∧ W ≤ 1000) (hH : 1 ≤ H ∧ H ≤ 1000) :
    Calls Tryz.prog 91 #[.int .i64 W, .int .i64 H, .slice (some ⟨g, 0, none⟩) N c, .bool false] w fun e w' => ∃ P g' c', e = .returned (.tuple #[.iface 298 (.pointer (some ⟨P, 0, none⟩)), .bool true]) ∧ Lum w' P g' W H N c' phi ∧ w.heap.size ≤ P ∧ w.heap.size ≤ g' ∧ Below w.heap.size w w' := by
  have hN6 : N ≤ 1000000 := by rw [hN]; exact Nat.le_trans (Nat.mul_le_mul hH.2 hW.2) (by omega)
  have hcell : ∀ j u, (((tab N phi).map U8)[j]? = some u) → w.cell? ((⟨g, 0, none⟩ : Addr).add j) = some u := fun j u hu => by
    rw [List.getElem?_map] at hu
    have hj : j < N := by
      rcases Nat.lt_or_ge j N with h | h
      · exact h
      · rw [List.getElem?_eq_none (by rw [tab_length]; exact h)] at hu; cases hu
    rw [List.getElem?_eq_getElem (by rw [tab_length]; exact hj)] at hu
    injection hu with hu
    rw [addr_add, Nat.zero_add, hg.2 j hj, ← hu, ← nth_get (by rw [tab_length]; exact hj), nth_tab hj]
    rfl
  have HC := Lib.hid hcell
  have HN := Lib.hid hN
  have hgl := hg.1
  clear hcell hN
  go_enter Tryz.func91, Tryz.ntmps91
  go_wp2_with fail
  refine (fits_any HN.out hW hH).mono ?_
  rintro e w1 ⟨rfl, rfl⟩
  go_wp2_with (first | (at_builtin; go_loud (refine wpList_appendN (.const (.slice none 0 0)) (.tmp 19) (t := 30) Tryz.underlying30 (e := 5) (z := .int .u8 0) (b := 1) (by kernel_rfl) rfl rfl rfl (by decide) (v := .slice none 0 0) (n := 0) (xs := []) rfl (own_nil _) (ad := ⟨g, 0, none⟩) (m := N) (c := c) (us := (tab N phi).map U8) rfl (by rw [List.length_map, tab_length]) HC.out (one_cells _) (by omega) ?_; intro v7 w7 hown7 hk7 hv7; have hk7b := kp_nil_below hk7; obtain ⟨a7, l7, c7, rfl⟩ := own_slice hown7; clear hk7)))
  have hN1 : 1 ≤ N := by rw [HN.out]; exact Nat.mul_pos (by omega) (by omega)
  rw [Nat.zero_add, List.nil_append] at hown7
  obtain ⟨g2, cap, hv, hlt, hcap, -, hcc, -, -⟩ := ownsRow_form hown7 hN1
  injection hv with e1 e2 e3
  subst e1 e2 e3
  have hg2 : g2 = w.heap.size := by
    rcases hv7 with h | h
    · simp [Value.ownBlock] at h
    · simpa [Value.ownBlock] using h
  have hgry7 : Gry w7 g2 l7 phi := ⟨hlt, fun i hi => by
    rw [hcc i hi, List.getElem?_map, List.getElem?_eq_getElem (by rw [tab_length]; exact hi), ← nth_get (by rw [tab_length]; exact hi), nth_tab hi]
    rfl⟩
  have hz7 := hk7b.size
  clear hv7 hown7 hcc
  refine (newyuv_any hgry7 HN.out hcap hW hH).mono ?_
  rintro e w8 ⟨P, rfl, hL, hP, hb8⟩
  go_wp2_with fail
  go_quiet (fail)
  go_wp2_with fail
  go_ret2
  exact ⟨P, g2, c7, rfl, hL.drewN _, by omega, by omega, below_drewN (hk7b.trans (hb8.mono hz7)) _⟩
set_option maxHeartbeats 4000000 in
set_option maxRecDepth 100000 in
theorem newhyb_any {P : Nat} (w : World) : Calls Tryz.prog 93 #[.iface 298 (.pointer (some ⟨P, 0, none⟩))] w fun e w' => ∃ Y X lb bb, e = .returned (.iface 234 (.pointer (some ⟨Y, 0, none⟩))) ∧ Blk w' Y 236 #[.pointer (some ⟨X, 0, none⟩), .pointer none] ∧ Gh w' X P lb 0 0 bb (List.replicate 32 0) ∧ w.heap.size ≤ Y ∧ Below w.heap.size w w' := by
  have hta : ∀ (X : Nat) w, (Instr.typeAssert (.iface 231 (.pointer (some ⟨X, 0, none⟩))) 170 231 false).run Tryz.prog w = .ok (.pointer (some ⟨X, 0, none⟩)) w := fun _ _ => by kernel_rfl
  go_enter Tryz.func93, Tryz.ntmps93
  go_wp2_with fail
  refine (newgh_any w).mono ?_
  rintro e w1 ⟨X, lb, bb, rfl, hG, hX, hlb, hbb, hb1⟩
  have hz1 := hb1.size
  go_wp2_with fail
  go_ret
  exact ⟨w1.heap.size, X, lb, bb, rfl, Blk.new _ _ _, ⟨hG.blk.alloc _, hG.bkt.alloc _, hG.len⟩, by omega, hb1.alloc hz1 _⟩
def DarkB (W H : Nat) (F : Nat → Nat → Bool) (w : World) (e : Ending) (w' : World) : Prop := ∃ A ga, e = .returned (.pointer (some ⟨A, 0, none⟩)) ∧ BX w' A ga W H F ∧ Below w.heap.size w w'
set_option maxHeartbeats 4000000 in
set_option maxRecDepth 100000 in
theorem blackg_any {g W H N c dk lt : Nat} {phi : Nat → Nat} {F : Nat → Nat → Bool} (hg : Gry w g N phi) (hN : N = H * W) (hW : 20 ≤ W ∧ W ≤ 1000) (hH : 1 ≤ H ∧ H ≤ 1000) (hp : Grays F W H dk lt phi) (hlight : ∀ y, y < H → F y (W / 5) = false) :
    Calls Tryz.prog 38 #[.int .i64 W, .int .i64 H, .slice (some ⟨g, 0, none⟩) N c, .bool false] w (DarkB W H F w) := by
  have hm : ∀ (X : Nat) w, (method 546 231 (.pointer (some ⟨X, 0, none⟩)) "GetBlackMatrix").run Tryz.prog w = .ok (327, .pointer (some ⟨X, 0, none⟩)) w := fun _ _ => by kernel_rfl
  have HN := Lib.hid hN
  clear hN
  go_enter Tryz.func38, Tryz.ntmps38
  go_wp2_with fail
  refine (source_any hg HN.out ⟨by omega, hW.2⟩ hH).mono ?_
  rintro e w1 ⟨P, g', c', rfl, hL, hP, hg', hb1⟩
  have hz1 := hb1.size
  have hPl := hL.blk.lt
  have hgl := hL.gry.1
  go_wp2_with fail
  refine (newgh_any w1).mono ?_
  rintro e w2 ⟨X, lb, bb, rfl, hG, hX, hlb, hbb, hb2⟩
  have hz2 := hb2.size
  have hL2 := hL.below hb2 hPl hgl
  go_wp2_with fail
  refine (gbm_any hG hL2 hp hlight hW.1 (by omega)).mono ?_
  rintro e w3 ⟨A, ga, rfl, hM, hA, hga, hk3⟩
  go_wp2_with fail
  go_ret
  exact ⟨A, ga, rfl, hM, below_of_kp (hb1.trans (hb2.mono hz1)) hk3 (by omega) (by intro q hq; simp at hq; omega)⟩
set_option maxHeartbeats 4000000 in
set_option maxRecDepth 100000 in
theorem blackh_any {g W H N c lt : Nat} {phi : Nat → Nat} {F : Nat → Nat → Bool} (hg : Gry w g N phi) (hN : N = H * W) (hW : 40 ≤ W ∧ W ≤ 1000) (hH : 40 ≤ H ∧ H ≤ 1000) (hp : Grays F W H 0 lt phi) :
    Calls Tryz.prog 38 #[.int .i64 W, .int .i64 H, .slice (some ⟨g, 0, none⟩) N c, .bool true] w (DarkB W H F w) := by
  have hm : ∀ (X : Nat) w, (method 546 234 (.pointer (some ⟨X, 0, none⟩)) "GetBlackMatrix").run Tryz.prog w = .ok (335, .pointer (some ⟨X, 0, none⟩)) w := fun _ _ => by kernel_rfl
  have HN := Lib.hid hN
  clear hN
  go_enter Tryz.func38, Tryz.ntmps38
  go_wp2_with fail
  refine (source_any hg HN.out ⟨by omega, hW.2⟩ ⟨by omega, hH.2⟩).mono ?_
  rintro e w1 ⟨P, g', c', rfl, hL, hP, hg', hb1⟩
  have hz1 := hb1.size
  have hPl := hL.blk.lt
  have hgl := hL.gry.1
  go_wp2_with fail
  refine (newgh_any w1).mono ?_
  rintro e w2 ⟨X0, lb0, bb0, rfl, -, -, -, -, hb2⟩
  have hz2 := hb2.size
  have hL2 := hL.below hb2 hPl hgl
  have hPl2 := hL2.blk.lt
  have hgl2 := hL2.gry.1
  go_wp2_with fail
  refine (newhyb_any w2).mono ?_
  rintro e w3 ⟨Y, X, lb, bb, rfl, hY, hG, hY0, hb3⟩
  have hz3 := hb3.size
  have hL3 := hL2.below hb3 hPl2 hgl2
  go_wp2_with fail
  refine (hgbm_any hY rfl hG hL3 hW.1 hH.1 hp).mono ?_
  rintro e w4 ⟨A, ga, rfl, hM, hA, hga, hk4⟩
  go_wp2_with fail
  go_ret
  exact ⟨A, ga, rfl, hM, below_of_kp ((hb1.trans (hb2.mono hz1)).trans (hb3.mono (Nat.le_trans hz1 hz2))) hk4 (by omega) (by intro q hq; simp at hq; omega)⟩
end
end Go.Proofs.YtcekbhhpcmhicaaGreatDoor
namespace Go.Proofs.YtcekbhhpcmhicaaGreatDoor
open Go.RowKit Go.QW Go.QGF Go.QI Go.QM Go.QV Go.QZ Go.QP
theorem tab_succ (n : Nat) (f : Nat → Nat) : tab n f ++ [f n] = tab (n + 1) f := by
  unfold tab
  rw [List.range_succ, List.map_append]
  rfl
/-- the gray of pixel k -/
def gray (W D L : Nat) (F : Nat → Nat → Bool) (k : Nat) : Nat := if F (k / W) (k % W) then D else L
theorem gray_at {W D L : Nat} {F : Nat → Nat → Bool} {y x : Nat} (hx : x < W) : gray W D L F (y * W + x) = if F y x then D else L := by
  unfold gray
  rw [Nat.mul_comm y W, Nat.mul_add_div (by omega), Nat.div_eq_of_lt hx, Nat.add_zero, Nat.mul_add_mod, Nat.mod_eq_of_lt hx]
/-- k grays stand in the slice mv -/
structure GrI (w wr : World) (mv : Value) (k : Nat) (phi : Nat → Nat) : Prop where
  own : wr.ownsRow 0 5 1 mv k ((tab k phi).map U8)
  below : Below w.heap.size w wr
  vb : ∀ q, mv.ownBlock = some q → w.heap.size ≤ q
theorem GrI.push {w wr w2 : World} {v v2 : Value} {k : Nat} {phi : Nat → Nat} (h : GrI w wr v k phi) (x : Nat) (hx : x = phi k) (hown : w2.ownsRow 0 5 1 v2 (k + 1) ((tab k phi).map U8 ++ [U8 x])) (hk : Kp v.ownBlock.toList (wr.alloc (.cells #[U8 x] 5)) w2)
    (hv : v2.ownBlock = v.ownBlock ∨ v2.ownBlock = some (wr.alloc (.cells #[U8 x] 5)).heap.size) : GrI w w2 v2 (k + 1) phi := by
  have hs := h.below.size
  refine ⟨?_, ?_, ?_⟩
  · rw [← tab_succ, List.map_append, ← hx]
    exact hown
  · exact below_of_kp (h.below.alloc hs _) hk (by rw [World.size_alloc]; omega) (fun q hq => h.vb q (by simpa using hq))
  · intro q hq
    rcases hv with hv | hv
    · exact h.vb q (by rw [← hv]; exact hq)
    · rw [hv] at hq
      injection hq with hq
      rw [World.size_alloc] at hq
      omega
section
variable {w : World}
def GraysB (W H N : Nat) (phi : Nat → Nat) (w : World) (e : Ending) (w' : World) : Prop := ∃ g c, e = .returned (.tuple #[.int .i64 W, .int .i64 H, .slice (some ⟨g, 0, none⟩) N c]) ∧ Gry w' g N phi ∧ Below w.heap.size w w'
set_option maxHeartbeats 16000000 in
set_option maxRecDepth 100000 in
theorem grays_any {pb W H N D L : Nat} {F : Nat → Nat → Bool} (h : RM w pb H W F) (hN : N = H * W) (hW : 1 ≤ W ∧ W ≤ 1000) (hH : 1 ≤ H ∧ H ≤ 1000) :
    Calls Tryz.prog 36 #[.slice (some ⟨pb, 0, none⟩) H H, .int .u8 D, .int .u8 L] w (GraysB W H N (gray W D L F) w) := by
  have hNb : N ≤ 1000000 ∧ 1 ≤ N := by
    rw [hN]
    exact ⟨Nat.le_trans (Nat.mul_le_mul hH.2 hW.2) (by omega), Nat.mul_pos (by omega) (by omega)⟩
  have HN := Lib.hid hN
  have hpl := h.1
  have HRM := Lib.hid h
  clear hN h
  go_enter Tryz.func36, Tryz.ntmps36
  go_wp2_with fail
  go_loopw [9, 10, 17] (fun t9 t10 t17 wr => ∃ (i k : Nat) (v z : Value), v = t9 ∧ z = t10 ∧ i ≤ H ∧ k ≤ N ∧ t17 = .int .i64 (i : Nat) ∧ Hid (k = i * W) ∧ (1 ≤ i → z = .int .i64 W) ∧ GrI w wr v k (gray W D L F)) (fun _ _ t17 _ => H - (intOf t17).toNat)
  case atStart => exact ⟨0, 0, _, _, rfl, rfl, by omega, by omega, rfl, Lib.hid (by omega), fun h => by omega, ⟨⟨rfl, .inl ⟨rfl, rfl⟩⟩, Below.refl _ _, fun q hq => by simp [Value.ownBlock] at hq⟩⟩
  case round =>
    obtain ⟨i, k, v, z, rfl, rfl, hi, hkN, rfl, HK, hz, hG⟩ := hrel
    by_cases hlt : i < H
    · have hdi : decide ((i : Int) < (H : Int)) = true := by simp; omega
      obtain ⟨gy, cy, by'⟩ := HRM.out.2 i hlt
      have cy2 := (hG.below.cell (p := ⟨pb, i, none⟩) hpl).trans cy
      have hgy := by'.lt
      go_wp2_with fail
      clear cy2 cy hz
      obtain ⟨wo, rfl⟩ : ∃ wo : World, wo = wr := ⟨_, rfl⟩
      go_loopw [9, 25] (fun t9 t25 wr => ∃ (j k : Nat) (v : Value), v = t9 ∧ j ≤ W ∧ k ≤ N ∧ t25 = .int .i64 (j : Nat) ∧ Hid (k = i * W + j) ∧ GrI w wr v k (gray W D L F)) (fun _ t25 _ => W - (intOf t25).toNat)
      case atStart => exact ⟨0, k, _, rfl, by omega, hkN, rfl, Lib.hid (by rw [HK.out, Nat.add_zero]), hG⟩
      case round =>
        clear hG HK hkN
        obtain ⟨W0, rfl⟩ : ∃ W, W = wr := ⟨_, rfl⟩
        obtain ⟨j, k, v, rfl, hj, hkN, rfl, HK, hG⟩ := hrel
        by_cases hlt2 : j < W
        · have hdj : decide ((j : Int) < (W : Int)) = true := by simp; omega
          have hkl : k + 1 ≤ N := by
            rw [HK.out, HN.out]
            have : (i + 1) * W ≤ H * W := Nat.mul_le_mul_right _ hlt
            rw [Nat.succ_mul] at this
            omega
          have cb := (by'.below hG.below hgy).cell j
          rw [bools_get hlt2] at cb
          have hph : gray W D L F k = if F i j then D else L := by rw [HK.out]; exact gray_at hlt2
          have HK2 : Hid (k + 1 = i * W + (j + 1)) := Lib.hid (by rw [HK.out]; rfl)
          have HOWN := Lib.hid hG.own
          have HG := Lib.hid hG
          clear hG
          cases hv : F i j with
          | true =>
            rw [hv] at cb
            have HPH : Hid (D = gray W D L F k) := Lib.hid (by rw [hph, hv]; rfl)
            clear hph hv
            go_wp2_with (first
              | (at_builtin; refine wpList_append1 (.tmp 30) (.tmp 32) (t := 30) Tryz.underlying30 (e := 5) (z := .int .u8 0) (b := 1) (by kernel_rfl) rfl rfl rfl (by decide) (v := v) (n := k) (xs := (tab k (gray W D L F)).map U8) rfl (HOWN.out.alloc _) (ad := ⟨W0.heap.size, 0, none⟩) (c := 1) (u := U8 D) rfl ((Blk.new W0 _ _).cell 0) rfl (by omega) ?_; intro v1 W1 hown1 hk1 hv1))
            have hst := HG.out.push D HPH.out hown1 hk1 hv1
            clear hown1 hk1 hv1
            go_roundw
            case rel => exact ⟨j + 1, k + 1, v1, rfl, by omega, by omega, by go_num, HK2, hst⟩
            case measure => simp [intOf]; omega
          | false =>
            rw [hv] at cb
            have HPH : Hid (L = gray W D L F k) := Lib.hid (by rw [hph, hv]; rfl)
            clear hph hv
            go_wp2_with (first
              | (at_builtin; refine wpList_append1 (.tmp 34) (.tmp 36) (t := 30) Tryz.underlying30 (e := 5) (z := .int .u8 0) (b := 1) (by kernel_rfl) rfl rfl rfl (by decide) (v := v) (n := k) (xs := (tab k (gray W D L F)).map U8) rfl (HOWN.out.alloc _) (ad := ⟨W0.heap.size, 0, none⟩) (c := 1) (u := U8 L) rfl ((Blk.new W0 _ _).cell 0) rfl (by omega) ?_; intro v1 W1 hown1 hk1 hv1))
            have hst := HG.out.push L HPH.out hown1 hk1 hv1
            clear hown1 hk1 hv1
            go_roundw
            case rel => exact ⟨j + 1, k + 1, v1, rfl, by omega, by omega, by go_num, HK2, hst⟩
            case measure => simp [intOf]; omega
        · have hdj : decide ((j : Int) < (W : Int)) = false := by simp; omega
          have HK2 : Hid (k = (i + 1) * W) := Lib.hid (by rw [HK.out, Nat.succ_mul]; omega)
          go_wp2_with fail
          go_roundw
          case rel => exact ⟨i + 1, k, v, _, rfl, rfl, by omega, hkN, by go_num, HK2, fun _ => rfl, hG⟩
          case measure => simp [intOf]; omega
    · have hdi : decide ((i : Int) < (H : Int)) = false := by simp; omega
      obtain rfl : i = H := by omega
      have hze := hz (by omega)
      subst hze
      have hkN' : k = N := by rw [HK.out, HN.out]
      subst hkN'
      obtain ⟨g2, cap, rfl, hlt2, hcap, -, hcc, -, -⟩ := ownsRow_form hG.own hNb.2
      have hgry : Gry wr g2 k (gray W D L F) := ⟨hlt2, fun j hj => by
        rw [hcc j hj, List.getElem?_map, List.getElem?_eq_getElem (by rw [tab_length]; exact hj), ← nth_get (by rw [tab_length]; exact hj), nth_tab hj]
        rfl⟩
      have hbl := hG.below
      clear hG hcc
      go_wp2_with fail
      exact bodyPost_ret (v := .tuple #[.int .i64 W, .int .i64 i, .slice (some ⟨g2, 0, none⟩) k cap]) (by simp [results, Tryz.results36, go_sem]) rfl ⟨g2, cap, rfl, hgry, hbl⟩
def ToldB (W H L D : Nat) (pt : Bool) (w : World) (e : Ending) (w' : World) : Prop := ∃ b : Bool, e = .returned (.bool b) ∧ w = w' ∧ (b = true → (pt = false ∧ W < 5 * L) ∨ (pt = true ∧ 40 ≤ W ∧ 40 ≤ H ∧ D = 0))
theorem told_no {W H L D : Nat} {pt : Bool} (w : World) : ToldB W H L D pt w (.returned (.bool false)) w := ⟨false, rfl, rfl, fun h => by cases h⟩
theorem told_yes {W H L D : Nat} {pt : Bool} (h : (pt = false ∧ W < 5 * L) ∨ (pt = true ∧ 40 ≤ W ∧ 40 ≤ H ∧ D = 0)) (w : World) : ToldB W H L D pt w (.returned (.bool true)) w := ⟨true, rfl, rfl, fun _ => h⟩
set_option maxHeartbeats 16000000 in
set_option maxRecDepth 100000 in
theorem told_any {pb W H D L T : Nat} {pt : Bool} {F : Nat → Nat → Bool} (h : RM w pb H W F) (hW : 1 ≤ W ∧ W ≤ 1000) (hH : 1 ≤ H ∧ H ≤ 1000) (hF : ∀ y x, F y x = true → L ≤ x) (hT : T < H) (hL : L < W) (hTL : F T L = true) :
    Calls Tryz.prog 37 #[.slice (some ⟨pb, 0, none⟩) H H, .int .u8 D, .bool pt] w (ToldB W H L D pt w) := by
  obtain ⟨g0, c0, b0⟩ := h.2 0 (by omega)
  have hH0 : ((H : Int) == 0) = false := by rw [beq_eq_false_iff_ne]; omega
  have HRM := Lib.hid h
  have HF := Lib.hid (And.intro hF hTL)
  clear h hF hTL b0
  go_enter Tryz.func37, Tryz.ntmps37
  go_wp2_with fail
  clear c0
  go_loop [9, 25] (fun t9 t25 => ∃ i b : Nat, i ≤ H ∧ L ≤ b ∧ b ≤ W ∧ t9 = .int .i64 (b : Nat) ∧ t25 = .int .i64 (i : Nat) ∧ (T < i → b = L)) (fun _ t25 => H - (intOf t25).toNat)
  case atStart => exact ⟨0, W, by omega, by omega, by omega, rfl, rfl, fun h => by omega⟩
  case round =>
    obtain ⟨i, b, hi, hb1, hb2, rfl, rfl, hT2⟩ := hrel
    by_cases hlt : i < H
    · have hdi : decide ((i : Int) < (H : Int)) = true := by simp; omega
      obtain ⟨gy, cy, by'⟩ := HRM.out.2 i hlt
      go_wp2_with fail
      clear cy
      go_loop [9, 31] (fun t9 t31 => ∃ j b : Nat, j ≤ W ∧ L ≤ b ∧ b ≤ W ∧ t9 = .int .i64 (b : Nat) ∧ t31 = .int .i64 (j : Nat) ∧ (T < i ∨ (i = T ∧ L < j) → b = L)) (fun _ t31 => W - (intOf t31).toNat)
      case atStart => exact ⟨0, b, by omega, hb1, hb2, rfl, rfl, fun h => by omega⟩
      case round =>
        clear hT2 hb1 hb2
        obtain ⟨j, b, hj, hb1, hb2, rfl, rfl, hT3⟩ := hrel
        by_cases hlt2 : j < W
        · have hdj : decide ((j : Int) < (W : Int)) = true := by simp; omega
          have cb := by'.cell j
          rw [bools_get hlt2] at cb
          have hpx := HF.out.1 i j
          have hpt : i = T → j = L → F i j = true := fun e1 e2 => by rw [e1, e2]; exact HF.out.2
          cases hv : F i j with
          | true =>
            rw [hv] at cb
            have hLj := hpx hv
            clear hpx hpt hv
            by_cases hjb : j < b
            · have hdb : decide ((j : Int) < (b : Int)) = true := by simp; omega
              go_wp2_with fail
              go_round
              case rel => exact ⟨j + 1, j, by omega, hLj, by omega, rfl, by go_num, fun h => by omega⟩
              case measure => simp [intOf]; omega
            · have hdb : decide ((j : Int) < (b : Int)) = false := by simp; omega
              go_wp2_with fail
              go_round
              case rel => exact ⟨j + 1, b, by omega, hb1, hb2, rfl, by go_num, fun h => by omega⟩
              case measure => simp [intOf]; omega
          | false =>
            rw [hv] at cb
            have hnot : ¬ (i = T ∧ j = L) := fun e => by rw [hpt e.1 e.2] at hv; cases hv
            clear hpx hpt hv
            go_wp2_with fail
            go_round
            case rel => exact ⟨j + 1, b, by omega, hb1, hb2, rfl, by go_num, fun h => by omega⟩
            case measure => simp [intOf]; omega
        · have hdj : decide ((j : Int) < (W : Int)) = false := by simp; omega
          go_wp2_with fail
          go_round
          case rel => exact ⟨i + 1, b, by omega, hb1, hb2, rfl, by go_num, fun h => by omega⟩
          case measure => simp [intOf]; omega
    · have hdi : decide ((i : Int) < (H : Int)) = false := by simp; omega
      obtain rfl : b = L := hT2 (by omega)
      clear hT2
      cases pt with
      | false =>
        by_cases h5 : W < 5 * b
        · go_wp2_with fail
          try any_goals (exfalso; omega)
          go_ret
          exact told_yes (.inl ⟨rfl, h5⟩) _
        · go_wp2_with fail
          try any_goals (exfalso; omega)
          go_ret
          exact told_no _
      | true =>
        by_cases h4 : 40 ≤ W
        · by_cases h4' : 40 ≤ H
          · by_cases hD0 : D = 0
            · subst hD0
              go_wp2_with fail
              try any_goals (exfalso; omega)
              go_ret
              exact told_yes (.inr ⟨rfl, h4, h4', rfl⟩) _
            · have hdd : ((D : Int) == 0) = false := by rw [beq_eq_false_iff_ne]; omega
              go_wp2_with fail
              try any_goals (exfalso; omega)
              go_ret
              exact told_no _
          · go_wp2_with fail
            try any_goals (exfalso; omega)
            go_ret
            exact told_no _
        · go_wp2_with fail
          try any_goals (exfalso; omega)
          go_ret
          exact told_no _
end
end Go.Proofs.YtcekbhhpcmhicaaGreatDoor
