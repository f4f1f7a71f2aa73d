/- impl.QRPure: from the grays of a picture to the text; spec.RQShow, rqEven; The law FnRQSelf: it answers true. -/
import Derived.Test.YtcekbhhpcmhicaaGreatDoorM34
import Derived.Test.YtcekbhhpcmhicaaGreatDoorM37
import Derived.Test.YtcekbhhpcmhicaaGreatDoorM39
import Derived.Test.YtcekbhhpcmhicaaGreatDoorM43
namespace Go.Proofs.YtcekbhhpcmhicaaGreatDoor
open Go.RowKit Go.QW Go.QGF Go.QI Go.QM Go.QV Go.QZ Go.QP Go.QH
section
variable {w : World}
theorem taken_any {A g n : Nat} {f : Nat → Nat → Bool} (h : BM w A g n f) (h1 : 1 ≤ n) (h2 : n ≤ 200) :
    Calls Tryz.prog 39 #[.pointer (some ⟨A, 0, none⟩), .nilIface] w fun e w' => ∃ hb, e = .returned (.tuple #[.slice (some ⟨hb, 0, none⟩) n n, .bool true]) ∧ BoolMap w' hb n f ∧ Below w.heap.size w w' := by
  go_enter Tryz.func39, Tryz.ntmps39
  go_wp2_with fail
  refine (rowsof_any h h1 h2).mono ?_
  rintro e w1 ⟨hb, rfl, hB, hb1⟩
  go_wp2_with fail
  go_ret2
  exact ⟨hb, rfl, hB, hb1⟩
theorem epb_any {A g s L T n S W H : Nat} {f : Nat → Nat → Bool} (h : BX w A g W H (pic s L T n f)) (hf : Fr s L T n S W H f) :
    Calls Tryz.prog 40 #[.pointer (some ⟨A, 0, none⟩)] w (TakeB n f w) := by
  have hl := h.lt
  go_enter Tryz.func40, Tryz.ntmps40
  go_wp2_with fail
  have hb0 : Below w.heap.size w (w.alloc (.cells #[.pointer none] 176)) := (Below.refl _ _).alloc (Nat.le_refl _) _
  refine (extract_any (h.below hb0 hl.1 hl.2) hf).mono ?_
  rintro e w1 ⟨A1, g1, rfl, hM, hb1⟩
  go_wp2_with fail
  go_ret2
  exact ⟨A1, g1, rfl, hM, below_of_alloc hb1⟩
def PureB (s : ByteArray) (w : World) (e : Ending) (w' : World) : Prop := ∃ (a1 a2 : Option Addr) (l1 c1 l2 c2 : Nat) (t : ByteArray) (x y z u : Int), e = .returned (.tuple #[.agg #[.string s, .slice a1 l1 c1, .slice a2 l2 c2, .string t, .int .i64 x, .int .i64 y, .int .i64 z, .int .i64 u], .bool true]) ∧ Below w.heap.size w w'
set_option maxHeartbeats 8000000 in
set_option maxRecDepth 100000 in
theorem pure_any {g N c s L T S W H v l k m Nd : Nat} {pt : Bool} {phi : Nat → Nat} {tx : ByteArray} {cw : List Nat} {es : Nat → List Nat} {f : Nat → Nat → Bool} (hg : Gry w g N phi) (hf : Fr s L T (17 + 4 * v) S W H f) (hB : Bears v l k m Nd tx cw es f)
    (hbl : ∀ w', Gry w' g N phi → Calls Tryz.prog 38 #[.int .i64 W, .int .i64 H, .slice (some ⟨g, 0, none⟩) N c, .bool pt] w' (DarkB W H (pic s L T (17 + 4 * v) f) w')) :
    Calls Tryz.prog 13 #[.int .i64 W, .int .i64 H, .slice (some ⟨g, 0, none⟩) N c, .bool pt] w (PureB tx w) := by
  have hd := fun (w' : World) (hb : Nat) (h : BoolMap w' hb (17 + 4 * v) f) => qrdecode_any (c := 17 + 4 * v) h hB
  obtain ⟨n, hn⟩ : ∃ n, n = 17 + 4 * v := ⟨_, rfl⟩
  rw [← hn] at hf hbl hd
  have hn1 : 1 ≤ n ∧ n ≤ 200 := by have := hf.big; omega
  have HD := Lib.hid hd
  have HB := Lib.hid hbl
  have HF := Lib.hid hf
  clear hd hbl hf hn hB
  go_enter Tryz.func13, Tryz.ntmps13
  go_wp2_with fail
  have hD1 := Blk.new w 33 #[.string ⟨#[]⟩, .slice none 0 0, .slice none 0 0, .string ⟨#[]⟩, .int .i64 0, .int .i64 0, .int .i64 0, .int .i64 0]
  have hb1 : Below w.heap.size w (w.alloc (.cells #[.string ⟨#[]⟩, .slice none 0 0, .slice none 0 0, .string ⟨#[]⟩, .int .i64 0, .int .i64 0, .int .i64 0, .int .i64 0] 33)) := (Below.refl _ _).alloc (Nat.le_refl _) _
  have hg1 := hg.below hb1 hg.1
  obtain ⟨w1, hw1⟩ : ∃ w1, w1 = w.alloc (.cells #[.string ⟨#[]⟩, .slice none 0 0, .slice none 0 0, .string ⟨#[]⟩, .int .i64 0, .int .i64 0, .int .i64 0, .int .i64 0] 33) := ⟨_, rfl⟩
  rw [← hw1] at hD1 hb1 hg1 ⊢
  clear hw1
  obtain ⟨Dd, hDd⟩ : ∃ Dd, Dd = w.heap.size := ⟨_, rfl⟩
  rw [← hDd] at hD1 hb1 ⊢
  have HDd := Lib.hid hDd
  clear hDd
  have hDl := hD1.lt
  have hz1 := hb1.size
  refine (HB.out w1 hg1).mono ?_
  rintro e w2 ⟨A, ga, rfl, hM, hb2⟩
  have hz2 := hb2.size
  go_wp2_with fail
  refine (epb_any hM HF.out).mono ?_
  rintro e w3 ⟨A3, g3, rfl, hM3, hb3⟩
  have hz3 := hb3.size
  go_wp2_with fail
  refine (taken_any hM3 hn1.1 hn1.2).mono ?_
  rintro e w4 ⟨hb, rfl, hBM, hb4⟩
  have hz4 := hb4.size
  go_wp2_with fail
  refine (HD.out w4 hb hBM).mono ?_
  rintro e w5 ⟨a1, a2, l1, c1, l2, c2, x, y, z, u, rfl, hb5⟩
  have hb15 : Below w1.heap.size w1 w5 := ((hb2.trans (hb3.mono hz2)).trans (hb4.mono (Nat.le_trans hz2 hz3))).trans (hb5.mono (Nat.le_trans hz2 (Nat.le_trans hz3 hz4)))
  have hD5 := hD1.below hb15 hDl
  have hb05 : Below Dd w w5 := hb1.trans (hb15.mono (by omega))
  have q0 := hD5.cell 0
  have q1 := hD5.cell 1
  have q2 := hD5.cell 2
  have q3 := hD5.cell 3
  have q4 := hD5.cell 4
  have q5 := hD5.cell 5
  have q6 := hD5.cell 6
  have q7 := hD5.cell 7
  have f0 := hD5.frozen 0
  have f1 := hD5.frozen 1
  have f2 := hD5.frozen 2
  have f3 := hD5.frozen 3
  have f4 := hD5.frozen 4
  have f5 := hD5.frozen 5
  have f6 := hD5.frozen 6
  have f7 := hD5.frozen 7
  simp only [List.getElem?_toArray, List.getElem?_cons_zero, List.getElem?_cons_succ] at q0 q1 q2 q3 q4 q5 q6 q7
  have hDf := store8 (b0 := .string tx) (b1 := .slice a1 l1 c1) (b2 := .slice a2 l2 c2) (b3 := .string (lvName l)) (b4 := .int .i64 x) (b5 := .int .i64 y) (b6 := .int .i64 z) (b7 := .int .i64 u) hD5
  have hbf := below8 (b0 := .string tx) (b1 := .slice a1 l1 c1) (b2 := .slice a2 l2 c2) (b3 := .string (lvName l)) (b4 := .int .i64 x) (b5 := .int .i64 y) (b6 := .int .i64 z) (b7 := .int .i64 u) hb05
  have HX := Lib.hid (And.intro hDf hbf)
  clear hDf hbf hD5 hb05 hb15 hBM hM hM3 hb2 hb3 hb4 hb5
  go_wp2_with fail
  obtain ⟨hDf, hbf⟩ := HX.out
  obtain ⟨w8, hw8⟩ : ∃ w8, w8 = (((((((w5.setCell ⟨Dd, 0, none⟩ (.string tx)).setCell ⟨Dd, 1, none⟩ (.slice a1 l1 c1)).setCell ⟨Dd, 2, none⟩ (.slice a2 l2 c2)).setCell ⟨Dd, 3, none⟩ (.string (lvName l))).setCell ⟨Dd, 4, none⟩ (.int .i64 x)).setCell ⟨Dd, 5, none⟩ (.int .i64 y)).setCell ⟨Dd, 6, none⟩ (.int .i64 z)).setCell ⟨Dd, 7, none⟩ (.int .i64 u) := ⟨_, rfl⟩
  rw [← hw8] at hDf hbf ⊢
  clear hw8 q0 q1 q2 q3 q4 q5 q6 q7 HX
  have e0 : w8.cell? ⟨Dd, 0, none⟩ = some (.string tx) := hDf.cell 0
  have e1 : w8.cell? ⟨Dd, 1, none⟩ = some (.slice a1 l1 c1) := hDf.cell 1
  have e2 : w8.cell? ⟨Dd, 2, none⟩ = some (.slice a2 l2 c2) := hDf.cell 2
  have e3 : w8.cell? ⟨Dd, 3, none⟩ = some (.string (lvName l)) := hDf.cell 3
  have e4 : w8.cell? ⟨Dd, 4, none⟩ = some (.int .i64 x) := hDf.cell 4
  have e5 : w8.cell? ⟨Dd, 5, none⟩ = some (.int .i64 y) := hDf.cell 5
  have e6 : w8.cell? ⟨Dd, 6, none⟩ = some (.int .i64 z) := hDf.cell 6
  have e7 : w8.cell? ⟨Dd, 7, none⟩ = some (.int .i64 u) := hDf.cell 7
  exact bodyPost_ret (v := .tuple #[.agg #[.string tx, .slice a1 l1 c1, .slice a2 l2 c2, .string (lvName l), .int .i64 x, .int .i64 y, .int .i64 z, .int .i64 u], .bool true]) (by simp [results, Tryz.results13, go_sem, e0, e1, e2, e3, e4, e5, e6, e7]) rfl ⟨_, _, _, _, _, _, _, _, _, _, _, rfl, by rw [← HDd.out]; exact hbf⟩
end
end Go.Proofs.YtcekbhhpcmhicaaGreatDoor
namespace Go.Proofs.YtcekbhhpcmhicaaGreatDoor
open Go.RowKit Go.QW Go.QGF Go.QI Go.QM Go.QV Go.QZ Go.QP Go.QH
section
variable {w : World}
set_option maxHeartbeats 4000000 in
set_option maxRecDepth 100000 in
theorem even_any {hb n c : Nat} {f : Nat → Nat → Bool} (h : BoolMap w hb n f) (hn : 21 ≤ n ∧ n ≤ 125) :
    Calls Tryz.prog 11 #[.slice (some ⟨hb, 0, none⟩) n c, .int .i64 21, .int .i64 177] w fun e w' => e = .returned (.bool true) ∧ w = w' := by
  obtain ⟨g0, c0, -⟩ := h.2 0 (by omega)
  have d1 : decide ((n : Int) < 21) = false := by simp; omega
  have d2 : decide ((177 : Int) < (n : Int)) = false := by simp; omega
  have HM := Lib.hid h
  clear h
  go_enter Tryz.func11, Tryz.ntmps11
  go_wp2_with fail
  try any_goals (exfalso; omega)
  go_loop [22] (fun t22 => ∃ i : Nat, i ≤ n ∧ t22 = .int .i64 (i : Nat)) (fun t22 => n - (intOf t22).toNat)
  case atStart => exact ⟨0, by omega, rfl⟩
  case round =>
    obtain ⟨i, hi, rfl⟩ := hrel
    by_cases hlt : i < n
    · have hdi : decide ((i : Int) < (n : Int)) = true := by simp; omega
      obtain ⟨gy, cy, -⟩ := HM.out.2 i hlt
      go_wp2_with fail
      try any_goals (exfalso; omega)
      go_round
      case rel => exact ⟨i + 1, by omega, by go_num⟩
      case measure => simp [intOf]; omega
    · have hdi : decide ((i : Int) < (n : Int)) = false := by simp; omega
      go_wp2_with fail
      go_ret
      exact ⟨rfl, rfl⟩
/-- what is shown: W times H grays of the picture, and whether it can be told -/
structure Shown (n : Nat) (f : Nat → Nat → Bool) (pt : Bool) (w' : World) (s L T S W H N g Dk Lt : Nat) (b : Bool) : Prop where
  gry : Gry w' g N (gray W Dk Lt (pic s L T n f))
  hN : N = H * W
  fr : Fr s L T n S W H f
  l1 : 128 ≤ Lt
  l2 : Lt ≤ 255
  d3 : 3 * Dk ≤ Lt
  told : b = true → (pt = false ∧ W < 5 * L) ∨ (pt = true ∧ 40 ≤ W ∧ 40 ≤ H ∧ Dk = 0)
def ShowB (n : Nat) (f : Nat → Nat → Bool) (pt : Bool) (w : World) (e : Ending) (w' : World) : Prop := ∃ (s L T S W H N g c Dk Lt : Nat) (b : Bool), e = .returned (.tuple #[.int .i64 W, .int .i64 H, .slice (some ⟨g, 0, none⟩) N c, .bool b]) ∧ Shown n f pt w' s L T S W H N g Dk Lt b ∧ Below w.heap.size w w'
set_option maxHeartbeats 8000000 in
set_option maxRecDepth 100000 in
theorem show_any {hm n c : Nat} {f : Nat → Nat → Bool} (h : BoolMap w hm n f) (hc : Corn n f) (sc b0 b1 b2 b3 dk lt : Nat) (pt : Bool) (hs : sc < 256) (h0 : b0 < 256) (h1 : b1 < 256) (h2 : b2 < 256) (h3 : b3 < 256) (hd : dk < 256) (hl : lt < 256) :
    Calls Tryz.prog 12 #[.slice (some ⟨hm, 0, none⟩) n c, .agg #[.int .u8 sc, .int .u8 b0, .int .u8 b1, .int .u8 b2, .int .u8 b3, .int .u8 dk, .int .u8 lt, .bool pt]] w (ShowB n f pt w) := by
  have hn1 := hc.n1
  have hn2 := hc.n2
  have hfm := fun w => frame_any (w := w) sc b0 b1 b2 b3 dk lt pt hs h0 h1 h2 h3
  have htn := fun w => tones_any (w := w) sc b0 b1 b2 b3 dk lt pt hd hl
  obtain ⟨s, hse⟩ : ∃ s, s = 1 + sc % 6 := ⟨_, rfl⟩
  obtain ⟨L, hLe⟩ : ∃ L, L = 1 + b0 % 100 := ⟨_, rfl⟩
  obtain ⟨T, hTe⟩ : ∃ T, T = 1 + b1 % 100 := ⟨_, rfl⟩
  obtain ⟨R, hRe⟩ : ∃ R, R = 1 + b2 % 100 := ⟨_, rfl⟩
  obtain ⟨B, hBe⟩ : ∃ B, B = 1 + b3 % 100 := ⟨_, rfl⟩
  rw [← hse, ← hLe, ← hTe, ← hRe, ← hBe] at hfm
  have hsb : 1 ≤ s ∧ s ≤ 6 ∧ 1 ≤ L ∧ L ≤ 100 ∧ 1 ≤ T ∧ T ≤ 100 ∧ 1 ≤ R ∧ R ≤ 100 ∧ 1 ≤ B ∧ B ≤ 100 := by omega
  have HFM := Lib.hid hfm
  have HTN := Lib.hid htn
  have HC := Lib.hid hc
  clear hse hLe hTe hRe hBe hfm htn hc
  go_enter Tryz.func12, Tryz.ntmps12
  go_wp2_with fail
  have hV := Blk.new w 40 #[.int .u8 sc, .int .u8 b0, .int .u8 b1, .int .u8 b2, .int .u8 b3, .int .u8 dk, .int .u8 lt, .bool pt]
  have hb1 : Below w.heap.size w (w.alloc (.cells #[.int .u8 sc, .int .u8 b0, .int .u8 b1, .int .u8 b2, .int .u8 b3, .int .u8 dk, .int .u8 lt, .bool pt] 40)) := (Below.refl _ _).alloc (Nat.le_refl _) _
  obtain ⟨w1, hw1⟩ : ∃ w1, w1 = w.alloc (.cells #[.int .u8 sc, .int .u8 b0, .int .u8 b1, .int .u8 b2, .int .u8 b3, .int .u8 dk, .int .u8 lt, .bool pt] 40) := ⟨_, rfl⟩
  rw [← hw1] at hV hb1 ⊢
  clear hw1
  obtain ⟨vb, hvb⟩ : ∃ vb, vb = w.heap.size := ⟨_, rfl⟩
  rw [← hvb] at hV hb1 ⊢
  have HVB := Lib.hid hvb
  clear hvb
  have hz1 := hb1.size
  have hvl := hV.lt
  have hm1 := h.below (w' := w1) (by rw [← HVB.out]; exact hb1)
  clear h
  refine (HFM.out w1).mono ?_
  rintro e w2 ⟨rfl, hb2⟩
  have hz2 := hb2.size
  have hm2 := hm1.below hb2
  go_wp2_with fail
  obtain ⟨S, hS⟩ : ∃ S, S = s * n := ⟨_, rfl⟩
  have hS7 : S ≤ 750 ∧ 21 ≤ S := by
    have h1 := Nat.mul_le_mul hsb.2.1 hn2
    have h2 := Nat.mul_le_mul hsb.1 hn1
    rw [← hS] at h1 h2
    omega
  refine (picture_any hm2 hsb.1 hsb.2.1 hS ⟨hn1, hn2⟩ (by omega) (by omega) (by omega) (by omega)).mono ?_
  rintro e w3 ⟨pb, rfl, hRM, hb3⟩
  have hz3 := hb3.size
  obtain ⟨W, hW⟩ : ∃ W, W = L + S + R := ⟨_, rfl⟩
  obtain ⟨H, hH⟩ : ∃ H, H = T + S + B := ⟨_, rfl⟩
  rw [← hW, ← hH] at hRM
  rw [← hH]
  have hWb : L + S < W ∧ W ≤ 1000 ∧ T + S < H ∧ H ≤ 1000 := by omega
  have hfr : Fr s L T n S W H f := ⟨hsb.1, hsb.2.1, hS, hWb.1, hWb.2.2.1, hWb.2.1, hWb.2.2.2, HC.out⟩
  have HFR := Lib.hid hfr
  clear hW hH hS hfr
  have hV3 := (hV.below hb2 hvl).below hb3 (by omega)
  have q0 := hV3.cell 0
  have q1 := hV3.cell 1
  have q2 := hV3.cell 2
  have q3 := hV3.cell 3
  have q4 := hV3.cell 4
  have q5 := hV3.cell 5
  have q6 := hV3.cell 6
  have q7 := hV3.cell 7
  simp only [List.getElem?_toArray, List.getElem?_cons_zero, List.getElem?_cons_succ] at q0 q1 q2 q3 q4 q5 q6 q7
  have hvl3 := hV3.lt
  go_wp2_with fail
  refine (HTN.out w3).mono ?_
  rintro e w4 ⟨Dk, Lt, hl1, hl2, hd3, rfl, hb4⟩
  have hz4 := hb4.size
  have hRM4 := hRM.below hb4
  clear q0 q1 q2 q3 q4 q5 q6 q7
  go_wp2_with fail
  obtain ⟨N, hN⟩ : ∃ N, N = H * W := ⟨_, rfl⟩
  refine (grays_any hRM4 hN (by omega) (by omega)).mono ?_
  rintro e w5 ⟨g, cc, rfl, hgry, hb5⟩
  have hz5 := hb5.size
  have hRM5 := hRM4.below hb5
  have hV5 := (hV3.below hb4 hvl3).below hb5 (by omega)
  have q7 := hV5.cell 7
  simp only [List.getElem?_toArray, List.getElem?_cons_zero, List.getElem?_cons_succ] at q7
  have HN := Lib.hid hN
  clear hN
  go_wp2_with fail
  refine (told_any (L := L) (T := T) hRM5 (by omega) (by omega) (fun y x hp => (HFR.out.within hp).2.2.1) (by omega) (by omega) HFR.out.first.1).mono ?_
  rintro e w6 ⟨b, rfl, rfl, htold⟩
  go_wp2_with fail
  have hall : Below w.heap.size w w5 := by
    rw [← HVB.out]
    exact (((hb1.trans (hb2.mono (by omega))).trans (hb3.mono (by omega))).trans (hb4.mono (by omega))).trans (hb5.mono (by omega))
  exact bodyPost_ret (v := .tuple #[.int .i64 W, .int .i64 H, .slice (some ⟨g, 0, none⟩) N cc, .bool b]) (by simp [results, Tryz.results12, go_sem]) rfl ⟨s, L, T, S, W, H, N, g, cc, Dk, Lt, b, rfl, ⟨hgry, HN.out, HFR.out, hl1, hl2, hd3, htold⟩, hall⟩
end
end Go.Proofs.YtcekbhhpcmhicaaGreatDoor
namespace Go.Proofs.YtcekbhhpcmhicaaGreatDoor
open Go.RowKit Go.QW Go.QGF Go.QI Go.QM Go.QV Go.QZ Go.QP Go.QH
section
variable {w : World}
theorem even_quiet {hb n c k : Nat} {f : Nat → Nat → Bool} (h : BoolMap w hb n f) (hn : 21 ≤ n ∧ n ≤ 125) :
    Calls Tryz.prog 11 #[.slice (some ⟨hb, 0, none⟩) n c, .int .i64 21, .int .i64 177] (w.drewN k) fun e w' => e = .returned (.bool true) ∧ ∃ m, w' = w.drewN m :=
  (even_any (w := w.drewN k) (f := f) h hn).mono fun _ _ h => ⟨h.1, k, h.2.symm⟩
/-- the picture's dark pixels are found -/
theorem Shown.black {n s L T S W H N g c Dk Lt : Nat} {pt : Bool} {f : Nat → Nat → Bool} (h : Shown n f pt w s L T S W H N g Dk Lt true) (w' : World) (hg : Gry w' g N (gray W Dk Lt (pic s L T n f))) :
    Calls Tryz.prog 38 #[.int .i64 W, .int .i64 H, .slice (some ⟨g, 0, none⟩) N c, .bool pt] w' (DarkB W H (pic s L T n f) w') := by
  have hb := h.fr.big
  have hs1 := h.fr.s1
  have hW := h.fr.hW
  have hH := h.fr.hH
  have hgr : Grays (pic s L T n f) W H Dk Lt (gray W Dk Lt (pic s L T n f)) := ⟨fun y x _ hx => gray_at hx, fun y x hx => by
    cases hc : pic s L T n f y x with
    | false => rfl
    | true => have := h.fr.within hc; omega, h.l1, h.l2, h.d3⟩
  rcases h.told rfl with ⟨rfl, h5⟩ | ⟨rfl, h4, h4', rfl⟩
  · exact blackg_any hg h.hN ⟨by omega, h.fr.W1⟩ ⟨by omega, h.fr.H1⟩ hgr (fun y hy => by
      cases hc : pic s L T n f y (W / 5) with
      | false => rfl
      | true => have := h.fr.within hc; omega)
  · exact blackh_any hg h.hN ⟨h4, h.fr.W1⟩ ⟨h4', h.fr.H1⟩ hgr
set_option maxHeartbeats 16000000 in
set_option maxRecDepth 100000 in
theorem rqlaw_any (s : ByteArray) (kd lev sc b0 b1 b2 b3 dk lt : Nat) (pt : Bool) (hkd : kd < 256) (hlev : lev < 256) (hs : sc < 256) (h0 : b0 < 256) (h1 : b1 < 256) (h2 : b2 < 256) (h3 : b3 < 256) (hd : dk < 256) (hl : lt < 256) :
    Calls Tryz.prog 4 #[.string s, .int .u8 kd, .int .u8 lev, .agg #[.int .u8 sc, .int .u8 b0, .int .u8 b1, .int .u8 b2, .int .u8 b3, .int .u8 dk, .int .u8 lt, .bool pt]] w (LawB w) := by
  by_cases hbig : 2147483647 < s.size
  · have hd0 : decide ((2147483647 : Int) < (s.size : Int)) = true := by simp; omega
    have hd1 : decide (2147483647 < s.size) = true := by simp; omega
    go_enter Tryz.func4, Tryz.ntmps4
    go_wp2_with fail
    go_ret
    exact lawB_mk ((Below.refl _ _).alloc (Nat.le_refl _) _)
  · have hd0 : decide ((2147483647 : Int) < (s.size : Int)) = false := by simp; omega
    have hd1 : decide (2147483647 < s.size) = false := by simp; omega
    have hsh := fun (w' : World) (hm n c : Nat) (f : Nat → Nat → Bool) (h : BoolMap w' hm n f) (hc : Corn n f) => show_any (c := c) h hc sc b0 b1 b2 b3 dk lt pt hs h0 h1 h2 h3 hd hl
    have HSH := Lib.hid hsh
    clear hsh
    go_enter Tryz.func4, Tryz.ntmps4
    go_wp2_with fail
    have hV := Blk.new w 40 #[.int .u8 sc, .int .u8 b0, .int .u8 b1, .int .u8 b2, .int .u8 b3, .int .u8 dk, .int .u8 lt, .bool pt]
    have hb0 : Below w.heap.size w (w.alloc (.cells #[.int .u8 sc, .int .u8 b0, .int .u8 b1, .int .u8 b2, .int .u8 b3, .int .u8 dk, .int .u8 lt, .bool pt] 40)) := (Below.refl _ _).alloc (Nat.le_refl _) _
    obtain ⟨w0, hw0⟩ : ∃ w0, w0 = w.alloc (.cells #[.int .u8 sc, .int .u8 b0, .int .u8 b1, .int .u8 b2, .int .u8 b3, .int .u8 dk, .int .u8 lt, .bool pt] 40) := ⟨_, rfl⟩
    rw [← hw0] at hV hb0 ⊢
    clear hw0
    obtain ⟨vb, hvb⟩ : ∃ vb, vb = w.heap.size := ⟨_, rfl⟩
    rw [← hvb] at hV hb0 ⊢
    have HVB := Lib.hid hvb
    clear hvb
    have hvl := hV.lt
    have hz0 := hb0.size
    refine (qrascii3_any s kd (by omega) hkd).mono ?_
    rintro e w1 ⟨so, rfl, hs1, hs6, hb1⟩
    have hz1 := hb1.size
    clear hd0 hd1 hbig
    go_wp2_with fail
    refine (qrlevel_any lev hlev).mono ?_
    rintro e w1' ⟨rfl, rfl⟩
    obtain ⟨l, hl'⟩ : ∃ l, l = lev % 4 := ⟨_, rfl⟩
    have hl4 : l < 4 := by omega
    rw [← hl']
    clear hl'
    go_wp2_with fail
    refine (qrencode_any so l w1 (by omega) hs1 (by omega)).mono ?_
    intro e w2 henc
    obtain ⟨v, k, m, hb, c, d, N, cw, es, f, HD, rfl, hb2, HB⟩ := encB_form henc
    clear henc
    have hz2 := hb2.size
    have hdb : 21 ≤ d ∧ d ≤ 125 := by have h1 := HB.out.2.h1; have h2 := HB.out.2.h27; have := HD.out; omega
    go_wp2_with fail
    have hQ := Blk.new w2 25 #[.int .i64 (v : Nat), .int .i64 (k : Nat), .int .i64 (l : Nat), .int .i64 (m : Nat), .slice (some ⟨hb, 0, none⟩) d c]
    have hb3 : Below w2.heap.size w2 (w2.alloc (.cells #[.int .i64 (v : Nat), .int .i64 (k : Nat), .int .i64 (l : Nat), .int .i64 (m : Nat), .slice (some ⟨hb, 0, none⟩) d c] 25)) := (Below.refl _ _).alloc (Nat.le_refl _) _
    obtain ⟨w3, hw3⟩ : ∃ w3, w3 = w2.alloc (.cells #[.int .i64 (v : Nat), .int .i64 (k : Nat), .int .i64 (l : Nat), .int .i64 (m : Nat), .slice (some ⟨hb, 0, none⟩) d c] 25) := ⟨_, rfl⟩
    rw [← hw3] at hQ hb3 ⊢
    clear hw3
    obtain ⟨qb, hqb⟩ : ∃ qb, qb = w2.heap.size := ⟨_, rfl⟩
    rw [← hqb] at hQ ⊢
    have HQB := Lib.hid hqb
    clear hqb
    have hz3 := hb3.size
    have hbm := HB.out.1.below hb3
    rw [← HD.out] at hbm
    obtain ⟨g0, cr0, -⟩ := hbm.2 0 (by omega)
    have q4 := hQ.cell 4
    simp only [List.getElem?_toArray, List.getElem?_cons_zero, List.getElem?_cons_succ] at q4
    have hV3 := ((hV.below hb1 hvl).below hb2 (by omega)).below hb3 (by omega)
    have d1 : ((d : Int) != (d : Int)) = false := by simp
    go_quiet (first | (go_at_call 11; exact even_quiet hbm hdb))
    have v0 := hV3.cell 0
    have v1 := hV3.cell 1
    have v2 := hV3.cell 2
    have v3 := hV3.cell 3
    have v4 := hV3.cell 4
    have v5 := hV3.cell 5
    have v6 := hV3.cell 6
    have v7 := hV3.cell 7
    simp only [List.getElem?_toArray, List.getElem?_cons_zero, List.getElem?_cons_succ] at v0 v1 v2 v3 v4 v5 v6 v7
    clear cr0 d1
    go_wp2_with fail
    clear v0 v1 v2 v3 v4 v5 v6 v7 q4
    have hcn : Corn d f := by rw [HD.out]; exact HB.out.2.crn
    refine (HSH.out (w3.drewN nq) hb d c f hbm hcn).mono ?_
    rintro e w4 ⟨sz, L, T, S, W, H, Np, g, cc, Dk, Lt, b, rfl, hS, hb4'⟩
    have hb4 := below_of_drewN hb4'
    have hz4 := hb4.size
    have hall : Below w.heap.size w w4 := by
      rw [← HVB.out]
      exact (((hb0.trans (hb1.mono (by omega))).trans (hb2.mono (by omega))).trans (hb3.mono (by omega))).trans (hb4.mono (by omega))
    have hV4 := hV3.below hb4 hV3.lt
    have v7 := hV4.cell 7
    simp only [List.getElem?_toArray, List.getElem?_cons_zero, List.getElem?_cons_succ] at v7
    clear hb4'
    cases b with
    | false =>
      go_wp2_with fail
      go_ret
      exact lawB_mk hall
    | true =>
      have hS' : Shown (17 + 4 * v) f pt w4 sz L T S W H Np g Dk Lt true := by rw [← HD.out]; exact hS
      have hpu := pure_any (c := cc) hS'.gry hS'.fr HB.out.2 hS'.black
      have HPU := Lib.hid hpu
      clear hS hS' hpu hcn hbm
      go_wp2_with fail
      refine HPU.out.mono ?_
      rintro e w5 ⟨a1, a2, l1, c1, l2, c2, tt, x, y, z, u, rfl, hb5⟩
      have hz5 := hb5.size
      have hwz : w.heap.size ≤ w4.heap.size := hall.size
      go_wp2_with fail
      go_ret
      exact lawB_mk ((hall.trans (hb5.mono hwz)).alloc (Nat.le_trans hwz hz5) _)
end
end Go.Proofs.YtcekbhhpcmhicaaGreatDoor
