/- spec.RQPicture: the picture of a square of modules; Blocks of eight times eight pixels of two grays, the dark one 0: plain laws of their sums and of what they cover; The source of luminances: PlanarYUVLuminanceSource; The source of luminances: one row; its making; The global binarizer: its making, its arrays; The black point of a picture of two grays: plain laws of the three loops that look for it. -/
import Derived.Test.YtcekbhhpcmhicaaGreatDoorM02
import Derived.Test.YtcekbhhpcmhicaaGreatDoorM05
import Derived.Test.YtcekbhhpcmhicaaGreatDoorM07
import Derived.Test.YtcekbhhpcmhicaaGreatDoorM37
import Derived.Test.YtcekbhhpcmhicaaGreatDoorM39
import Derived.Lib.SliceRun
namespace Go.Proofs.YtcekbhhpcmhicaaGreatDoor
open Go.RowKit Go.QW Go.QGF Go.QI Go.QM Go.QV Go.QZ Go.QP
theorem bools_start {s L T n y W : Nat} {f : Nat → Nat → Bool} : bools W (fun X => if X < L + 0 then pic s L T n f y X else false) = bools W (fun _ => false) :=
  bools_congr fun X _ => by
    by_cases c : X < L + 0
    · rw [if_pos c]; exact pic_out (by omega)
    · rw [if_neg c]
theorem bools_end {s L T n y W S : Nat} {f : Nat → Nat → Bool} (hS : S = s * n) : bools W (fun X => if X < L + S then pic s L T n f y X else false) = bools W (pic s L T n f y) :=
  bools_congr fun X _ => by
    by_cases c : X < L + S
    · rw [if_pos c]
    · rw [if_neg c]; exact (pic_out (by rw [← hS]; omega)).symm
section
variable {w : World}
def PicB (s L T n W H : Nat) (f : Nat → Nat → Bool) (w : World) (e : Ending) (w' : World) : Prop := ∃ pb, e = .returned (.slice (some ⟨pb, 0, none⟩) H H) ∧ RM w' pb H W (pic s L T n f) ∧ Below w.heap.size w w'
set_option maxHeartbeats 16000000 in
set_option maxRecDepth 100000 in
theorem picture_any {hm n c s L T R B S : Nat} {f : Nat → Nat → Bool} (h : BoolMap w hm n f) (hs1 : 1 ≤ s) (hs6 : s ≤ 6) (hS : S = s * n) (hn : 21 ≤ n ∧ n ≤ 125) (hL : L ≤ 100) (hT : T ≤ 100) (hR : R ≤ 100) (hB : B ≤ 100) :
    Calls Tryz.prog 33 #[.slice (some ⟨hm, 0, none⟩) n c, .agg #[.int .i64 s, .int .i64 L, .int .i64 T, .int .i64 R, .int .i64 B]] w (PicB s L T n (L + S + R) (T + S + B) f w) := by
  have hS7 : S ≤ 750 ∧ 21 ≤ S := by
    have h1 := Nat.mul_le_mul hs6 hn.2
    have h2 := Nat.mul_le_mul hs1 hn.1
    rw [← hS] at h1 h2
    omega
  have hmul : wrap64 ((s : Int) * (n : Int)) = ((S : Nat) : Int) := by rw [← Int.natCast_mul, ← hS]; unfold wrap64; omega
  obtain ⟨W, hW⟩ : ∃ W, W = L + S + R := ⟨_, rfl⟩
  obtain ⟨H, hH⟩ : ∃ H, H = T + S + B := ⟨_, rfl⟩
  have hmk := fun w => make_rows (P := Tryz.prog) (t := 23) (e := 42) W Tryz.underlying23 (by kernel_rfl) H ((T : Int) + (S : Int) + (B : Int)) (by omega) (by omega) w
  have hmb := fun w => make_bools' (P := Tryz.prog) (t := 42) (e := 4) (by kernel_rfl) (by kernel_rfl) W ((L : Int) + (S : Int) + (R : Int)) (by omega) (by omega) w
  rw [← hW, ← hH]
  have HS := Lib.hid hS
  have hhl := h.1
  have HWH := Lib.hid (And.intro hW hH)
  have hWH : L + S ≤ W ∧ T + S ≤ H ∧ H ≤ 1000 := by omega
  clear hS hW hH
  go_enter Tryz.func33, Tryz.ntmps33
  go_upto_region 2 with fail
  rw [hmul]
  clear hmul
  go_wp2_with fail
  clear hmk
  obtain ⟨F, hF⟩ : ∃ F, F = pic s L T n f := ⟨_, rfl⟩
  have hfr := (Blk.new w 84 #[.int .i64 s, .int .i64 L, .int .i64 T, .int .i64 R, .int .i64 B]).alloc (.cells (rowsV H W []) 42)
  have hR0 : RMk ((w.alloc (.cells #[.int .i64 s, .int .i64 L, .int .i64 T, .int .i64 R, .int .i64 B] 84)).alloc (.cells (rowsV H W []) 42)) (w.heap.size + 1) H W 0 [] F := ⟨rfl, by have := Blk.new (w.alloc (.cells #[.int .i64 s, .int .i64 L, .int .i64 T, .int .i64 R, .int .i64 B] 84)) 42 (rowsV H W []); rw [World.size_alloc] at this; exact this, fun j hj => by omega⟩
  have hb1 : Below w.heap.size w ((w.alloc (.cells #[.int .i64 s, .int .i64 L, .int .i64 T, .int .i64 R, .int .i64 B] 84)).alloc (.cells (rowsV H W []) 42)) := ((Below.refl _ _).alloc (Nat.le_refl _) _).alloc (by simp) _
  obtain ⟨w1, hw1⟩ : ∃ w1, w1 = (w.alloc (.cells #[.int .i64 s, .int .i64 L, .int .i64 T, .int .i64 R, .int .i64 B] 84)).alloc (.cells (rowsV H W []) 42) := ⟨_, rfl⟩
  rw [← hw1] at hfr hR0 hb1 ⊢
  clear hw1
  obtain ⟨pb, hpb⟩ : ∃ pb, pb = w.heap.size + 1 := ⟨_, rfl⟩
  rw [← hpb] at hR0 ⊢
  obtain ⟨fb, hfb⟩ : ∃ fb, fb = w.heap.size := ⟨_, rfl⟩
  rw [← hfb] at hfr ⊢
  have hz1 := hb1.size
  have hm1 := h.below hb1
  have hnf : fb ≠ pb ∧ hm ≠ pb := by omega
  have HPB := Lib.hid (And.intro hpb hfb)
  have HF := Lib.hid hF
  have hmsz : hm < w1.heap.size := by omega
  clear hpb hfb h hF hhl
  go_loopw [25] (fun t25 wr => ∃ (y : Nat) (rs : List Nat), y ≤ H ∧ t25 = .int .i64 (y : Nat) ∧ RMk wr pb H W y rs F ∧ Kp [pb] w1 wr) (fun t25 _ => H - (intOf t25).toNat)
  case atStart => exact ⟨0, [], by omega, rfl, hR0, Kp.refl _ _⟩
  case round =>
    obtain ⟨y, rs, hy, rfl, hR, hkr⟩ := hrel
    by_cases hlt : y < H
    · have hdy : decide ((y : Int) < (H : Int)) = true := by simp; omega
      have hfr1 := hfr.kp hkr (by simpa using hnf.1)
      have q0 := hfr1.cell 0
      have q1 := hfr1.cell 1
      have q2 := hfr1.cell 2
      have q3 := hfr1.cell 3
      simp only [List.getElem?_toArray, List.getElem?_cons_zero, List.getElem?_cons_succ] at q0 q1 q2 q3
      have hhl := hR.hd.lt
      have hfl := hfr1.lt
      have fh := hR.hd.frozen y
      have chd := hR.hd.cell y
      rw [rowsV_get hlt, if_neg (by rw [hR.len]; omega)] at chd
      have hst := (hR.store (G := wr.heap.size))
      have hX : Blk ((wr.setCell ⟨pb, y, none⟩ (.slice (some ⟨wr.heap.size, 0, none⟩) W W)).alloc (.cells (bools W (fun _ => false)) 4)) pb 42 (rowsV H W (rs ++ [wr.heap.size])) ∧ (∀ j, j < y → Blk ((wr.setCell ⟨pb, y, none⟩ (.slice (some ⟨wr.heap.size, 0, none⟩) W W)).alloc (.cells (bools W (fun _ => false)) 4)) (nth (rs ++ [wr.heap.size]) j) 4 (bools W (F j))) ∧ Kp [pb] w1 ((wr.setCell ⟨pb, y, none⟩ (.slice (some ⟨wr.heap.size, 0, none⟩) W W)).alloc (.cells (bools W (fun _ => false)) 4)) ∧ Blk ((wr.setCell ⟨pb, y, none⟩ (.slice (some ⟨wr.heap.size, 0, none⟩) W W)).alloc (.cells (bools W (fun _ => false)) 4)) wr.heap.size 4 (bools W (fun _ => false)) :=
        ⟨hst.1.alloc _, fun j hj => (hst.2 j hj).alloc _, (hkr.setCell (by simp) _).alloc _, Blk_new_set wr pb y _ _⟩
      have HST := Lib.hid hX
      have hzr := hkr.size
      have hrl : ∀ j, j < y → nth rs j < wr.heap.size := fun j hj => (hR.row j hj).lt
      have HRL := Lib.hid (And.intro hR.len hrl)
      clear hst hX hR hrl
      go_upto_region 7 with fail
      obtain ⟨w2, hw2⟩ : ∃ w2, w2 = (wr.setCell ⟨pb, y, none⟩ (.slice (some ⟨wr.heap.size, 0, none⟩) W W)).alloc (.cells (bools W (fun _ => false)) 4) := ⟨_, rfl⟩
      have hX := HST.out
      rw [← hw2] at hX ⊢
      obtain ⟨hH2, hrw2, hk2, hG0⟩ := hX
      obtain ⟨G, hG⟩ : ∃ G, G = wr.heap.size := ⟨_, rfl⟩
      have HRL2 := HRL.out
      rw [← hG] at hH2 hrw2 hG0 HRL2 ⊢
      have hGz : w1.heap.size ≤ G ∧ pb ≠ G ∧ fb ≠ G ∧ hm ≠ G := by omega
      have HR := Lib.hid (And.intro hH2 (And.intro hrw2 (And.intro hk2 HRL2)))
      clear hw2 HST hH2 hrw2 hk2 hG hkr fh chd HRL HRL2 hfr1 q0 q1 q2 q3 hhl hfl hzr
      have hfr2 := hfr.kp HR.out.2.2.1 (by simpa using hnf.1)
      have q0 := hfr2.cell 0
      have q1 := hfr2.cell 1
      have q2 := hfr2.cell 2
      have q3 := hfr2.cell 3
      simp only [List.getElem?_toArray, List.getElem?_cons_zero, List.getElem?_cons_succ] at q0 q1 q2 q3
      by_cases hin : T ≤ y ∧ y < T + S
      · have hd1 : decide ((y : Int) < (T : Int)) = false := by simp; omega
        have hd2 : decide ((T : Int) + (S : Int) ≤ (y : Int)) = false := by simp; omega
        obtain ⟨q, hq⟩ : ∃ q, q = (y - T) / s := ⟨_, rfl⟩
        have hqn : q < n := by rw [hq]; exact Nat.div_lt_of_lt_mul (by rw [← HS.out]; omega)
        have hqI : ((y : Int) - (T : Int)) / (s : Int) = ((q : Nat) : Int) := by
          rw [show (y : Int) - (T : Int) = ((y - T : Nat) : Int) by omega, ← Int.natCast_ediv, hq]
        obtain ⟨gq, cq, bq⟩ := hm1.2 q hqn
        have cq2 := (HR.out.2.2.1.cell (p := ⟨hm, q, none⟩) hmsz (by simpa using hnf.2)).trans cq
        have bq2 := bq.kp HR.out.2.2.1 (by simp; exact bq.ne_ hR0.hd (by decide))
        have hgq : gq ≠ G ∧ gq < w1.heap.size := by have := bq.lt; omega
        have HQ := Lib.hid hq
        have HB2 := Lib.hid bq2
        clear hq cq bq bq2
        go_wp2_with fail
        clear hqI cq2 hd1 hd2
        obtain ⟨wo, rfl⟩ : ∃ wo : World, wo = wr := ⟨_, rfl⟩
        go_loopw [9] (fun t9 wr => ∃ x : Nat, x ≤ S ∧ t9 = .int .i64 (x : Nat) ∧ Blk wr G 4 (bools W (fun X => if X < L + x then F y X else false)) ∧ Kp [G] w2 wr) (fun t9 _ => S - (intOf t9).toNat)
        case atStart => exact ⟨0, by omega, rfl, by rw [HF.out, bools_start]; exact hG0, Kp.refl _ _⟩
        case round =>
          obtain ⟨x, hx, rfl, hGr, hkr⟩ := hrel
          have hHr := HR.out.1.kp hkr (by simpa using hGz.2.1)
          by_cases hltx : x < S
          · have hdx : decide ((x : Int) < (S : Int)) = true := by simp; omega
            have hfr3 := hfr2.kp hkr (by simpa using hGz.2.2.1)
            have r0 := hfr3.cell 0
            have r1 := hfr3.cell 1
            simp only [List.getElem?_toArray, List.getElem?_cons_zero, List.getElem?_cons_succ] at r0 r1
            have chr := hHr.cell y
            rw [rowsV_get hlt, if_pos (by rw [List.length_append, HR.out.2.2.2.1, List.length_singleton]; omega), show nth (rs ++ [G]) y = G by have := nth_append_right (l := rs) (m := [G]) (i := 0); rw [HR.out.2.2.2.1, Nat.add_zero] at this; rw [this]; rfl] at chr
            obtain ⟨p, hp⟩ : ∃ p, p = x / s := ⟨_, rfl⟩
            have hpn : p < n := by rw [hp]; exact Nat.div_lt_of_lt_mul (by rw [← HS.out]; omega)
            have hpI : (x : Int) / (s : Int) = ((p : Nat) : Int) := by rw [← Int.natCast_ediv, hp]
            have cbq := (HB2.out.kp hkr (by simpa using hgq.1)).cell p
            rw [bools_get hpn] at cbq
            have hFx : F y (L + x) = f q p := by
              have := pic_in (s := s) (L := L) (T := T) (n := n) (f := f) (y := y - T) (x := x) (by rw [← HS.out]; omega) (by rw [← HS.out]; omega)
              rw [show T + (y - T) = y by omega, ← HQ.out, ← hp, ← HF.out] at this
              exact this
            have cg := hGr.cell (L + x)
            rw [bools_get (by omega)] at cg
            have fg := hGr.frozen (L + x)
            have hset := hGr.set_ (L + x) (.bool (f q p))
            rw [bools_set, bools_upto hFx.symm] at hset
            have HSET := Lib.hid hset
            obtain ⟨bz, hbz⟩ : ∃ bz, bz = (if L + x < L + x then F y (L + x) else false) := ⟨_, rfl⟩
            clear hset hbz hHr hp hFx hfr3
            go_wp2_with fail
            refine wp_region_quiet_tail 16 (by kernel_rfl) (by kernel_rfl) ?_
            simp only [List.take_succ_cons, List.take_zero, List.drop_succ_cons, List.drop_zero]
            repeat (go_big_quiet_step (fail))
            refine wpQuiet_nil ?_
            intro _ hw''
            obtain ⟨nr, rfl⟩ := hw''
            go_wp2_with fail
            go_roundw
            case rel => exact ⟨x + 1, by omega, by go_num, HSET.out, (hkr.drewN nr).setCell (by simp) _⟩
            case measure => simp [intOf]; omega
          · have hdx : decide ((x : Int) < (S : Int)) = false := by simp; omega
            have hxe : x = S := by omega
            have hGf : Blk wr G 4 (bools W (F y)) := by
              rw [hxe, HF.out, bools_end HS.out] at hGr
              rw [HF.out]
              exact hGr
            have hRn : RMk wr pb H W (y + 1) (rs ++ [G]) F := RMk.next HR.out.2.2.2.1 hHr (fun j hj => (HR.out.2.1 j hj).kp hkr (by
              simp
              rw [nth_append_left (by rw [HR.out.2.2.2.1]; exact hj)]
              have := HR.out.2.2.2.2 j hj
              omega)) hGf
            have hkn : Kp [pb] w1 wr := HR.out.2.2.1.trans hkr (by intro q hq hl; simp at hq; omega)
            clear hxe
            go_wp2_with fail
            go_roundw
            case rel => exact ⟨y + 1, _, by omega, by go_num, hRn, hkn⟩
            case measure => simp [intOf]; omega
      · have hGf : Blk w2 G 4 (bools W (F y)) := by
          rw [bools_congr (g := F y) (fun x _ => by rw [HF.out]; exact (pic_out (by rw [← HS.out]; omega)).symm)] at hG0
          exact hG0
        have hRn : RMk w2 pb H W (y + 1) (rs ++ [G]) F := RMk.next HR.out.2.2.2.1 HR.out.1 HR.out.2.1 hGf
        rcases (show y < T ∨ T + S ≤ y by omega) with hout | hout
        all_goals
          go_wp2_with fail
          go_roundw
          case rel => exact ⟨y + 1, _, by omega, by go_num, hRn, HR.out.2.2.1⟩
          case measure => simp [intOf]; omega
    · have hdy : decide ((y : Int) < (H : Int)) = false := by simp; omega
      obtain rfl : y = H := by omega
      go_wp2_with fail
      go_ret
      refine ⟨pb, rfl, ?_, below_of_kp hb1 hkr hz1 (by intro q hq; simp at hq; have := HPB.out; omega)⟩
      rw [← HF.out]
      exact hR.rm
end
end Go.Proofs.YtcekbhhpcmhicaaGreatDoor
namespace Go.QH2
open Go.QW Go.RowKit
/-- sum, least and greatest of cnt pixels that are 0 or M -/
def Sm (M cnt sum mn mx : Nat) : Prop := sum ≤ M * cnt ∧ (mn = 255 ∧ mx = 0 ∧ cnt = 0 ∨ (mn = 0 ∨ mn = M) ∧ (mx = 0 ∨ mx = M)) ∧ (mn = 0 → sum + M ≤ M * cnt)
theorem Sm.zero (M : Nat) : Sm M 0 0 255 0 := ⟨by omega, .inl ⟨rfl, rfl, rfl⟩, fun h => by omega⟩
theorem Sm.step {M cnt sum mn mx p : Nat} (h : Sm M cnt sum mn mx) (hM : 128 ≤ M) (hM2 : M ≤ 255) (hp : p = 0 ∨ p = M) : Sm M (cnt + 1) (sum + p) (if p < mn then p else mn) (if mx < p then p else mx) := by
  obtain ⟨h1, h2, h3⟩ := h
  unfold Sm
  rw [Nat.mul_succ]
  refine ⟨by omega, .inr ⟨?_, ?_⟩, ?_⟩
  · by_cases c : p < mn
    · rw [if_pos c]; exact hp
    · rw [if_neg c]
      rcases h2 with ⟨a, -, -⟩ | ⟨a, -⟩
      · omega
      · exact a
  · by_cases c : mx < p
    · rw [if_pos c]; exact hp
    · rw [if_neg c]
      rcases h2 with ⟨-, a, -⟩ | ⟨-, a⟩
      · exact .inl a
      · exact a
  · by_cases c : p < mn
    · rw [if_pos c]
      intro e
      omega
    · rw [if_neg c]
      intro e
      have := h3 e
      omega
theorem Sm.quick {M cnt sum mx p : Nat} (h : Sm M cnt sum 0 mx) (hp : p = 0 ∨ p = M) : Sm M (cnt + 1) (sum + p) 0 mx := by
  obtain ⟨h1, h2, h3⟩ := h
  unfold Sm
  rw [Nat.mul_succ]
  have := h3 rfl
  refine ⟨by omega, .inr ⟨.inl rfl, ?_⟩, fun _ => by omega⟩
  rcases h2 with ⟨a, -, -⟩ | ⟨-, a⟩
  · omega
  · exact a
theorem Sm.le {M cnt sum mn mx : Nat} (h : Sm M cnt sum mn mx) (hM : M ≤ 255) (hc : cnt ≤ 64) : sum ≤ 16320 ∧ mn ≤ 255 ∧ mx ≤ 255 := by
  have := Nat.mul_le_mul hM hc
  obtain ⟨h1, h2, h3⟩ := h
  omega
/-- the pixels differ: the least is 0 -/
theorem Sm.apart {M cnt sum mn mx : Nat} (h : Sm M cnt sum mn mx) (hd : mn + 24 < mx) : mn = 0 ∧ mx = M := by
  obtain ⟨h1, h2, h3⟩ := h
  omega
theorem Sm.avg {M sum mn mx : Nat} (h : Sm M 64 sum mn mx) (hM : 1 ≤ M) (hd : mn + 24 < mx) : sum / 64 < M := by
  obtain ⟨h1, h2, h3⟩ := h
  have h0 : mn = 0 := by omega
  have := h3 h0
  rw [Nat.mul_comm] at this
  omega
theorem Sm.half {M sum mn mx : Nat} (h : Sm M 64 sum mn mx) (hM : 128 ≤ M) : mn / 2 < M := by
  obtain ⟨h1, h2, h3⟩ := h
  omega
end Go.QH2
namespace Go.Proofs.YtcekbhhpcmhicaaGreatDoor
open Go.RowKit Go.QW Go.QGF
/-- the first N cells of block g are the bytes phi -/
def Gry (w : World) (g N : Nat) (phi : Nat → Nat) : Prop := g < w.heap.size ∧ ∀ i, i < N → w.cell? ⟨g, i, none⟩ = some (.int .u8 (phi i : Nat))
theorem Gry.below {w w' : World} {B g N : Nat} {phi : Nat → Nat} (h : Gry w g N phi) (hb : Below B w w') (hg : g < B) : Gry w' g N phi := by
  have := h.1
  refine ⟨Nat.lt_of_lt_of_le this hb.size, fun i hi => (hb.cell (p := ⟨g, i, none⟩) hg).trans (h.2 i hi)⟩
theorem Gry.kp {w w' : World} {S : List Nat} {g N : Nat} {phi : Nat → Nat} (h : Gry w g N phi) (hk : Kp S w w') (hg : g ∉ S) : Gry w' g N phi := by
  have := h.1
  refine ⟨Nat.lt_of_lt_of_le this hk.size, fun i hi => (hk.cell (p := ⟨g, i, none⟩) h.1 hg).trans (h.2 i hi)⟩
/-- block P is the source of W times H bytes phi -/
structure Lum (w : World) (P g W H N c : Nat) (phi : Nat → Nat) : Prop where
  blk : Blk w P 302 #[.int .i64 W, .int .i64 H, .slice (some ⟨g, 0, none⟩) N c, .int .i64 W, .int .i64 H, .int .i64 0, .int .i64 0]
  gry : Gry w g N phi
  hN : N = H * W
  w1 : 1 ≤ W ∧ W ≤ 1000
  h1 : 1 ≤ H ∧ H ≤ 1000
  hc : N ≤ c
section
variable {w w' : World} {P g W H N c : Nat} {phi : Nat → Nat}
theorem Lum.below {B : Nat} (h : Lum w P g W H N c phi) (hb : Below B w w') (h1 : P < B) (h2 : g < B) : Lum w' P g W H N c phi := ⟨h.blk.below hb h1, h.gry.below hb h2, h.hN, h.w1, h.h1, h.hc⟩
theorem Lum.kp {S : List Nat} (h : Lum w P g W H N c phi) (hk : Kp S w w') (h1 : P ∉ S) (h2 : g ∉ S) : Lum w' P g W H N c phi := ⟨h.blk.kp hk h1, h.gry.kp hk h2, h.hN, h.w1, h.h1, h.hc⟩
theorem Lum.n (h : Lum w P g W H N c phi) : N ≤ 1000000 := by
  have := h.hN
  have h1 := h.w1.2
  have h2 := h.h1.2
  rw [this]; exact Nat.le_trans (Nat.mul_le_mul h2 h1) (by omega)
theorem lumw_any (h : Lum w P g W H N c phi) : Calls Tryz.prog 348 #[.pointer (some ⟨P, 0, none⟩)] w fun e w' => e = .returned (.int .i64 (W : Nat)) ∧ w = w' := by
  have a0 := h.blk.cell 0
  simp only [List.getElem?_toArray, List.getElem?_cons_zero] at a0
  go_enter Tryz.func348, Tryz.ntmps348
  go_wp2
  go_ret
  exact ⟨rfl, rfl⟩
theorem lumh_any (h : Lum w P g W H N c phi) : Calls Tryz.prog 345 #[.pointer (some ⟨P, 0, none⟩)] w fun e w' => e = .returned (.int .i64 (H : Nat)) ∧ w = w' := by
  have a0 := h.blk.cell 1
  simp only [List.getElem?_toArray, List.getElem?_cons_zero, List.getElem?_cons_succ] at a0
  go_enter Tryz.func345, Tryz.ntmps345
  go_wp2
  go_ret
  exact ⟨rfl, rfl⟩
set_option maxHeartbeats 4000000 in
theorem lummat_any (h : Lum w P g W H N c phi) : Calls Tryz.prog 346 #[.pointer (some ⟨P, 0, none⟩)] w fun e w' => e = .returned (.slice (some ⟨g, 0, none⟩) N c) ∧ w = w' := by
  have a2 := h.blk.cell 2
  have a3 := h.blk.cell 3
  have a4 := h.blk.cell 4
  simp only [List.getElem?_toArray, List.getElem?_cons_zero, List.getElem?_cons_succ] at a2 a3 a4
  go_enter Tryz.func346, Tryz.ntmps346
  go_wp2_with fail
  refine (lumw_any h).mono ?_
  rintro e w1 ⟨rfl, rfl⟩
  go_wp2_with fail
  refine (lumh_any h).mono ?_
  rintro e w1 ⟨rfl, rfl⟩
  go_wp2_with fail
  go_ret
  exact ⟨rfl, rfl⟩
end
end Go.Proofs.YtcekbhhpcmhicaaGreatDoor
namespace Go.Proofs.YtcekbhhpcmhicaaGreatDoor
open Go.RowKit Go.QW Go.QGF
section
variable {w : World} {P g W H N c : Nat} {phi : Nat → Nat}
set_option maxHeartbeats 8000000 in
set_option maxRecDepth 100000 in
theorem lumrow_any {nb y : Nat} {l : List Nat} (h : Lum w P g W H N c phi) (hb : Blk w nb 5 (ints .u8 l)) (hl : l.length = W) (hy : y < H) :
    Calls Tryz.prog 347 #[.pointer (some ⟨P, 0, none⟩), .int .i64 y, .slice (some ⟨nb, 0, none⟩) W W] w fun e w' => e = .returned (.tuple #[.slice (some ⟨nb, 0, none⟩) W W, .nilIface]) ∧ Blk w' nb 5 (ints .u8 (tab W fun x => phi (y * W + x))) ∧ Kp [nb] w w' := by
  have a2 := h.blk.cell 2
  have a3 := h.blk.cell 3
  have a5 := h.blk.cell 5
  have a6 := h.blk.cell 6
  simp only [List.getElem?_toArray, List.getElem?_cons_zero, List.getElem?_cons_succ] at a2 a3 a5 a6
  have hw1 := h.w1
  have hh1 := h.h1
  have hn := h.n
  have hc := h.hc
  obtain ⟨o, ho⟩ : ∃ o, o = y * W := ⟨_, rfl⟩
  have hoN : o + W ≤ N := by
    rw [ho, h.hN]
    have : (y + 1) * W ≤ H * W := Nat.mul_le_mul_right _ hy
    rw [Nat.succ_mul] at this
    exact this
  have hmul : wrap64 ((y : Int) * (W : Int)) = ((o : Nat) : Int) := by rw [← Int.natCast_mul, ← ho]; unfold wrap64; omega
  have qT : ∀ (w : World) (a : Option Addr) (n c n' c' : Nat), (binOp .eql 30 (.slice a n c) (.slice none n' c')).run Tryz.prog w = .ok (.bool a.isNone) w := fun w a n c n' c' => Lib.run_eql_slice_nil w _ _ a n c n' c' Tryz.underlying30
  have d1 : decide ((y : Int) < 0) = false := by simp
  have d2 : decide ((H : Int) ≤ (y : Int)) = false := by simp; omega
  have HO := Lib.hid ho
  have HG := Lib.hid h.gry
  clear ho
  go_enter Tryz.func347, Tryz.ntmps347
  go_wp2_with fail
  refine (lumh_any h).mono ?_
  rintro e w1 ⟨rfl, rfl⟩
  go_wp2_with fail
  refine (lumw_any h).mono ?_
  rintro e w1 ⟨rfl, rfl⟩
  go_wp2_with fail
  go_quiet (fail)
  go_wp2_with fail
  refine upon_copy_ints Tryz.underlying30 (by kernel_rfl) .u8 5 l (tab W fun x => phi (y * W + x)) (hb.drewN _) ?_ ?_ ?_ ?_
  · rw [tab_length]; exact (Nat.min_self W).symm
  · intro j hj
    rw [tab_length] at hj
    rw [nth_tab hj, ← HO.out]
    exact HG.out.2 (o + j) (by omega)
  · rw [tab_length, hl]; omega
  intro w2 hb2 hk2 _
  go_wp2_with fail
  go_ret2
  refine ⟨rfl, ?_, ((Kp.refl [nb] w).drewN _).trans hk2 (by intro q hq _; exact hq)⟩
  have e : splice l 0 (tab W fun x => phi (y * W + x)) = tab W fun x => phi (y * W + x) := by
    apply ext_nth
    · rw [length_splice _ _ _ (by rw [tab_length, hl]; omega), tab_length, hl]
    · intro i hi
      rw [length_splice _ _ _ (by rw [tab_length, hl]; omega), hl] at hi
      rw [nth_splice (by rw [tab_length, hl]; omega), if_neg (by omega), if_pos (by rw [tab_length]; omega), Nat.sub_zero]
  rw [e] at hb2
  exact hb2
end
end Go.Proofs.YtcekbhhpcmhicaaGreatDoor
namespace Go.Proofs.YtcekbhhpcmhicaaGreatDoor
open Go.RowKit Go.QW Go.QGF
/-- block X is a global binarizer over source P: luminances in block lb, counts in block bb -/
structure Gh (w : World) (X P lb ll lc bb : Nat) (B : List Nat) : Prop where
  blk : Blk w X 233 #[.iface 298 (.pointer (some ⟨P, 0, none⟩)), .slice (some ⟨lb, 0, none⟩) ll lc, .slice (some ⟨bb, 0, none⟩) 32 32]
  bkt : Blk w bb 3 (ints .i64 B)
  len : B.length = 32
section
variable {w w' : World} {X P lb ll lc bb : Nat} {B : List Nat}
theorem Gh.below {C : Nat} (h : Gh w X P lb ll lc bb B) (hb : Below C w w') (h1 : X < C) (h2 : bb < C) : Gh w' X P lb ll lc bb B := ⟨h.blk.below hb h1, h.bkt.below hb h2, h.len⟩
theorem Gh.kp {S : List Nat} (h : Gh w X P lb ll lc bb B) (hk : Kp S w w') (h1 : X ∉ S) (h2 : bb ∉ S) : Gh w' X P lb ll lc bb B := ⟨h.blk.kp hk h1, h.bkt.kp hk h2, h.len⟩
set_option maxHeartbeats 4000000 in
set_option maxRecDepth 100000 in
theorem newgh_any {P : Nat} (w : World) : Calls Tryz.prog 92 #[.iface 298 (.pointer (some ⟨P, 0, none⟩))] w fun e w' => ∃ X lb bb, e = .returned (.iface 231 (.pointer (some ⟨X, 0, none⟩))) ∧ Gh w' X P lb 0 0 bb (List.replicate 32 0) ∧ w.heap.size ≤ X ∧ w.heap.size ≤ lb ∧ w.heap.size ≤ bb ∧ Below w.heap.size w w' := by
  have hmk := fun w => make_flat (P := Tryz.prog) Tryz.underlying138 int_info (by decide) 32 32 rfl (by omega) w
  go_enter Tryz.func92, Tryz.ntmps92
  go_wp2_with fail
  go_ret
  have k1 : Blk (w.alloc (Obj.cells #[] 5)) w.heap.size 5 #[] := Blk.new w _ _
  have k2 := Blk.new (w.alloc (Obj.cells #[] 5)) 3 (ints .i64 (List.replicate 32 0))
  rw [World.size_alloc] at k2
  have k3 := Blk.new ((w.alloc (Obj.cells #[] 5)).alloc (Obj.cells (ints .i64 (List.replicate 32 0)) 3)) 233 #[.iface 298 (.pointer (some ⟨P, 0, none⟩)), .slice (some ⟨w.heap.size, 0, none⟩) 0 0, .slice (some ⟨w.heap.size + 1, 0, none⟩) 32 32]
  rw [World.size_alloc, World.size_alloc] at k3
  exact ⟨w.heap.size + 1 + 1, w.heap.size, w.heap.size + 1, rfl, ⟨k3, k2.alloc _, rfl⟩, by omega, by omega, by omega, (((Below.refl _ _).alloc (Nat.le_refl _) _).alloc (by simp) _).alloc (by simp; omega) _⟩
set_option maxHeartbeats 8000000 in
set_option maxRecDepth 100000 in
theorem initarr_any {W : Nat} (h : Gh w X P lb ll lc bb (List.replicate 32 0)) (hW : ll < W) (hW2 : W ≤ 1000) :
    Calls Tryz.prog 332 #[.pointer (some ⟨X, 0, none⟩), .int .i64 W] w fun e w' => ∃ nb, e = .returned (.tuple #[]) ∧ Gh w' X P nb W W bb (List.replicate 32 0) ∧ Blk w' nb 5 (ints .u8 (List.replicate W 0)) ∧ w.heap.size ≤ nb ∧ Kp [X, bb] w w' := by
  have a1 := h.blk.cell 1
  have f1 := h.blk.frozen 1
  simp only [List.getElem?_toArray, List.getElem?_cons_zero, List.getElem?_cons_succ] at a1
  have d1 : decide ((ll : Int) < (W : Int)) = true := by simp; omega
  have hmk := fun w => make_flat (P := Tryz.prog) Tryz.underlying30 byte_info (by decide) W (W : Int) rfl (by omega) w
  have hXl := h.blk.lt
  go_enter Tryz.func332, Tryz.ntmps332
  go_wp2_with fail
  clear hmk
  have hne : X ≠ bb := h.blk.ne_ h.bkt (by decide)
  obtain ⟨nb, hnb⟩ : ∃ nb, nb = w.heap.size := ⟨_, rfl⟩
  rw [← hnb]
  have hX2 := h.blk.set_ 1 (.slice (some ⟨nb, 0, none⟩) W W)
  rw [show (#[.iface 298 (.pointer (some ⟨P, 0, none⟩)), .slice (some ⟨lb, 0, none⟩) ll lc, .slice (some ⟨bb, 0, none⟩) 32 32] : Array Value).setIfInBounds 1 (.slice (some ⟨nb, 0, none⟩) W W) = #[.iface 298 (.pointer (some ⟨P, 0, none⟩)), .slice (some ⟨nb, 0, none⟩) W W, .slice (some ⟨bb, 0, none⟩) 32 32] from rfl] at hX2
  have hs2 : (w.setCell ⟨X, 1, none⟩ (.slice (some ⟨nb, 0, none⟩) W W)).heap.size = nb := by rw [hnb]; simp [World.setCell]
  have hG2 : Gh ((w.setCell ⟨X, 1, none⟩ (.slice (some ⟨nb, 0, none⟩) W W)).alloc (.cells (ints .u8 (List.replicate W 0)) 5)) X P nb W W bb (List.replicate 32 0) := ⟨hX2.alloc _, (h.bkt.far (Ne.symm hne) _).alloc _, h.len⟩
  have hL2 := Blk.new (w.setCell ⟨X, 1, none⟩ (.slice (some ⟨nb, 0, none⟩) W W)) 5 (ints .u8 (List.replicate W 0))
  rw [hs2] at hL2
  have hk2 : Kp [X, bb] w ((w.setCell ⟨X, 1, none⟩ (.slice (some ⟨nb, 0, none⟩) W W)).alloc (.cells (ints .u8 (List.replicate W 0)) 5)) := ((Kp.refl _ w).setCell (by simp) _).alloc _
  obtain ⟨w2, hw2⟩ : ∃ w2, w2 = (w.setCell ⟨X, 1, none⟩ (.slice (some ⟨nb, 0, none⟩) W W)).alloc (.cells (ints .u8 (List.replicate W 0)) 5) := ⟨_, rfl⟩
  rw [← hw2] at hG2 hL2 hk2 ⊢
  have hbl := h.bkt.lt
  clear hw2 hX2 a1 f1 d1 hs2
  rw [← hnb] at hXl hbl
  have HNB := Lib.hid hnb
  obtain ⟨zs, hzs⟩ : ∃ zs, zs = List.replicate 32 0 := ⟨_, rfl⟩
  rw [← hzs] at hG2
  have HZ := Lib.hid hzs
  have hzl : zs.length = 32 := by rw [hzs]; rfl
  clear hnb hzs
  go_loopw [4] (fun t4 wr => ∃ i : Nat, i ≤ 32 ∧ t4 = .int .i64 (i : Nat) ∧ Gh wr X P nb W W bb zs ∧ Kp [bb] w2 wr) (fun t4 _ => 32 - (intOf t4).toNat)
  case atStart => exact ⟨0, by omega, rfl, hG2, Kp.refl _ _⟩
  case round =>
    obtain ⟨i, hi, rfl, hGr, hkr⟩ := hrel
    by_cases hlt : i < 32
    · have hdi : decide ((i : Int) < 32) = true := by simp; omega
      have b2 := hGr.blk.cell 2
      have cz := hGr.bkt.cell i
      have fz := hGr.bkt.frozen i
      simp only [List.getElem?_toArray, List.getElem?_cons_zero, List.getElem?_cons_succ] at b2
      rw [ints_get (by omega)] at cz
      have hset := hGr.bkt.set_ i (.int .i64 ((0 : Nat) : Int))
      rw [ints_set, show zs.set i 0 = zs from by rw [HZ.out]; exact List.set_replicate_self] at hset
      have hG3 : Gh (wr.setCell ⟨bb, i, none⟩ (.int .i64 0)) X P nb W W bb zs := ⟨hGr.blk.far hne _, hset, hzl⟩
      have HG3 := Lib.hid hG3
      clear hset hG3
      go_wp2_with fail
      go_roundw
      case rel => exact ⟨i + 1, by omega, by go_num, HG3.out, hkr.setCell (by simp) _⟩
      case measure => simp [intOf]; omega
    · have hdi : decide ((i : Int) < 32) = false := by simp; omega
      go_wp2_with fail
      go_end0
      refine ⟨nb, rfl, ?_, hL2.kp hkr (by simp; omega), by rw [HNB.out]; exact Nat.le_refl _, hk2.trans hkr (by intro q hq _; simp at hq ⊢; exact .inr hq)⟩
      rw [← HZ.out]
      exact hGr
end
end Go.Proofs.YtcekbhhpcmhicaaGreatDoor
namespace Go.QH
open Go.QW Go.RowKit
/-- counts that stand at two places alone -/
structure Two (B : List Nat) (D L cd cl : Nat) : Prop where
  len : B.length = 32
  atD : nth B D = cd
  atL : nth B L = cl
  off : ∀ i, i ≠ D → i ≠ L → nth B i = 0
  h1 : 1 ≤ cl
  bd : cd ≤ 4000 ∧ cl ≤ 4000
  dl : D + 3 ≤ L
  l16 : 16 ≤ L
  l32 : L < 32
  d3 : 24 * D ≤ 8 * L + 7
def PeakI (B : List Nat) (x fp fs : Nat) : Prop := (fs = 0 ∧ fp = 0 ∨ 0 < fs ∧ fp < x ∧ nth B fp = fs) ∧ ∀ i, i < x → nth B i ≤ fs
theorem PeakI.zero (B : List Nat) : PeakI B 0 0 0 := ⟨.inl ⟨rfl, rfl⟩, fun i hi => by omega⟩
theorem PeakI.up {B : List Nat} {x fp fs : Nat} (h : PeakI B x fp fs) (hb : fs < nth B x) : PeakI B (x + 1) x (nth B x) :=
  ⟨.inr ⟨by omega, by omega, rfl⟩, fun i hi => by
    rcases Nat.lt_or_ge i x with h1 | h1
    · have := h.2 i h1; omega
    · rw [show i = x by omega]; exact Nat.le_refl _⟩
theorem PeakI.stay {B : List Nat} {x fp fs : Nat} (h : PeakI B x fp fs) (hb : nth B x ≤ fs) : PeakI B (x + 1) fp fs :=
  ⟨h.1.imp id fun ⟨a, b, c⟩ => ⟨a, by omega, c⟩, fun i hi => by
    rcases Nat.lt_or_ge i x with h1 | h1
    · exact h.2 i h1
    · rw [show i = x by omega]; exact hb⟩
def sq (i j : Nat) : Nat := (i - j + (j - i)) * (i - j + (j - i))
theorem sq_pos {i j : Nat} (h : i ≠ j) : 0 < sq i j := Nat.mul_pos (by omega) (by omega)
theorem sq_self (i : Nat) : sq i i = 0 := by unfold sq; rw [show i - i + (i - i) = 0 by omega]
def ScoreI (B : List Nat) (fp x sp ss : Nat) : Prop := (ss = 0 ∧ sp = 0 ∨ 0 < ss ∧ sp < x ∧ nth B sp * sq sp fp = ss) ∧ ∀ i, i < x → nth B i * sq i fp ≤ ss
theorem ScoreI.zero (B : List Nat) (fp : Nat) : ScoreI B fp 0 0 0 := ⟨.inl ⟨rfl, rfl⟩, fun i hi => by omega⟩
theorem ScoreI.up {B : List Nat} {fp x sp ss : Nat} (h : ScoreI B fp x sp ss) (hb : ss < nth B x * sq x fp) : ScoreI B fp (x + 1) x (nth B x * sq x fp) :=
  ⟨.inr ⟨by omega, by omega, rfl⟩, fun i hi => by
    rcases Nat.lt_or_ge i x with h1 | h1
    · have := h.2 i h1; omega
    · rw [show i = x by omega]; exact Nat.le_refl _⟩
theorem ScoreI.stay {B : List Nat} {fp x sp ss : Nat} (h : ScoreI B fp x sp ss) (hb : nth B x * sq x fp ≤ ss) : ScoreI B fp (x + 1) sp ss :=
  ⟨h.1.imp id fun ⟨a, b, c⟩ => ⟨a, by omega, c⟩, fun i hi => by
    rcases Nat.lt_or_ge i x with h1 | h1
    · exact h.2 i h1
    · rw [show i = x by omega]; exact hb⟩
theorem Two.le {B : List Nat} {D L cd cl : Nat} (h : Two B D L cd cl) (i : Nat) : nth B i ≤ 4000 := by
  have := h.bd
  by_cases e : i = D
  · rw [e, h.atD]; omega
  · by_cases e2 : i = L
    · rw [e2, h.atL]; omega
    · rw [h.off i e e2]; omega
theorem Two.first {B : List Nat} {D L cd cl fp fs : Nat} (h : Two B D L cd cl) (hp : PeakI B 32 fp fs) : (fp = D ∧ 1 ≤ cd ∨ fp = L) ∧ 1 ≤ fs ∧ fs ≤ 4000 ∧ fp < 32 := by
  have h1 := hp.2 L h.l32
  rw [h.atL] at h1
  have h2 := h.h1
  rcases hp.1 with ⟨a, -⟩ | ⟨a, b, c⟩
  · omega
  · have h3 := h.le fp
    refine ⟨?_, a, by omega, b⟩
    by_cases e : fp = D
    · refine .inl ⟨e, ?_⟩
      rw [e, h.atD] at c; omega
    · by_cases e2 : fp = L
      · exact .inr e2
      · rw [h.off fp e e2] at c; omega
theorem Two.second {B : List Nat} {D L cd cl fp sp ss : Nat} (h : Two B D L cd cl) (hf : fp = D ∧ 1 ≤ cd ∨ fp = L) (hs : ScoreI B fp 32 sp ss) :
    (fp = D ∧ sp = L) ∨ (fp = L ∧ (sp = D ∨ sp = 0 ∧ cd = 0)) := by
  have hl := h.l32
  have hdl := h.dl
  rcases hf with ⟨rfl, hc⟩ | rfl
  · left
    refine ⟨rfl, ?_⟩
    have h1 := hs.2 L hl
    have h2 : 0 < nth B L * sq L fp := Nat.mul_pos (by rw [h.atL]; exact h.h1) (sq_pos (by omega))
    rcases hs.1 with ⟨a, -⟩ | ⟨a, b, c⟩
    · omega
    · by_cases e : sp = L
      · exact e
      · by_cases e2 : sp = fp
        · rw [e2, sq_self, Nat.mul_zero] at c; omega
        · rw [h.off sp e2 e, Nat.zero_mul] at c; omega
  · right
    refine ⟨rfl, ?_⟩
    rcases hs.1 with ⟨a, b⟩ | ⟨a, b, c⟩
    · by_cases e : cd = 0
      · exact .inr ⟨b, e⟩
      · have h1 := hs.2 D (by omega)
        have h2 : 0 < nth B D * sq D fp := Nat.mul_pos (by rw [h.atD]; omega) (sq_pos (by omega))
        omega
    · left
      by_cases e2 : sp = fp
      · rw [e2, sq_self, Nat.mul_zero] at c; omega
      · by_cases e : sp = D
        · exact e
        · rw [h.off sp e e2, Nat.zero_mul] at c; omega
def vs (F L m x : Nat) : Nat := (x - F) * (x - F) * (L - x) * m
/-- the best valley of those looked at so far, behind x -/
def ValleyI (F L m x bv : Nat) (bs : Int) : Prop := F < bv ∧ bv < L ∧ (bs = -1 ∨ bs = (vs F L m bv : Nat)) ∧ ∀ y, x < y → y < L → ((vs F L m y : Nat) : Int) ≤ bs
theorem ValleyI.zero {F L m : Nat} (h : F + 2 ≤ L) : ValleyI F L m (L - 1) (L - 1) (-1) := ⟨by omega, by omega, .inl rfl, fun y h1 h2 => by omega⟩
theorem ValleyI.up {F L m x bv : Nat} {bs : Int} (h : ValleyI F L m (x + 1) bv bs) (h1 : F < x + 1) (h2 : x + 1 < L) (hb : bs < (vs F L m (x + 1) : Nat)) : ValleyI F L m x (x + 1) (vs F L m (x + 1) : Nat) :=
  ⟨h1, h2, .inr rfl, fun y h3 h4 => by
    rcases Nat.lt_or_ge (x + 1) y with h5 | h5
    · have := h.2.2.2 y h5 h4; omega
    · rw [show y = x + 1 by omega]; exact Int.le_refl _⟩
theorem ValleyI.stay {F L m x bv : Nat} {bs : Int} (h : ValleyI F L m (x + 1) bv bs) (hb : ((vs F L m (x + 1) : Nat) : Int) ≤ bs) : ValleyI F L m x bv bs :=
  ⟨h.1, h.2.1, h.2.2.1, fun y h3 h4 => by
    rcases Nat.lt_or_ge (x + 1) y with h5 | h5
    · exact h.2.2.2 y h5 h4
    · rw [show y = x + 1 by omega]; exact hb⟩
theorem third : ∀ L : Fin 32, 16 ≤ L.val → ∀ b : Fin 32, 24 * b.val ≤ 8 * L.val + 7 → b.val * b.val * (L.val - b.val) < (2 * L.val / 3) * (2 * L.val / 3) * (L.val - 2 * L.val / 3) := by decide +kernel
theorem Two.valley {B : List Nat} {D L cd cl F m bv : Nat} {bs : Int} (h : Two B D L cd cl) (hF : F = D ∨ F = 0 ∧ cd = 0) (hm : 1 ≤ m) (hv : ValleyI F L m F bv bs) : D < bv ∧ bv < L := by
  obtain ⟨h1, h2, h3, h4⟩ := hv
  rcases hF with rfl | ⟨rfl, -⟩
  · exact ⟨h1, h2⟩
  · refine ⟨?_, h2⟩
    rcases Nat.lt_or_ge D bv with h5 | h5
    · exact h5
    · exfalso
      have hl := h.l32
      have h16 := h.l16
      have hd := h.d3
      have hy := h4 (2 * L / 3) (by omega) (by omega)
      rcases h3 with e | e
      · omega
      · rw [e] at hy
        have hy' : vs 0 L m (2 * L / 3) ≤ vs 0 L m bv := by omega
        unfold vs at hy'
        rw [Nat.sub_zero, Nat.sub_zero] at hy'
        have ht := third ⟨L, hl⟩ h16 ⟨bv, by omega⟩ (by simp only; omega)
        simp only at ht
        have := Nat.le_of_mul_le_mul_right hy' (by omega)
        omega
theorem Two.mid {B : List Nat} {D L cd cl F x : Nat} (h : Two B D L cd cl) (hF : F = D ∨ F = 0 ∧ cd = 0) (h1 : F < x) (h2 : x < L) : nth B x = 0 := by
  by_cases e : x = D
  · rcases hF with rfl | ⟨rfl, hc⟩
    · omega
    · rw [e, h.atD, hc]
  · exact h.off x e (by omega)
theorem wrap_nat {n : Nat} (h : n ≤ 4611686018427387904) : wrap64 (n : Int) = (n : Int) := by unfold wrap64; omega
theorem wrap_neg {n : Nat} (h : n ≤ 4611686018427387904) : wrap64 (-(n : Int)) = -(n : Int) := by unfold wrap64; omega
theorem score_eq {b x p : Nat} (hb : b ≤ 4000) (hx : x ≤ 32) (hp : p ≤ 32) : wrap64 (wrap64 ((b : Int) * ((x : Int) - (p : Int))) * ((x : Int) - (p : Int))) = ((b * sq x p : Nat) : Int) := by
  rcases Nat.le_total p x with h | h
  · obtain ⟨e, rfl⟩ : ∃ e, x = p + e := ⟨x - p, by omega⟩
    have e1 : ((p + e : Nat) : Int) - (p : Int) = (e : Nat) := by omega
    have hbe : b * e ≤ 4000 * 32 := Nat.mul_le_mul hb (by omega)
    have hbee : b * e * e ≤ 4000 * 32 * 32 := Nat.mul_le_mul hbe (by omega)
    rw [e1, ← Int.natCast_mul, wrap_nat (by omega), ← Int.natCast_mul, wrap_nat (by omega)]
    unfold sq
    rw [show p + e - p + (p - (p + e)) = e by omega, Nat.mul_assoc]
  · obtain ⟨e, rfl⟩ : ∃ e, p = x + e := ⟨p - x, by omega⟩
    have e1 : (x : Int) - ((x + e : Nat) : Int) = -((e : Nat) : Int) := by omega
    have hbe : b * e ≤ 4000 * 32 := Nat.mul_le_mul hb (by omega)
    have hbee : b * e * e ≤ 4000 * 32 * 32 := Nat.mul_le_mul hbe (by omega)
    rw [e1, show (b : Int) * -((e : Nat) : Int) = -((b * e : Nat) : Int) from by rw [Int.mul_neg, Int.natCast_mul], wrap_neg (by omega), Int.neg_mul_neg, ← Int.natCast_mul, wrap_nat (by omega)]
    unfold sq
    rw [show x - (x + e) + (x + e - x) = e by omega, Nat.mul_assoc]
theorem valley_eq {F L x m : Nat} (hF : F ≤ x) (hx : x ≤ L) (hL : L ≤ 32) (hm : m ≤ 4000) :
    wrap64 (wrap64 (wrap64 (((x : Int) - (F : Int)) * ((x : Int) - (F : Int))) * ((L : Int) - (x : Int))) * (m : Int)) = ((vs F L m x : Nat) : Int) := by
  obtain ⟨e, rfl⟩ : ∃ e, x = F + e := ⟨x - F, by omega⟩
  obtain ⟨g, rfl⟩ : ∃ g, L = F + e + g := ⟨L - (F + e), by omega⟩
  have e1 : ((F + e : Nat) : Int) - (F : Int) = (e : Nat) := by omega
  have e2 : ((F + e + g : Nat) : Int) - ((F + e : Nat) : Int) = (g : Nat) := by omega
  have h1 : e * e ≤ 32 * 32 := Nat.mul_le_mul (by omega) (by omega)
  have h2 : e * e * g ≤ 32 * 32 * 32 := Nat.mul_le_mul h1 (by omega)
  have h3 : e * e * g * m ≤ 32 * 32 * 32 * 4000 := Nat.mul_le_mul h2 hm
  rw [e1, e2, ← Int.natCast_mul, wrap_nat (by omega), ← Int.natCast_mul, wrap_nat (by omega), ← Int.natCast_mul, wrap_nat (by omega)]
  unfold vs
  rw [show F + e - F = e by omega, show F + e + g - (F + e) = g by omega]
/-- counts at D and L alone, at most k each; once p, some at L -/
structure HistI (B : List Nat) (D L k : Nat) (p : Prop) : Prop where
  len : B.length = 32
  bd : nth B D ≤ k ∧ nth B L ≤ k
  off : ∀ i, i ≠ D → i ≠ L → nth B i = 0
  some_ : p → 1 ≤ nth B L
theorem HistI.zero (D L k : Nat) {p : Prop} (h : ¬ p) : HistI (List.replicate 32 0) D L k p := by
  have e : ∀ i, nth (List.replicate 32 0) i = 0 := fun i => by rw [nth_replicate, ite_self]
  exact ⟨by simp, ⟨by rw [e]; omega, by rw [e]; omega⟩, fun i _ _ => e i, fun hp => absurd hp h⟩
theorem HistI.mono {B : List Nat} {D L k k' : Nat} {p p' : Prop} (h : HistI B D L k p) (hk : k ≤ k') (hp : p' → p) : HistI B D L k' p' := ⟨h.len, ⟨Nat.le_trans h.bd.1 hk, Nat.le_trans h.bd.2 hk⟩, h.off, fun q => h.some_ (hp q)⟩
theorem HistI.put {B : List Nat} {D L k i : Nat} {p p' : Prop} (h : HistI B D L k p) (hi : i = D ∨ i = L) (hi32 : i < 32) (hp : p' → p ∨ i = L) : HistI (B.set i (nth B i + 1)) D L (k + 1) p' := by
  have hs : ∀ j, nth (B.set i (nth B i + 1)) j = if j = i then nth B i + 1 else nth B j := fun j => nth_set (by rw [h.len]; exact hi32)
  have hik : nth B i ≤ k := by rcases hi with rfl | rfl; exact h.bd.1; exact h.bd.2
  have h1 := h.bd.1
  have h2 := h.bd.2
  refine ⟨by rw [List.length_set, h.len], ⟨?_, ?_⟩, fun j hj1 hj2 => ?_, fun q => ?_⟩
  · rw [hs]; split <;> omega
  · rw [hs]; split <;> omega
  · rw [hs, if_neg (by omega)]; exact h.off j hj1 hj2
  · rw [hs]
    by_cases e : L = i
    · rw [if_pos e]; omega
    · rw [if_neg e]
      rcases hp q with h3 | h3
      · exact h.some_ h3
      · exact absurd h3.symm e
theorem HistI.two {B : List Nat} {dk lt k : Nat} {p : Prop} (h : HistI B (dk / 8) (lt / 8) k p) (hp : p) (hk : k ≤ 4000) (l1 : 128 ≤ lt) (l2 : lt ≤ 255) (d3 : 3 * dk ≤ lt) : Two B (dk / 8) (lt / 8) (nth B (dk / 8)) (nth B (lt / 8)) :=
  ⟨h.len, rfl, rfl, h.off, h.some_ hp, ⟨Nat.le_trans h.bd.1 hk, Nat.le_trans h.bd.2 hk⟩, by omega, by omega, by omega, by omega⟩
end Go.QH
