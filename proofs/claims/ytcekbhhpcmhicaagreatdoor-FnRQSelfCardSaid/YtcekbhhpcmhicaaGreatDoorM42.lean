/- The hybrid binarizer: the black points of the blocks of a picture of two grays, the dark one 0; The hybrid binarizer: the bits of one block of pixels. -/
import Derived.Test.YtcekbhhpcmhicaaGreatDoorM37
import Derived.Test.YtcekbhhpcmhicaaGreatDoorM40
import Derived.Test.YtcekbhhpcmhicaaGreatDoorM41
import Derived.Deep.DeepCutAuto
namespace Go.Proofs.YtcekbhhpcmhicaaGreatDoor
open Go.RowKit Go.QW Go.QGF Go.QH Go.QH2
/-- the first i of H rows of W numbers below M -/
structure IMk (w : World) (hb H W i : Nat) (rs : List Nat) (M : Nat) : Prop where
  len : rs.length = i
  hd : Blk w hb 138 (rowsV H W rs)
  row : ∀ j, j < i → ∃ l, Blk w (nth rs j) 3 (ints .i64 l) ∧ l.length = W ∧ ∀ k, nth l k < M
theorem IMk.kp {w w' : World} {hb H W i M : Nat} {S rs : List Nat} (h : IMk w hb H W i rs M) (hk : Kp S w w') (h1 : hb ∉ S) (h2 : ∀ j, j < i → nth rs j ∉ S) : IMk w' hb H W i rs M :=
  ⟨h.len, h.hd.kp hk h1, fun j hj => by
    obtain ⟨l, a, b, c⟩ := h.row j hj
    exact ⟨l, a.kp hk (h2 j hj), b, c⟩⟩
theorem IMk.below {w w' : World} {hb H W i M : Nat} {rs : List Nat} (h : IMk w hb H W i rs M) (hk : Below w.heap.size w w') : IMk w' hb H W i rs M :=
  ⟨h.len, h.hd.below hk h.hd.lt, fun j hj => by
    obtain ⟨l, a, b, c⟩ := h.row j hj
    exact ⟨l, a.below hk a.lt, b, c⟩⟩
theorem IMk.fresh {w w' : World} {hb H W i M G : Nat} {rs : List Nat} (h : IMk w hb H W i rs M) (hk : Kp [G] w w') (hG : w.heap.size ≤ G) : IMk w' hb H W i rs M :=
  h.kp hk (by simp; have := h.hd.lt; omega) (fun j hj => by obtain ⟨l, a, -⟩ := h.row j hj; simp; have := a.lt; omega)
/-- all rows but the last are whole; the last, in block G, holds l -/
structure IMr (w : World) (hb H W i : Nat) (rs : List Nat) (G M : Nat) (l : List Nat) : Prop where
  len : rs.length = i
  hd : Blk w hb 138 (rowsV H W (rs ++ [G]))
  row : ∀ j, j < i → nth rs j ≠ G ∧ ∃ l, Blk w (nth rs j) 3 (ints .i64 l) ∧ l.length = W ∧ ∀ k, nth l k < M
  cur : Blk w G 3 (ints .i64 l)
  lw : l.length = W
  lm : ∀ k, nth l k < M
theorem IMr.done {w : World} {hb H W i G M : Nat} {rs l : List Nat} (h : IMr w hb H W i rs G M l) : IMk w hb H W (i + 1) (rs ++ [G]) M := by
  refine ⟨by rw [List.length_append, h.len]; rfl, h.hd, fun j hj => ?_⟩
  by_cases e : j = i
  · have := nth_append_right (l := rs) (m := [G]) (i := 0)
    rw [h.len, Nat.add_zero] at this
    rw [e, this]
    exact ⟨l, h.cur, h.lw, h.lm⟩
  · rw [nth_append_left (by rw [h.len]; omega)]
    exact (h.row j (by omega)).2
theorem IMr.put {w : World} {hb H W i G M : Nat} {rs l : List Nat} (h : IMr w hb H W i rs G M l) (x v : Nat) (hv : v < M) : IMr (w.setCell ⟨G, x, none⟩ (.int .i64 (v : Nat))) hb H W i rs G M (l.set x v) := by
  have hset := h.cur.set_ x (.int .i64 (v : Nat))
  rw [ints_set] at hset
  refine ⟨h.len, h.hd.far (h.hd.ne_ h.cur (by decide)) _, fun j hj => ?_, hset, by rw [List.length_set, h.lw], fun k => ?_⟩
  · obtain ⟨a, l', b, c, d⟩ := h.row j hj
    exact ⟨a, l', b.far a _, c, d⟩
  · by_cases hx : x < l.length
    · rw [nth_set hx]
      split
      · exact hv
      · exact h.lm k
    · rw [List.set_eq_of_length_le (by omega)]; exact h.lm k
theorem IMr.drewN {w : World} {hb H W i G M : Nat} {rs l : List Nat} (h : IMr w hb H W i rs G M l) (n : Nat) : IMr (w.drewN n) hb H W i rs G M l :=
  ⟨h.len, h.hd.drewN n, fun j hj => by
    obtain ⟨a, l', b, c, d⟩ := h.row j hj
    exact ⟨a, l', b.drewN n, c, d⟩, h.cur.drewN n, h.lw, h.lm⟩
/-- a new row of zeros -/
theorem IMk.begin {w : World} {hb H W i M : Nat} {rs : List Nat} (h : IMk w hb H W i rs M) (hM : 1 ≤ M) :
    IMr ((w.setCell ⟨hb, i, none⟩ (.slice (some ⟨w.heap.size, 0, none⟩) W W)).alloc (.cells (ints .i64 (List.replicate W 0)) 3)) hb H W i rs w.heap.size M (List.replicate W 0) := by
  have h1 := h.hd.set_ i (.slice (some ⟨w.heap.size, 0, none⟩) W W)
  rw [rowsV_set _ h.len] at h1
  have hs : (w.setCell ⟨hb, i, none⟩ (.slice (some ⟨w.heap.size, 0, none⟩) W W)).heap.size = w.heap.size := by simp [World.setCell]
  have h2 := Blk.new (w.setCell ⟨hb, i, none⟩ (.slice (some ⟨w.heap.size, 0, none⟩) W W)) 3 (ints .i64 (List.replicate W 0))
  rw [hs] at h2
  refine ⟨h.len, h1.alloc _, fun j hj => ?_, h2, by simp, fun k => by rw [nth_replicate, ite_self]; exact hM⟩
  obtain ⟨l, a, b, c⟩ := h.row j hj
  refine ⟨by have := a.lt; omega, l, (a.far (a.ne_ h.hd (by decide)) _).alloc _, b, c⟩
section
variable {w : World}
set_option maxHeartbeats 16000000 in
set_option maxRecDepth 100000 in
theorem cbp_any {Y g N c W H sw sh M : Nat} {phi : Nat → Nat} (hg : Gry w g N phi) (hN : N = H * W) (_hc : N ≤ c) (hW : 40 ≤ W ∧ W ≤ 1000) (hH : 40 ≤ H ∧ H ≤ 1000) (hsw : sw = (W + 7) / 8) (hsh : sh = (H + 7) / 8) (hp : ∀ i, i < N → phi i = 0 ∨ phi i = M) (hM1 : 128 ≤ M) (hM2 : M ≤ 255) :
    Calls Tryz.prog 336 #[.pointer (some ⟨Y, 0, none⟩), .slice (some ⟨g, 0, none⟩) N c, .int .i64 sw, .int .i64 sh, .int .i64 W, .int .i64 H] w fun e w' => ∃ hb rs, e = .returned (.slice (some ⟨hb, 0, none⟩) sh sh) ∧ IMk w' hb sh sw sh rs M ∧ Below w.heap.size w w' := by
  have hN6 : N ≤ 1000000 := by rw [hN]; exact Nat.le_trans (Nat.mul_le_mul hH.2 hW.2) (by omega)
  have hswb : 1 ≤ sw ∧ sw ≤ 126 ∧ 8 * sw ≤ W + 7 ∧ W ≤ 8 * sw := by omega
  have hshb : 1 ≤ sh ∧ sh ≤ 126 ∧ 8 * sh ≤ H + 7 ∧ H ≤ 8 * sh := by omega
  have hmk := fun w => make_rows (P := Tryz.prog) (t := 268) (e := 138) sw Tryz.underlying268 (by kernel_rfl) sh (sh : Int) rfl (by omega) w
  have hmi := fun w => make_flat (P := Tryz.prog) Tryz.underlying138 int_info (by decide) sw (sw : Int) rfl (by omega) w
  have hgl := hg.1
  have HN := Lib.hid hN
  have HP := Lib.hid hp
  clear hN hsw hsh hp
  go_enter Tryz.func336, Tryz.ntmps336
  go_wp2_with fail
  clear hmk
  have hI0 : IMk (w.alloc (.cells (rowsV sh sw []) 138)) w.heap.size sh sw 0 [] M := ⟨rfl, Blk.new w _ _, fun j hj => by omega⟩
  have hb1 : Below w.heap.size w (w.alloc (.cells (rowsV sh sw []) 138)) := (Below.refl _ _).alloc (Nat.le_refl _) _
  obtain ⟨w1, hw1⟩ : ∃ w1, w1 = w.alloc (.cells (rowsV sh sw []) 138) := ⟨_, rfl⟩
  rw [← hw1] at hI0 hb1 ⊢
  clear hw1
  obtain ⟨hb, hhb⟩ : ∃ hb, hb = w.heap.size := ⟨_, rfl⟩
  rw [← hhb] at hI0 ⊢
  have hg1 := hg.below hb1 hgl
  have hz1 := hb1.size
  have hgh : g < hb := by omega
  have HHB := Lib.hid hhb
  clear hhb
  go_loopw [16] (fun t16 wr => ∃ (y : Nat) (rs : List Nat), y ≤ sh ∧ t16 = .int .i64 (y : Nat) ∧ IMk wr hb sh sw y rs M ∧ Kp [hb] w1 wr) (fun t16 _ => sh - (intOf t16).toNat)
  case atStart => exact ⟨0, [], by omega, rfl, hI0, Kp.refl _ _⟩
  case round =>
    obtain ⟨y, rs, hy, rfl, hI, hkr⟩ := hrel
    by_cases hlt : y < sh
    · have hdy : decide ((y : Int) < (sh : Int)) = true := by simp; omega
      have fh := hI.hd.frozen y
      have chd := hI.hd.cell y
      rw [rowsV_get hlt, if_neg (by rw [hI.len]; omega)] at chd
      have hbeg := hI.begin (by omega)
      have hkb : Kp [hb] w1 ((wr.setCell ⟨hb, y, none⟩ (.slice (some ⟨wr.heap.size, 0, none⟩) sw sw)).alloc (.cells (ints .i64 (List.replicate sw 0)) 3)) := (hkr.setCell (by simp) _).alloc _
      have hzr := hkr.size
      have hhl := hI.hd.lt
      go_upto_if 50 with fail
      obtain ⟨w2, hw2⟩ : ∃ w2, w2 = (wr.setCell ⟨hb, y, none⟩ (.slice (some ⟨wr.heap.size, 0, none⟩) sw sw)).alloc (.cells (ints .i64 (List.replicate sw 0)) 3) := ⟨_, rfl⟩
      rw [← hw2] at hbeg hkb ⊢
      clear hw2 fh chd
      obtain ⟨G, hG⟩ : ∃ G, G = wr.heap.size := ⟨_, rfl⟩
      rw [← hG] at hbeg ⊢
      have hGb : w1.heap.size ≤ G := by omega
      clear hG
      go_cut [17] (fun s wx => ∃ yo : Nat, yo + 8 ≤ H ∧ s = .int .i64 (yo : Nat) ∧ w2 = wx)
      case first =>
        by_cases hbr : H - 8 < 8 * y
        · have hdb : decide ((H : Int) - 8 < (y : Int) * 8) = true := by simp; omega
          go_wp2_with fail
          go_meet
          exact ⟨H - 8, by omega, by congr 1; omega, rfl⟩
        · have hdb : decide ((H : Int) - 8 < (y : Int) * 8) = false := by simp; omega
          go_wp2_with fail
          go_meet
          exact ⟨8 * y, by omega, by congr 1; omega, rfl⟩
      case rest =>
        obtain ⟨yo, hyo8, rfl, rfl⟩ := hcut
        obtain ⟨wo, rfl⟩ : ∃ wo : World, wo = wr := ⟨_, rfl⟩
        clear hI hkr hzr
        obtain ⟨a, ha⟩ : ∃ a, a = yo * W := ⟨_, rfl⟩
        have ha6 : a ≤ 1000000 := by rw [ha]; exact Nat.le_trans (Nat.mul_le_mul (show yo ≤ 1000 by omega) hW.2) (by omega)
        have hmul : wrap64 ((yo : Int) * (W : Int)) = ((a : Nat) : Int) := by rw [← Int.natCast_mul, ← ha]; exact wrap_nat (by omega)
        have HA := Lib.hid ha
        have HMUL := Lib.hid hmul
        clear ha hmul
        go_wp2_with fail
        go_loopw [18] (fun t18 wr => ∃ (x : Nat) (l : List Nat), x ≤ sw ∧ t18 = .int .i64 (x : Nat) ∧ IMr wr hb sh sw y rs G M l ∧ Kp [hb, G] w2 wr) (fun t18 _ => sw - (intOf t18).toNat)
        case atStart => exact ⟨0, _, by omega, rfl, hbeg, Kp.refl _ _⟩
        case round =>
          obtain ⟨x, l, hx, rfl, hI, hkr⟩ := hrel
          have hgr := (hg1.kp hkb (by simp; omega)).kp hkr (by simp; omega)
          by_cases hltx : x < sw
          · have hdx : decide ((x : Int) < (sw : Int)) = true := by simp; omega
            go_upto_if 61 with fail
            go_cut [19] (fun s wx => ∃ xo : Nat, xo + 8 ≤ W ∧ s = .int .i64 (xo : Nat) ∧ wr = wx)
            case first =>
              by_cases hbx : W - 8 < 8 * x
              · have hdb : decide ((W : Int) - 8 < (x : Int) * 8) = true := by simp; omega
                go_wp2_with fail
                go_meet
                exact ⟨W - 8, by omega, by congr 1; omega, rfl⟩
              · have hdb : decide ((W : Int) - 8 < (x : Int) * 8) = false := by simp; omega
                go_wp2_with fail
                go_meet
                exact ⟨8 * x, by omega, by congr 1; omega, rfl⟩
            case rest =>
              obtain ⟨xo, hxo8, rfl, rfl⟩ := hcut
              go_wp2_with fail
              obtain ⟨o0, ho0⟩ : ∃ o0, o0 = a + xo := ⟨_, rfl⟩
              rw [show wrap64 (wrap64 ((yo : Int) * (W : Int)) + (xo : Int)) = ((o0 : Nat) : Int) from by rw [HMUL.out, show (a : Int) + (xo : Int) = ((o0 : Nat) : Int) by omega]; exact wrap_nat (by omega)]
              have ho6 : o0 ≤ 1001000 := by omega
              have hidx : ∀ yy, yy < 8 → ∀ xx, xx < 8 → o0 + yy * W + xx < N := fun yy hyy xx hxx => by
                have h1 : (yo + yy + 1) * W ≤ H * W := Nat.mul_le_mul_right _ (by omega)
                rw [← HN.out, Nat.succ_mul, Nat.add_mul, ← HA.out] at h1
                omega
              have HIX := Lib.hid hidx
              have HPX : Hid (∀ k, k < N → (phi k = 0 ∨ phi k = M) ∧ wr.cell? ⟨g, k, none⟩ = some (.int .u8 (phi k : Nat))) := Lib.hid (fun k hk => ⟨HP.out k hk, hgr.2 k hk⟩)
              clear ho0 hidx
              go_loop [20, 21, 22, 23, 24] (fun t20 t21 t22 t23 t24 => ∃ (yy o sum mn mx : Nat), yy ≤ 9 ∧ o ≤ 1001000 + 1000 * yy ∧ sum ≤ 16320 ∧ mn ≤ 255 ∧ mx ≤ 255 ∧ t20 = .int .i64 (sum : Nat) ∧ t21 = .int .i64 (mn : Nat) ∧ t22 = .int .i64 (mx : Nat) ∧ t23 = .int .i64 (yy : Nat) ∧ t24 = .int .i64 (o : Nat) ∧ Hid ((yy ≤ 8 → o = o0 + yy * W) ∧ Sm M (min (8 * yy) 64) sum mn mx)) (fun _ _ _ t23 _ => 9 - (intOf t23).toNat)
              case atStart => exact ⟨0, o0, 0, 255, 0, by omega, by omega, by omega, by omega, by omega, rfl, rfl, rfl, rfl, rfl, Lib.hid ⟨fun _ => by omega, Sm.zero M⟩⟩
              case round =>
                obtain ⟨yy, o, sum, mn, mx, hyy, ho, hsum, hmn, hmx, rfl, rfl, rfl, rfl, rfl, HS⟩ := hrel
                by_cases hlt8 : yy < 8
                · have hd8 : decide ((yy : Int) < 8) = true := by simp; omega
                  have hoe := HS.out.1 (by omega)
                  have HS0 : Hid (Sm M (8 * yy + 0) sum mn mx) := Lib.hid (by have := HS.out.2; rw [Nat.min_eq_left (by omega)] at this; exact this)
                  have HO : Hid (∀ xx, xx < 8 → o + xx < N) := Lib.hid (fun xx hxx => by rw [hoe]; exact HIX.out yy hlt8 xx hxx)
                  have HOE := Lib.hid hoe
                  clear hoe HS
                  go_wp2_with fail
                  go_loop [20, 21, 22, 25] (fun t20 t21 t22 t25 => ∃ (xx sum mn mx : Nat), xx ≤ 8 ∧ sum ≤ 16320 ∧ mn ≤ 255 ∧ mx ≤ 255 ∧ t20 = .int .i64 (sum : Nat) ∧ t21 = .int .i64 (mn : Nat) ∧ t22 = .int .i64 (mx : Nat) ∧ t25 = .int .i64 (xx : Nat) ∧ Hid (Sm M (8 * yy + xx) sum mn mx)) (fun _ _ _ t25 => 8 - (intOf t25).toNat)
                  case atStart => exact ⟨0, sum, mn, mx, by omega, hsum, hmn, hmx, rfl, rfl, rfl, rfl, HS0⟩
                  case round =>
                    clear hsum hmn hmx HS0
                    obtain ⟨xx, sum, mn, mx, hxx, hsum, hmn, hmx, rfl, rfl, rfl, rfl, HS⟩ := hrel
                    by_cases hltx8 : xx < 8
                    · have hdx8 : decide ((xx : Int) < 8) = true := by simp; omega
                      have hoN := HO.out xx hltx8
                      obtain ⟨hp01, cp⟩ := HPX.out (o + xx) hoN
                      obtain ⟨p, hpe⟩ : ∃ p, p = phi (o + xx) := ⟨_, rfl⟩
                      rw [← hpe] at hp01 cp
                      have hp256 : p < 256 := by omega
                      have hand := u8_and255 p hp256
                      have hst := HS.out.step hM1 hM2 hp01
                      have hle := hst.le hM2 (by omega)
                      have h1 : (p < mn ∧ (if p < mn then p else mn) = p) ∨ (mn ≤ p ∧ (if p < mn then p else mn) = mn) := by
                        by_cases c : p < mn
                        · exact .inl ⟨c, if_pos c⟩
                        · exact .inr ⟨by omega, if_neg c⟩
                      have h2 : (mx < p ∧ (if mx < p then p else mx) = p) ∨ (p ≤ mx ∧ (if mx < p then p else mx) = mx) := by
                        by_cases c : mx < p
                        · exact .inl ⟨c, if_pos c⟩
                        · exact .inr ⟨by omega, if_neg c⟩
                      clear hpe hp01
                      rcases h1 with ⟨d1, e1⟩ | ⟨d1, e1⟩
                      all_goals
                        rcases h2 with ⟨d2, e2⟩ | ⟨d2, e2⟩
                        all_goals
                          rw [e1, e2] at hst hle
                          have HST := Lib.hid hst
                          have HLE := Lib.hid hle
                          clear hst hle e1 e2
                          go_wp2_with fail
                          go_round
                          case rel => exact ⟨xx + 1, sum + p, _, _, by omega, HLE.out.1, HLE.out.2.1, HLE.out.2.2, by go_num, rfl, rfl, by go_num, HST⟩
                          case measure => simp [intOf]; omega
                    · have hdx8 : decide ((xx : Int) < 8) = false := by simp; omega
                      obtain rfl : xx = 8 := by omega
                      by_cases hdiff : mn + 24 < mx
                      · obtain ⟨hmn0, hmxM⟩ := HS.out.apart hdiff
                        subst hmn0 hmxM
                        have hdd : decide ((24 : Int) < (mx : Int)) = true := by simp; omega
                        have hdd2 : decide ((24 : Int) < (mx : Int) - 0) = true := by simp; omega
                        have HS1 : Hid (Sm mx (8 * (yy + 1)) sum 0 mx) := Lib.hid (by have := HS.out; rw [show 8 * yy + 8 = 8 * (yy + 1) by omega] at this; exact this)
                        have HO1 : Hid (o + W = o0 + (yy + 1) * W) := Lib.hid (by rw [HOE.out, Nat.succ_mul]; omega)
                        clear HS HO HOE
                        go_wp2_with fail
                        go_loop [20, 23, 24] (fun t20 t23 t24 => ∃ (yz o sum : Nat), yz ≤ 8 ∧ o ≤ 1001000 + 1000 * yz ∧ sum ≤ 16320 ∧ t20 = .int .i64 (sum : Nat) ∧ t23 = .int .i64 (yz : Nat) ∧ t24 = .int .i64 (o : Nat) ∧ Hid (o = o0 + yz * W ∧ Sm mx (8 * yz) sum 0 mx)) (fun _ t23 _ => 8 - (intOf t23).toNat)
                        case atStart => exact ⟨yy + 1, o + W, sum, by omega, by omega, hsum, rfl, by go_num, by go_num, Lib.hid ⟨HO1.out, HS1.out⟩⟩
                        case round =>
                          clear hsum HS1 HO1 ho
                          obtain ⟨yz, o, sum, hyz, ho, hsum, rfl, rfl, rfl, HS⟩ := hrel
                          by_cases hlz : yz < 8
                          · have hdz : decide ((yz : Int) < 8) = true := by simp; omega
                            have HO : Hid (∀ xx, xx < 8 → o + xx < N) := Lib.hid (fun xx hxx => by rw [HS.out.1]; exact HIX.out yz hlz xx hxx)
                            have HS0 : Hid (Sm mx (8 * yz + 0) sum 0 mx) := Lib.hid HS.out.2
                            have HO1 : Hid (o + W = o0 + (yz + 1) * W) := Lib.hid (by rw [HS.out.1, Nat.succ_mul]; omega)
                            clear HS
                            go_wp2_with fail
                            go_loop [20, 27] (fun t20 t27 => ∃ (xx sum : Nat), xx ≤ 8 ∧ sum ≤ 16320 ∧ t20 = .int .i64 (sum : Nat) ∧ t27 = .int .i64 (xx : Nat) ∧ Hid (Sm mx (8 * yz + xx) sum 0 mx)) (fun _ t27 => 8 - (intOf t27).toNat)
                            case atStart => exact ⟨0, sum, by omega, hsum, rfl, rfl, HS0⟩
                            case round =>
                              clear hsum HS0
                              obtain ⟨xx, sum, hxx, hsum, rfl, rfl, HS⟩ := hrel
                              by_cases hlx : xx < 8
                              · have hdx8 : decide ((xx : Int) < 8) = true := by simp; omega
                                have hoN := HO.out xx hlx
                                obtain ⟨hp01, cp⟩ := HPX.out (o + xx) hoN
                                obtain ⟨p, hpe⟩ : ∃ p, p = phi (o + xx) := ⟨_, rfl⟩
                                rw [← hpe] at hp01 cp
                                have hp256 : p < 256 := by omega
                                have hand := u8_and255 p hp256
                                have hst := HS.out.quick hp01
                                have hle := (hst.le hM2 (by omega)).1
                                have HST := Lib.hid hst
                                clear hpe hp01 hst
                                go_wp2_with fail
                                go_round
                                case rel => exact ⟨xx + 1, sum + p, by omega, hle, by go_num, by go_num, HST⟩
                                case measure => simp [intOf]; omega
                              · have hdx8 : decide ((xx : Int) < 8) = false := by simp; omega
                                obtain rfl : xx = 8 := by omega
                                have HS1 : Hid (Sm mx (8 * (yz + 1)) sum 0 mx) := Lib.hid (by have := HS.out; rw [show 8 * yz + 8 = 8 * (yz + 1) by omega] at this; exact this)
                                go_wp2_with fail
                                go_round
                                case rel => exact ⟨yz + 1, o + W, sum, by omega, by omega, hsum, rfl, by go_num, by go_num, Lib.hid ⟨HO1.out, HS1.out⟩⟩
                                case measure => simp [intOf]; omega
                          · have hdz : decide ((yz : Int) < 8) = false := by simp; omega
                            obtain rfl : yz = 8 := by omega
                            have HS2 : Hid (Sm mx 64 sum 0 mx) := Lib.hid HS.out.2
                            go_wp2_with fail
                            go_round
                            case rel => exact ⟨9, o + W, sum, 0, mx, by omega, by omega, hsum, by omega, by omega, rfl, rfl, rfl, rfl, by go_num, Lib.hid ⟨fun h => by omega, HS2.out⟩⟩
                            case measure => simp [intOf]; omega
                      · have hdd : decide ((24 : Int) < (mx : Int) - (mn : Int)) = false := by simp; omega
                        have HS1 : Hid (Sm M (min (8 * (yy + 1)) 64) sum mn mx) := Lib.hid (by have := HS.out; rw [Nat.min_eq_left (by omega), show 8 * (yy + 1) = 8 * yy + 8 by omega]; exact this)
                        have HO1 : Hid (o + W = o0 + (yy + 1) * W) := Lib.hid (by rw [HOE.out, Nat.succ_mul]; omega)
                        go_wp2_with fail
                        go_round
                        case rel => exact ⟨yy + 1, o + W, sum, mn, mx, by omega, by omega, hsum, hmn, hmx, rfl, rfl, rfl, by go_num, by go_num, Lib.hid ⟨fun _ => HO1.out, HS1.out⟩⟩
                        case measure => simp [intOf]; omega
                · have hd8 : decide ((yy : Int) < 8) = false := by simp; omega
                  have hS : Sm M 64 sum mn mx := by have := HS.out.2; rw [Nat.min_eq_right (by omega)] at this; exact this
                  have hsI : (sum : Int) / 64 = ((sum / 64 : Nat) : Int) := rfl
                  have hmI : (mn : Int) / 2 = ((mn / 2 : Nat) : Int) := rfl
                  obtain ⟨av, hav⟩ : ∃ av, av = sum / 64 := ⟨_, rfl⟩
                  obtain ⟨mh, hmh⟩ : ∃ mh, mh = mn / 2 := ⟨_, rfl⟩
                  rw [← hav] at hsI
                  rw [← hmh] at hmI
                  have hmhM : mh < M := by rw [hmh]; exact hS.half hM1
                  have hav' : mn + 24 < mx → av < M := fun h => by rw [hav]; exact hS.avg (by omega) h
                  have chb := hI.hd.cell y
                  rw [rowsV_get hlt, if_pos (by rw [List.length_append, hI.len, List.length_singleton]; omega), show nth (rs ++ [G]) y = G by have := nth_append_right (l := rs) (m := [G]) (i := 0); rw [hI.len, Nat.add_zero] at this; rw [this]; rfl] at chb
                  have cG := hI.cur.cell x
                  rw [ints_get (by rw [hI.lw]; exact hltx)] at cG
                  have fG := hI.cur.frozen x
                  obtain ⟨zz, hzz⟩ : ∃ zz, zz = nth l x := ⟨_, rfl⟩
                  rw [← hzz] at cG
                  have HI := Lib.hid hI
                  have HAV := Lib.hid hav'
                  clear HS ho hS hav hmh hav' hzz hI hsum
                  by_cases hdiff : mn + 24 < mx
                  · have hdd : decide ((mx : Int) - (mn : Int) ≤ 24) = false := by simp; omega
                    have hput := HI.out.put x av (HAV.out hdiff)
                    have HPUT := Lib.hid hput
                    clear hput
                    go_wp2_with fail
                    go_roundw
                    case rel => exact ⟨x + 1, _, by omega, by go_num, HPUT.out, hkr.setCell (by simp) _⟩
                    case measure => simp [intOf]; omega
                  · have hdd : decide ((mx : Int) - (mn : Int) ≤ 24) = true := by simp; omega
                    by_cases h0 : 0 < y ∧ 0 < x
                    · have hdy0 : decide ((0 : Int) < (y : Int)) = true := by simp; omega
                      have hdx0 : decide ((0 : Int) < (x : Int)) = true := by simp; omega
                      obtain ⟨hne1, l1, hl1, hl1w, hl1m⟩ := HI.out.row (y - 1) (by omega)
                      have ch1 := HI.out.hd.cell (y - 1)
                      rw [rowsV_get (by omega), if_pos (by rw [List.length_append, HI.out.len, List.length_singleton]; omega), nth_append_left (by rw [HI.out.len]; omega)] at ch1
                      obtain ⟨G1, hG1⟩ : ∃ G1, G1 = nth rs (y - 1) := ⟨_, rfl⟩
                      rw [← hG1] at ch1 hl1
                      have n1 := hl1.cell x
                      have n2 := HI.out.cur.cell (x - 1)
                      have n3 := hl1.cell (x - 1)
                      rw [ints_get (by rw [hl1w]; omega)] at n1 n3
                      rw [ints_get (by rw [HI.out.lw]; omega)] at n2
                      have m1 := hl1m x
                      have m2 := HI.out.lm (x - 1)
                      have m3 := hl1m (x - 1)
                      obtain ⟨u1, hu1⟩ : ∃ u, u = nth l1 x := ⟨_, rfl⟩
                      obtain ⟨u2, hu2⟩ : ∃ u, u = nth l (x - 1) := ⟨_, rfl⟩
                      obtain ⟨u3, hu3⟩ : ∃ u, u = nth l1 (x - 1) := ⟨_, rfl⟩
                      rw [← hu1] at n1 m1
                      rw [← hu2] at n2 m2
                      rw [← hu3] at n3 m3
                      clear hu1 hu2 hu3 hG1 hl1 hl1m hne1
                      go_wp2_with fail
                      go_quiet (fail)
                      obtain ⟨nv, hnv⟩ : ∃ nv : Nat, ((u1 : Int) + 2 * (u2 : Int) + (u3 : Int)) / 4 = (nv : Int) := ⟨(u1 + 2 * u2 + u3) / 4, by omega⟩
                      rw [hnv]
                      have hnvM : nv < M := by omega
                      have HPN := Lib.hid ((HI.out.drewN nq).put x nv hnvM)
                      have HPM := Lib.hid ((HI.out.drewN nq).put x mh hmhM)
                      clear hnv n1 n2 n3 m1 m2 m3 ch1
                      by_cases hb2 : mn < nv
                      · have hdb2 : decide ((mn : Int) < (nv : Int)) = true := by simp; omega
                        go_wp2_with fail
                        go_roundw
                        case rel => exact ⟨x + 1, _, by omega, by go_num, HPN.out, (hkr.drewN _).setCell (by simp) _⟩
                        case measure => simp [intOf]; omega
                      · have hdb2 : decide ((mn : Int) < (nv : Int)) = false := by simp; omega
                        go_wp2_with fail
                        go_roundw
                        case rel => exact ⟨x + 1, _, by omega, by go_num, HPM.out, (hkr.drewN _).setCell (by simp) _⟩
                        case measure => simp [intOf]; omega
                    · have HPM := Lib.hid (HI.out.put x mh hmhM)
                      by_cases hy0 : 0 < y
                      · have hdy0 : decide ((0 : Int) < (y : Int)) = true := by simp; omega
                        have hdx0 : decide ((0 : Int) < (x : Int)) = false := by simp; omega
                        go_wp2_with fail
                        go_roundw
                        case rel => exact ⟨x + 1, _, by omega, by go_num, HPM.out, hkr.setCell (by simp) _⟩
                        case measure => simp [intOf]; omega
                      · have hdy0 : decide ((0 : Int) < (y : Int)) = false := by simp; omega
                        go_wp2_with fail
                        go_roundw
                        case rel => exact ⟨x + 1, _, by omega, by go_num, HPM.out, hkr.setCell (by simp) _⟩
                        case measure => simp [intOf]; omega
          · have hdx : decide ((x : Int) < (sw : Int)) = false := by simp; omega
            have hI' := hI.done
            have hk2 : Kp [hb] w1 wr := hkb.trans hkr (by intro q hq hl; simp at hq ⊢; omega)
            go_wp2_with fail
            go_roundw
            case rel => exact ⟨y + 1, rs ++ [G], by omega, by go_num, hI', hk2⟩
            case measure => simp [intOf]; omega
    · have hdy : decide ((y : Int) < (sh : Int)) = false := by simp; omega
      obtain rfl : y = sh := by omega
      go_wp2_with fail
      go_ret
      exact ⟨hb, rs, rfl, hI, below_of_kp hb1 hkr hz1 (by intro q hq; simp at hq; have := HHB.out; omega)⟩
end
end Go.Proofs.YtcekbhhpcmhicaaGreatDoor
namespace Go.Proofs.YtcekbhhpcmhicaaGreatDoor
open Go.RowKit Go.QW Go.QGF Go.QH Go.QH2
/-- painted: of the block at yo, xo the first i rows, and j pixels of the next -/
def blkK (yo xo i j : Nat) (F0 F : Nat → Nat → Bool) : Nat → Nat → Bool := fun Y X => F0 Y X || (decide (yo ≤ Y ∧ xo ≤ X ∧ X < xo + 8 ∧ (Y < yo + i ∨ (Y = yo + i ∧ X < xo + j))) && F Y X)
theorem blkK_zero {yo xo : Nat} {F0 F : Nat → Nat → Bool} (Y X : Nat) : F0 Y X = blkK yo xo 0 0 F0 F Y X := by
  unfold blkK
  rw [decide_eq_false (by omega), Bool.false_and, Bool.or_false]
theorem blkK_set {yo xo i j : Nat} {F0 F : Nat → Nat → Bool} (hj : j < 8) (h : F (yo + i) (xo + j) = true) (Y X : Nat) : (if Y = yo + i ∧ X = xo + j then true else blkK yo xo i j F0 F Y X) = blkK yo xo i (j + 1) F0 F Y X := by
  unfold blkK
  by_cases c : Y = yo + i ∧ X = xo + j
  · obtain ⟨rfl, rfl⟩ := c
    rw [if_pos ⟨rfl, rfl⟩, h, decide_eq_true (by omega), Bool.true_and, Bool.or_true]
  · rw [if_neg c]
    congr 2
    rw [decide_eq_decide]
    omega
theorem blkK_skip {yo xo i j : Nat} {F0 F : Nat → Nat → Bool} (h : F (yo + i) (xo + j) = false) (Y X : Nat) : blkK yo xo i j F0 F Y X = blkK yo xo i (j + 1) F0 F Y X := by
  unfold blkK
  by_cases c : Y = yo + i ∧ X = xo + j
  · obtain ⟨rfl, rfl⟩ := c
    rw [h, Bool.and_false, Bool.and_false]
  · congr 2
    rw [decide_eq_decide]
    omega
theorem blkK_row {yo xo i : Nat} {F0 F : Nat → Nat → Bool} (Y X : Nat) : blkK yo xo i 8 F0 F Y X = blkK yo xo (i + 1) 0 F0 F Y X := by
  unfold blkK
  congr 2
  rw [decide_eq_decide]
  omega
section
variable {w : World}
theorem cap_any {Y : Nat} (v mx : Nat) {x : Int} (hx : x = mx) (h2 : 2 ≤ mx) : Calls Tryz.prog 338 #[.pointer (some ⟨Y, 0, none⟩), .int .i64 v, .int .i64 2, .int .i64 x] w fun e w' => ∃ r : Nat, 2 ≤ r ∧ r ≤ mx ∧ e = .returned (.int .i64 r) ∧ w = w' := by
  subst hx
  by_cases h : v < 2
  · have d1 : decide ((v : Int) < 2) = true := by simp; omega
    go_enter Tryz.func338, Tryz.ntmps338
    go_wp2_with fail
    go_ret
    exact ⟨2, by omega, h2, rfl, rfl⟩
  · have d1 : decide ((v : Int) < 2) = false := by simp; omega
    by_cases h3 : mx < v
    · have d2 : decide ((mx : Int) < (v : Int)) = true := by simp; omega
      go_enter Tryz.func338, Tryz.ntmps338
      go_wp2_with fail
      go_ret
      exact ⟨mx, h2, Nat.le_refl _, rfl, rfl⟩
    · have d2 : decide ((mx : Int) < (v : Int)) = false := by simp; omega
      go_enter Tryz.func338, Tryz.ntmps338
      go_wp2_with fail
      go_ret
      exact ⟨v, by omega, by omega, rfl, rfl⟩
set_option maxHeartbeats 8000000 in
set_option maxRecDepth 100000 in
theorem thr_any {Y g N c A ga W H xo yo th M : Nat} {phi : Nat → Nat} {F0 F : Nat → Nat → Bool} (hA : BX w A ga W H F0) (hg : Gry w g N phi) (hN : N = H * W) (hW : 40 ≤ W ∧ W ≤ 1000) (hH : 40 ≤ H ∧ H ≤ 1000) (hne : g ≠ ga) (hp : Grays F W H 0 M phi) (hx : xo + 8 ≤ W) (hy : yo + 8 ≤ H) (hth : th < M) :
    Calls Tryz.prog 339 #[.pointer (some ⟨Y, 0, none⟩), .slice (some ⟨g, 0, none⟩) N c, .int .i64 xo, .int .i64 yo, .int .i64 th, .int .i64 W, .pointer (some ⟨A, 0, none⟩)] w fun e w' => e = .returned (.tuple #[]) ∧ BX w' A ga W H (blkK yo xo 8 0 F0 F) ∧ Kp [ga] w w' := by
  have hN6 : N ≤ 1000000 := by rw [hN]; exact Nat.le_trans (Nat.mul_le_mul hH.2 hW.2) (by omega)
  obtain ⟨a, ha⟩ : ∃ a, a = yo * W := ⟨_, rfl⟩
  have ha6 : a ≤ 1000000 := by rw [ha]; exact Nat.le_trans (Nat.mul_le_mul (show yo ≤ 1000 by omega) hW.2) (by omega)
  have hmul : wrap64 ((yo : Int) * (W : Int)) = ((a : Nat) : Int) := by rw [← Int.natCast_mul, ← ha]; exact wrap_nat (by omega)
  have HA := Lib.hid ha
  have HN := Lib.hid hN
  have HMUL := Lib.hid hmul
  have hl2 := hp.l2
  have hl1 := hp.l1
  clear ha hmul hN
  go_enter Tryz.func339, Tryz.ntmps339
  go_wp2_with fail
  obtain ⟨o0, ho0⟩ : ∃ o0, o0 = a + xo := ⟨_, rfl⟩
  rw [show wrap64 (wrap64 ((yo : Int) * (W : Int)) + (xo : Int)) = ((o0 : Nat) : Int) from by rw [HMUL.out, show (a : Int) + (xo : Int) = ((o0 : Nat) : Int) by omega]; exact wrap_nat (by omega)]
  have ho6 : o0 ≤ 1001000 := by omega
  have HO0 := Lib.hid ho0
  clear ho0
  go_loopw [14, 15] (fun t14 t15 wr => ∃ i o : Nat, i ≤ 8 ∧ o ≤ 1001000 + 1000 * i ∧ t14 = .int .i64 (i : Nat) ∧ t15 = .int .i64 (o : Nat) ∧ Hid (o = (yo + i) * W + xo) ∧ BX wr A ga W H (blkK yo xo i 0 F0 F) ∧ Kp [ga] w wr) (fun t14 _ _ => 8 - (intOf t14).toNat)
  case atStart => exact ⟨0, o0, by omega, by omega, rfl, rfl, Lib.hid (by rw [HO0.out, HA.out, Nat.add_zero]), hA.congr blkK_zero, Kp.refl _ _⟩
  case round =>
    obtain ⟨i, o, hi, ho, rfl, rfl, HO, hM, hk⟩ := hrel
    by_cases hlt : i < 8
    · have hdi : decide ((i : Int) < 8) = true := by simp; omega
      go_wp2_with fail
      obtain ⟨wo, rfl⟩ : ∃ wo : World, wo = wr := ⟨_, rfl⟩
      go_loopw [16] (fun t16 wr => ∃ j : Nat, j ≤ 8 ∧ t16 = .int .i64 (j : Nat) ∧ BX wr A ga W H (blkK yo xo i j F0 F) ∧ Kp [ga] w wr) (fun t16 _ => 8 - (intOf t16).toNat)
      case atStart => exact ⟨0, by omega, rfl, hM, hk⟩
      case round =>
        obtain ⟨j, hj, rfl, hM, hk⟩ := hrel
        by_cases hlt2 : j < 8
        · have hdj : decide ((j : Int) < 8) = true := by simp; omega
          have hpx := hp.px (yo + i) (xo + j) (by omega) (by omega)
          have hoN : o + j < N := by
            have h1 : (yo + i + 1) * W ≤ H * W := Nat.mul_le_mul_right _ (by omega)
            rw [← HN.out, Nat.succ_mul] at h1
            have := HO.out
            omega
          have cg := (hg.kp hk (by simpa using hne)).2 (o + j) hoN
          rw [← Nat.add_assoc, ← HO.out] at hpx
          cases hv : F (yo + i) (xo + j) with
          | true =>
            rw [hpx, hv] at cg
            have cg' : wr.cell? ⟨g, o + j, none⟩ = some (.int .u8 0) := cg
            have hand : bits .and .u8 0 255 = 0 := u8_and255 0 (by omega)
            have hdb : decide ((0 : Int) ≤ (th : Int)) = true := by simp
            have HV := Lib.hid hv
            clear hv cg hpx
            go_wp2_with fail
            refine (bxset_any (xo + j) (yo + i) hM (by omega) (by omega) (by omega) (by omega)).mono ?_
            rintro e w6 ⟨rfl, hM6, hk6⟩
            go_wp2_with fail
            go_roundw
            case rel => exact ⟨j + 1, by omega, by go_num, hM6.congr (fun Y X => blkK_set hlt2 HV.out Y X), hk.trans hk6 (by intro a ha _; exact ha)⟩
            case measure => simp [intOf]; omega
          | false =>
            rw [hpx, hv] at cg
            have cg' : wr.cell? ⟨g, o + j, none⟩ = some (.int .u8 (M : Nat)) := cg
            have hand := u8_and255 M (by omega)
            have hdb : decide ((M : Int) ≤ (th : Int)) = false := by simp; omega
            have HV := Lib.hid hv
            clear hv cg hpx
            go_wp2_with fail
            go_roundw
            case rel => exact ⟨j + 1, by omega, by go_num, hM.congr (fun Y X => blkK_skip HV.out Y X), hk⟩
            case measure => simp [intOf]; omega
        · have hdj : decide ((j : Int) < 8) = false := by simp; omega
          have hje : j = 8 := by omega
          have hM' : BX wr A ga W H (blkK yo xo (i + 1) 0 F0 F) := hM.congr (fun Y X => by rw [hje]; exact blkK_row Y X)
          have HO2 : Hid (o + W = (yo + (i + 1)) * W + xo) := Lib.hid (by rw [HO.out, ← Nat.add_assoc, Nat.succ_mul]; omega)
          clear hje
          go_wp2_with fail
          go_roundw
          case rel => exact ⟨i + 1, o + W, by omega, by omega, by go_num, by go_num, HO2, hM', hk⟩
          case measure => simp [intOf]; omega
    · have hdi : decide ((i : Int) < 8) = false := by simp; omega
      obtain rfl : i = 8 := by omega
      go_wp2_with fail
      go_end0
      exact ⟨rfl, hM, hk⟩
end
end Go.Proofs.YtcekbhhpcmhicaaGreatDoor
