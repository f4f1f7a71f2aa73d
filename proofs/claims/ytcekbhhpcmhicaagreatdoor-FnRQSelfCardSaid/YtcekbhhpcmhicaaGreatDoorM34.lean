/- impl.QREncode: the walk; The law's own text: qrAscii, QRAlphaByte, qrLevel, qrName; The law: qrAscii, FnQRSelf. Printed by law2.py; The law FnQRSelf: it answers true. -/
import Derived.Test.YtcekbhhpcmhicaaGreatDoorM33
import Derived.Maps.OwnOps
namespace Go.Proofs.YtcekbhhpcmhicaaGreatDoor
open Go.RowKit Go.QW Go.QGF Go.QI Go.QM Go.QV Go.QZ
theorem rank_surj {R q m ec i : Nat} (hR : 1 ≤ R) (hm : m < R) (hi : i < q * R + m + ec * R) : ∃ j p, j < R ∧ p < dl R q m j + ec ∧ rank R q m j p = i := by
  rcases Nat.lt_or_ge i (q * R) with h1 | h1
  · have hp : i / R < q := Nat.div_lt_of_lt_mul (by rw [Nat.mul_comm]; exact h1)
    refine ⟨i % R, i / R, Nat.mod_lt _ (by omega), ?_, ?_⟩
    · rcases dl_cases R q m (i % R) with ⟨_, e⟩ | ⟨_, e⟩ <;> rw [e] <;> omega
    · rw [rank1 hp, Nat.mul_comm]; exact Nat.div_add_mod i R
  · rcases Nat.lt_or_ge i (q * R + m) with h2 | h2
    · refine ⟨R - m + (i - q * R), q, by omega, ?_, ?_⟩
      · rcases dl_cases R q m (R - m + (i - q * R)) with ⟨_, e⟩ | ⟨_, e⟩ <;> rw [e] <;> omega
      · rw [rank2 (by omega)]; omega
    · have hce := Nat.mul_comm R ec
      have hk : (i - (q * R + m)) / R < ec := Nat.div_lt_of_lt_mul (by omega)
      refine ⟨(i - (q * R + m)) % R, dl R q m ((i - (q * R + m)) % R) + (i - (q * R + m)) / R, Nat.mod_lt _ (by omega), by omega, ?_⟩
      rw [rank3]
      have hdm := Nat.div_add_mod (i - (q * R + m)) R
      have hcm := Nat.mul_comm R ((i - (q * R + m)) / R)
      omega
theorem cw_lt {v l : Nat} {bs : List Bool} {cw : List Nat} {es : Nat → List Nat} (h : CwOk v l bs cw es) (h1 : 1 ≤ v) (h27 : v ≤ 27) (hl : l ≤ 3) : ∀ i, nth cw i < 256 := by
  intro i
  have hsh := shape_of v l h1 h27 hl
  have ok := lv_ok v l h1 (by omega) hl
  rcases Nat.lt_or_ge i cw.length with hi | hi
  · rw [h.len] at hi
    have hN : dataB v l = total v - (lv v l).1 * numB (lv v l).2 := rfl
    have hqN : dataB v l = dataB v l / numB (lv v l).2 * numB (lv v l).2 + dataB v l % numB (lv v l).2 := by rw [Nat.mul_comm]; exact (Nat.div_add_mod _ _).symm
    have hf := ok.fits
    obtain ⟨j, p, hj, hp, hr⟩ := rank_surj (ec := (lv v l).1) hsh.R1 hsh.m1 (by rw [← hqN]; omega : i < dataB v l / numB (lv v l).2 * numB (lv v l).2 + dataB v l % numB (lv v l).2 + (lv v l).1 * numB (lv v l).2)
    rw [← hr, h.at_ j p hj hp]
    obtain ⟨e1, e2, -⟩ := h.ec j hj
    rcases Nat.lt_or_ge p (dl (numB (lv v l).2) (dataB v l / numB (lv v l).2) (dataB v l % numB (lv v l).2) j) with h2 | h2
    · rw [nth_append_left (by rw [datOf_length]; exact h2)]
      unfold datOf
      rw [nth_tab h2]
      exact byteAt_lt _ _
    · obtain ⟨x, rfl⟩ : ∃ x, p = (datOf (numB (lv v l).2) (dataB v l / numB (lv v l).2) (dataB v l % numB (lv v l).2) bs j).length + x := ⟨p - (datOf (numB (lv v l).2) (dataB v l / numB (lv v l).2) (dataB v l % numB (lv v l).2) bs j).length, by rw [datOf_length]; omega⟩
      rw [nth_append_right]
      rw [datOf_length] at hp
      have hx : x < (es j).length := by rw [e1]; omega
      rw [nth_get hx]
      exact e2 _ (List.getElem_mem hx)
  · rw [nth_ge hi]; decide
theorem RowsS.pushAll {w0 w4 w5 : World} {B O v k l m d i G : Nat} {a : Option Addr} {ln c : Nat} {mv : Value} {rs : List Nat} {f : Cells} (h : RowsS w0 w4 B O v k l m d i mv rs f) (hG : Blk w4 G 4 (bools d (fB f i)))
    (hown : w5.ownsRow 0 42 1 (.slice a ln c) (i + 1) ((rs.map fun r : Nat => Value.slice (some ⟨r, 0, none⟩) d d) ++ [.slice (some ⟨G, 0, none⟩) d d])) (hk : Kp mv.ownBlock.toList (w4.alloc (.cells #[.slice (some ⟨G, 0, none⟩) d d] 42)) w5)
    (hv : (Value.slice a ln c).ownBlock = mv.ownBlock ∨ (Value.slice a ln c).ownBlock = some (w4.alloc (.cells #[.slice (some ⟨G, 0, none⟩) d d] 42)).heap.size) :
    w5.cell? ⟨O, 4, none⟩ = some mv ∧ w5.frozen? ⟨O, 4, none⟩ = false ∧ Hid (RowsS w0 (w5.setCell ⟨O, 4, none⟩ (.slice a ln c)) B O v k l m d (i + 1) (.slice a ln c) (rs ++ [G]) f) := by
  have hO6 := (h.out.alloc (.cells #[.slice (some ⟨G, 0, none⟩) d d] 42)).kp hk (own_ne h.own h.out (by decide))
  exact ⟨hO6.cell 4, hO6.frozen 4, Lib.hid (RowsS.push (_wr := w4) h hG hown hk hv)⟩
section
variable {w : World}
/-- what impl.QREncode hands back: rows that bear the text -/
def EncB (s : ByteArray) (l : Nat) (w : World) (e : Ending) (w' : World) : Prop := ∃ (v k m hb c : Nat) (cw : List Nat) (es : Nat → List Nat) (f : Nat → Nat → Bool), e = .returned (.tuple #[.agg #[.int .i64 (v : Nat), .int .i64 (k : Nat), .int .i64 (l : Nat), .int .i64 (m : Nat), .slice (some ⟨hb, 0, none⟩) (17 + 4 * v) c], .bool true]) ∧ BoolMap w' hb (17 + 4 * v) f ∧ Bears v l k m (dataB v l) s cw es f ∧ Below w.heap.size w w'
theorem store5 {w : World} {D : Nat} {T : TypeId} {a0 a1 a2 a3 a4 b0 b1 b2 b3 b4 : Value} (h : Blk w D T #[a0, a1, a2, a3, a4]) :
    Blk (((((w.setCell ⟨D, 0, none⟩ b0).setCell ⟨D, 1, none⟩ b1).setCell ⟨D, 2, none⟩ b2).setCell ⟨D, 3, none⟩ b3).setCell ⟨D, 4, none⟩ b4) D T #[b0, b1, b2, b3, b4] := by
  have h0 := h.set_ 0 b0
  rw [show (#[a0, a1, a2, a3, a4] : Array Value).setIfInBounds 0 b0 = #[b0, a1, a2, a3, a4] from rfl] at h0
  have h1 := h0.set_ 1 b1
  rw [show (#[b0, a1, a2, a3, a4] : Array Value).setIfInBounds 1 b1 = #[b0, b1, a2, a3, a4] from rfl] at h1
  have h2 := h1.set_ 2 b2
  rw [show (#[b0, b1, a2, a3, a4] : Array Value).setIfInBounds 2 b2 = #[b0, b1, b2, a3, a4] from rfl] at h2
  have h3 := h2.set_ 3 b3
  rw [show (#[b0, b1, b2, a3, a4] : Array Value).setIfInBounds 3 b3 = #[b0, b1, b2, b3, a4] from rfl] at h3
  have h4 := h3.set_ 4 b4
  rw [show (#[b0, b1, b2, b3, a4] : Array Value).setIfInBounds 4 b4 = #[b0, b1, b2, b3, b4] from rfl] at h4
  exact h4
theorem kp5 {w : World} {D : Nat} (b0 b1 b2 b3 b4 : Value) : Kp [D] w (((((w.setCell ⟨D, 0, none⟩ b0).setCell ⟨D, 1, none⟩ b1).setCell ⟨D, 2, none⟩ b2).setCell ⟨D, 3, none⟩ b3).setCell ⟨D, 4, none⟩ b4) :=
  (((((Kp.refl [D] w).setCell (by simp) b0).setCell (by simp) b1).setCell (by simp) b2).setCell (by simp) b3).setCell (by simp) b4
set_option maxHeartbeats 16000000 in
set_option maxRecDepth 100000 in
theorem qrencode_any (s : ByteArray) (l : Nat) (w : World) (hl : l ≤ 3) (h1 : 1 ≤ s.size) (h600 : s.size ≤ 600) :
    Calls Tryz.prog 6 #[.string s, .int .i64 l, .int .i64 0, .int .i64 (-1)] w (EncB s l w) := by
  obtain ⟨m, hm⟩ : ∃ m, m = modeOf (bytesOf s) := ⟨_, rfl⟩
  obtain ⟨db, hdb⟩ : ∃ db, db = segOf m (bytesOf s) := ⟨_, rfl⟩
  have hm3 : m = 1 ∨ m = 2 ∨ m = 4 := by rw [hm]; exact mode_in _
  have hbl : (bytesOf s).length = s.size := bytesOf_length s
  obtain ⟨p, v, hF⟩ := found (bytesOf s) m l hm3 (by omega) hl
  have hdl := (segOf_bd (bytesOf s) m hm3 (by omega)).1
  have henc := fun (w : World) (mb : Nat) (hmap : w.heap[mb]? = some (.map #[] 0)) => encode_any s l p v mb w hmap h600 hl m db hm hdb (by rw [hdb]; omega) hF.p1 hF.p2 (by rw [hdb]; exact hF.hp) (by rw [hdb]; exact hF.hp') hF.q1 hF.q2 (by rw [hdb]; exact hF.hq) (by rw [hdb]; exact hF.hq') hF.cc (by rw [← hbl]; exact hF.n)
  have hv := hF.q2
  have hv1 := hF.q1
  have HENC := Lib.hid henc
  have HF := Lib.hid hF
  have HM := Lib.hid hm
  have HDB := Lib.hid hdb
  clear henc hF hm hdb hm3 hbl hdl
  have hmm := @run_makeMap Tryz.prog
  go_enter Tryz.func6, Tryz.ntmps6
  go_wp2_with fail
  clear hmm
  have hO0 := (Blk.new w 25 #[.int .i64 0, .int .i64 0, .int .i64 0, .int .i64 0, .slice none 0 0]).alloc (.map #[] 0)
  have hmap : ((w.alloc (.cells #[.int .i64 0, .int .i64 0, .int .i64 0, .int .i64 0, .slice none 0 0] 25)).alloc (.map #[] 0)).heap[(w.alloc (.cells #[.int .i64 0, .int .i64 0, .int .i64 0, .int .i64 0, .slice none 0 0] 25)).heap.size]? = some (.map #[] 0) := heap_alloc_new _ _
  rw [World.size_alloc] at hmap
  have hb1 : Below w.heap.size w ((w.alloc (.cells #[.int .i64 0, .int .i64 0, .int .i64 0, .int .i64 0, .slice none 0 0] 25)).alloc (.map #[] 0)) := ((Below.refl _ _).alloc (Nat.le_refl _) _).alloc (by rw [World.size_alloc]; omega) _
  obtain ⟨w1, hw1⟩ : ∃ w1, w1 = (w.alloc (.cells #[.int .i64 0, .int .i64 0, .int .i64 0, .int .i64 0, .slice none 0 0] 25)).alloc (.map #[] 0) := ⟨_, rfl⟩
  rw [← hw1] at hO0 hmap hb1 ⊢
  clear hw1
  obtain ⟨mb, hmb⟩ : ∃ mb, mb = w.heap.size + 1 := ⟨_, rfl⟩
  rw [← hmb] at hmap ⊢
  clear hmb
  obtain ⟨B, hBe⟩ : ∃ B, B = w.heap.size := ⟨_, rfl⟩
  rw [← hBe] at hO0 hb1 ⊢
  have HBE := Lib.hid hBe
  clear hBe
  refine (HENC.out w1 mb hmap).mono ?_
  rintro e w2 ⟨Q, V, k, M, MR, f, cw, es, rfl, hk, hQ, hV, hMt, hsym, hpos, hcw, hb2⟩
  have hcw' : CwOk v l (streamOf v l m s) cw es := by unfold streamOf; rw [← HDB.out]; exact hcw
  have hcwb := cw_lt hcw' hv1 hv hl
  have hbear := bears_of HM.out hl HF.out hk hsym hcw' hcwb h1 (by omega)
  have HBEAR := Lib.hid hbear
  clear hcw hcw' hcwb hbear hsym hpos hmap HENC
  have hB1 := hO0.lt
  have hb12 := below_trans' hb1 hb2 (by omega)
  have hO2 := hO0.below hb2 hO0.lt
  have hs2 := hb2.size
  obtain ⟨d, hd⟩ : ∃ d, d = 17 + 4 * v := ⟨_, rfl⟩
  rw [← hd] at hMt
  have hdb : 17 + 4 * v ≤ d ∧ d ≤ 17 + 4 * v := by omega
  have HD := Lib.hid hd
  clear hd
  go_wp2_with fail
  refine (qmat_any hQ).mono ?_
  rintro e w2' ⟨rfl, rfl⟩
  go_wp2_with fail
  refine (qver_any hQ).mono ?_
  rintro e w2' ⟨rfl, rfl⟩
  go_wp2_with fail
  refine (vernum_any V v w2 hV).mono ?_
  rintro e w2' ⟨rfl, rfl⟩
  go_wp2_with fail
  refine (qmask_any hQ).mono ?_
  rintro e w2' ⟨rfl, rfl⟩
  go_wp2_with fail
  refine (qlev_any hQ).mono ?_
  rintro e w2' ⟨rfl, rfl⟩
  go_wp2_with fail
  refine (lvbits_any l).mono ?_
  rintro e w2' ⟨rfl, rfl⟩
  go_wp2_with fail
  refine (qmode_any hQ).mono ?_
  rintro e w2' ⟨rfl, rfl⟩
  go_wp2_with fail
  refine (mdbits_any m).mono ?_
  rintro e w2' ⟨rfl, rfl⟩
  go_wp2_with fail
  have hRS : RowsS w2 (w2.alloc (.cells #[.int .i64 (v : Nat), .int .i64 (k : Nat), .int .i64 (l : Nat), .int .i64 (m : Nat), .slice none 0 0] 25)) w2.heap.size w2.heap.size v k l m d 0 (.slice none 0 0) [] f :=
    ⟨Blk.new _ _ _, ⟨rfl, .inl ⟨rfl, rfl⟩⟩, rfl, fun j hj => by omega, (Below.refl _ _).alloc (Nat.le_refl _) _, ⟨Nat.le_refl _, fun q hq => by simp [Value.ownBlock] at hq⟩, by rw [World.size_alloc]; omega⟩
  obtain ⟨w3, hw3⟩ : ∃ w3, w3 = w2.alloc (.cells #[.int .i64 (v : Nat), .int .i64 (k : Nat), .int .i64 (l : Nat), .int .i64 (m : Nat), .slice none 0 0] 25) := ⟨_, rfl⟩
  rw [← hw3] at hRS ⊢
  clear hw3
  obtain ⟨O, hO⟩ : ∃ O, O = w2.heap.size := ⟨_, rfl⟩
  have hRS' : RowsS w2 w3 w2.heap.size O v k l m d 0 (.slice none 0 0) [] f := by rw [hO]; exact hRS
  rw [← hO]
  have HO := Lib.hid hO
  clear hO hRS
  have hMl := hMt.le
  clear hQ hV
  go_loopw [15] (fun t15 wr => ∃ (i : Nat) (mv : Value) (rs : List Nat), i ≤ d ∧ t15 = .int .i64 (i : Nat) ∧ RowsS w2 wr w2.heap.size O v k l m d i mv rs f) (fun t15 _ => d - (intOf t15).toNat)
  case atStart => exact ⟨0, _, _, by omega, rfl, hRS'⟩
  case round =>
    obtain ⟨i, mv, rs, hi, rfl, hR⟩ := hrel
    clear hRS'
    have hMr := hMt.below hR.below
    by_cases hlt : i < d
    · have hdi : decide ((i : Int) < (d : Int)) = true := by simp; omega
      have hmk := fun w => make_bools (P := Tryz.prog) (t := 42) (e := 4) (by kernel_rfl) (by kernel_rfl) d (by omega) w
      go_wp2_with fail
      refine (mh_any hMr).mono ?_
      rintro e w2' ⟨rfl, rfl⟩
      go_wp2_with fail
      refine (mw_any hMr).mono ?_
      rintro e w2' ⟨rfl, rfl⟩
      go_wp2_with fail
      clear hmk
      have hG0 := Blk.new wr 4 (bools d (fun _ => false))
      have hk4 : Kp [wr.heap.size] wr (wr.alloc (.cells (bools d (fun _ => false)) 4)) := (Kp.refl _ wr).alloc _
      have hb4 : Below wr.heap.size wr (wr.alloc (.cells (bools d (fun _ => false)) 4)) := (Below.refl _ _).alloc (Nat.le_refl _) _
      obtain ⟨w4, hw4⟩ : ∃ w4, w4 = wr.alloc (.cells (bools d (fun _ => false)) 4) := ⟨_, rfl⟩
      rw [← hw4] at hG0 hk4 hb4 ⊢
      clear hw4
      obtain ⟨G, hG⟩ : ∃ G, G = wr.heap.size := ⟨_, rfl⟩
      rw [← hG] at hG0 hk4 ⊢
      have HG := Lib.hid hG
      have hM4 := hMr.below hb4
      have hGM : G ≠ M ∧ G ≠ MR ∧ G ∉ rowsOf MR d := by
        have e1 := hMr.hA.lt
        have e2 := hMr.hR.lt
        refine ⟨by omega, by omega, fun hm => ?_⟩
        rw [mem_rowsOf] at hm
        obtain ⟨y, hy⟩ : ∃ y, G = MR + 1 + y := ⟨G - (MR + 1), by omega⟩
        have := (hMr.rows y (by omega)).lt
        omega
      have HRW := Lib.hid hR
      have HK4 := Lib.hid hk4
      clear hG hk4 hb4 hR hMr
      obtain ⟨wo, rfl⟩ : ∃ wo : World, wo = wr := ⟨_, rfl⟩
      go_loopw [64] (fun t64 wr => ∃ j : Nat, j ≤ d ∧ t64 = .int .i64 (j : Nat) ∧ Blk wr G 4 (bools d (fun x => if x < j then fB f i x else false)) ∧ Kp [G] w4 wr) (fun t64 _ => d - (intOf t64).toNat)
      case atStart => exact ⟨0, by omega, rfl, by rw [bools_congr (g := fun _ => false) (fun x _ => if_neg (by omega))]; exact hG0, Kp.refl _ _⟩
      case round =>
        obtain ⟨j, hj, rfl, hGr, hkr⟩ := hrel
        have hMr := hM4.kp hkr (by simpa using Ne.symm hGM.1) (by simpa using Ne.symm hGM.2.1) (by intro q hq _; simp at hq; subst hq; exact hGM.2.2)
        by_cases hlt2 : j < d
        · have hdj : decide ((j : Int) < (d : Int)) = true := by simp; omega
          have cg := hGr.cell j
          rw [bools_get hlt2] at cg
          have fg := hGr.frozen j
          have hset := hGr.set_ j (.bool (fB f i j))
          rw [bools_set] at hset
          have hset2 : Blk (wr.setCell ⟨G, j, none⟩ (.bool (f i j == 1))) G 4 (bools d (fun x => if x < j + 1 then fB f i x else false)) := by
            rw [bools_congr (g := fun x => if x < j + 1 then fB f i x else false) (fun x _ => by
              by_cases e : x = j
              · rw [if_pos e, if_pos (by omega), e]
              · rw [if_neg e]
                by_cases h : x < j
                · rw [if_pos h, if_pos (by omega)]
                · rw [if_neg h, if_neg (by omega)])] at hset
            exact hset
          obtain ⟨bz, hbz⟩ : ∃ bz, bz = (if j < j then fB f i j else false) := ⟨_, rfl⟩
          have HS2 := Lib.hid hset2
          clear hset hset2 hbz
          go_wp2_with fail
          refine (mget_any j i hMr rfl rfl hlt2 hlt).mono ?_
          rintro e w2' ⟨rfl, rfl⟩
          obtain ⟨fv, hfv⟩ : ∃ fv, fv = f i j := ⟨_, rfl⟩
          rw [← hfv] at HS2 ⊢
          clear hfv
          go_wp2_with fail
          go_roundw
          case rel => exact ⟨j + 1, by omega, by go_num, HS2.out, hkr.setCell (by simp) _⟩
          case measure => simp [intOf]; omega
        · have hdj : decide ((j : Int) < (d : Int)) = false := by simp; omega
          have hje : j = d := by omega
          have hGf : Blk wr G 4 (bools d (fB f i)) := by
            rw [bools_congr (g := fB f i) (fun x hx => by rw [if_pos (by omega)])] at hGr
            exact hGr
          have hRr := HRW.out.kp (HK4.out.trans hkr (by intro q hq _; exact hq)) (by have := HG.out; omega)
          have o4 := hRr.out.cell 4
          have fo4 := hRr.out.frozen 4
          simp only [List.getElem?_toArray, List.getElem?_cons_zero, List.getElem?_cons_succ] at o4
          have HRR := Lib.hid hRr
          have HGF := Lib.hid hGf
          clear hje hGr hRr hGf hG0 hM4 hMr HRW HK4
          obtain ⟨W5, rfl⟩ : ∃ W, W = wr := ⟨_, rfl⟩
          go_wp2_with (first
            | (at_builtin; go_loud (refine wpList_append1 (.tmp 77) (.tmp 79) (t := 23) Tryz.underlying23 (e := 42) (z := .slice none 0 0) (b := 24) (by kernel_rfl) rfl rfl rfl (by decide) (v := mv) (n := i) (xs := rs.map fun r : Nat => Value.slice (some ⟨r, 0, none⟩) d d) rfl ?c1 (ad := ⟨W5.heap.size, 0, none⟩) (c := 1) (u := .slice (some ⟨G, 0, none⟩) d d) rfl ?c2 rfl ?c3 ?c4; (case c1 => exact (HRR.out.own.alloc _)); (case c2 => exact ((Blk.new W5 _ _).cell 0)); (case c3 => omega); intro v6 w6 hown6 hk6 hv6; obtain ⟨a6, l6, c6, rfl⟩ := own_slice hown6; obtain ⟨p4, fp4, HP⟩ := HRR.out.pushAll HGF.out hown6 hk6 hv6; clear hown6 hk6 hv6)))
          go_roundw
          case rel => exact ⟨i + 1, _, _, by omega, by go_num, HP.out⟩
          case measure => simp [intOf]; omega
    · have hdi : decide ((i : Int) < (d : Int)) = false := by simp; omega
      obtain rfl : i = d := by omega
      obtain ⟨hb, c, hmv, hBM⟩ := hR.map (by omega)
      subst hmv
      have o0 := hR.out.cell 0
      have o1 := hR.out.cell 1
      have o2 := hR.out.cell 2
      have o3 := hR.out.cell 3
      have o4 := hR.out.cell 4
      simp only [List.getElem?_toArray, List.getElem?_cons_zero, List.getElem?_cons_succ] at o0 o1 o2 o3 o4
      have hBr := hO2.below hR.below hO2.lt
      have q0 := hBr.cell 0
      have q1 := hBr.cell 1
      have q2 := hBr.cell 2
      have q3 := hBr.cell 3
      have q4 := hBr.cell 4
      have g0 := hBr.frozen 0
      have g1 := hBr.frozen 1
      have g2 := hBr.frozen 2
      have g3 := hBr.frozen 3
      have g4 := hBr.frozen 4
      simp only [List.getElem?_toArray, List.getElem?_cons_zero, List.getElem?_cons_succ] at q0 q1 q2 q3 q4
      have hDf := store5 (b0 := .int .i64 (v : Nat)) (b1 := .int .i64 (k : Nat)) (b2 := .int .i64 (l : Nat)) (b3 := .int .i64 (m : Nat)) (b4 := .slice (some ⟨hb, 0, none⟩) i c) hBr
      have hkf := kp5 (w := wr) (D := B) (.int .i64 (v : Nat)) (.int .i64 (k : Nat)) (.int .i64 (l : Nat)) (.int .i64 (m : Nat)) (.slice (some ⟨hb, 0, none⟩) i c)
      have hBB : B < w2.heap.size := hO2.lt
      have hbr : Below B w wr := below_trans' hb12 hR.below (by omega)
      have hOl := HO.out
      have hrs := hR.size
      have hrows := hR.row
      have hown := hR.own
      have HX := Lib.hid (And.intro hDf (And.intro hkf (And.intro hBM (And.intro hbr (And.intro hR hBr)))))
      clear hDf hkf hBM hbr hOl hrs hrows hown hR hBr
      go_wp2_with fail
      refine (mh_any hMr).mono ?_
      rintro e w2' ⟨rfl, rfl⟩
      clear hMr
      go_wp2_with fail
      obtain ⟨hDf, hkf, hBM, hbr, hR, hBr⟩ := HX.out
      obtain ⟨w8, hw8⟩ : ∃ w8, w8 = ((((wr.setCell ⟨B, 0, none⟩ (.int .i64 (v : Nat))).setCell ⟨B, 1, none⟩ (.int .i64 (k : Nat))).setCell ⟨B, 2, none⟩ (.int .i64 (l : Nat))).setCell ⟨B, 3, none⟩ (.int .i64 (m : Nat))).setCell ⟨B, 4, none⟩ (.slice (some ⟨hb, 0, none⟩) i c) := ⟨_, rfl⟩
      rw [← hw8] at hDf hkf ⊢
      clear hw8 q0 q1 q2 q3 q4 o0 o1 o2 o3 o4 HX
      have e0 : w8.cell? ⟨B, 0, none⟩ = some (.int .i64 (v : Nat)) := hDf.cell 0
      have e1 : w8.cell? ⟨B, 1, none⟩ = some (.int .i64 (k : Nat)) := hDf.cell 1
      have e2 : w8.cell? ⟨B, 2, none⟩ = some (.int .i64 (l : Nat)) := hDf.cell 2
      have e3 : w8.cell? ⟨B, 3, none⟩ = some (.int .i64 (m : Nat)) := hDf.cell 3
      have e4 : w8.cell? ⟨B, 4, none⟩ = some (.slice (some ⟨hb, 0, none⟩) i c) := hDf.cell 4
      have hBM8 : BoolMap w8 hb i (fB f) := by
        refine ⟨Nat.lt_of_lt_of_le hBM.1 hkf.size, fun y hy => ?_⟩
        obtain ⟨gy, b1, b2⟩ := hBM.2 y hy
        have hbn : hb ≠ B := by
          have := hR.new.2 hb (by simp [Value.ownBlock])
          omega
        exact ⟨gy, (hkf.cell (p := ⟨hb, y, none⟩) hBM.1 (by simpa using hbn)).trans b1, b2.kp hkf (by simpa using b2.ne_ hBr (by decide))⟩
      refine bodyPost_ret (v := .tuple #[.agg #[.int .i64 (v : Nat), .int .i64 (k : Nat), .int .i64 (l : Nat), .int .i64 (m : Nat), .slice (some ⟨hb, 0, none⟩) i c], .bool true]) (by simp [results, Tryz.results6, go_sem, e0, e1, e2, e3, e4]) rfl ⟨v, k, m, hb, c, cw, es, fB f, ?_, ?_, HBEAR.out, ?_⟩
      · rw [← HD.out]
      · rw [← HD.out]; exact hBM8
      · rw [← HBE.out]
        exact below_of_kp hbr hkf (by have := hR.size; omega) (by intro q hq; simp at hq; omega)
end
end Go.Proofs.YtcekbhhpcmhicaaGreatDoor
namespace Go.Proofs.YtcekbhhpcmhicaaGreatDoor
open Go.RowKit Go.QW Go.QGF Go.QI Go.QM Go.QV Go.QZ
section
variable {w : World}
theorem qrlevel_any (n : Nat) (h : n < 256) : Calls Tryz.prog 7 #[.int .u8 n] w fun e w' => e = .returned (.int .i64 ((n % 4 : Nat) : Int)) ∧ w = w' := by
  go_enter Tryz.func7, Tryz.ntmps7
  go_wp2_with fail
  go_ret
  exact ⟨rfl, rfl⟩
theorem qrname_any (l : Nat) (hl : l < 4) : Calls Tryz.prog 10 #[.int .i64 l] w fun e w' => e = .returned (.string (lvName l)) ∧ w = w' := by
  match l, hl with
  | 0, _ => have hix : ∀ w, (Instr.index 81 (.agg #[.string ⟨#[77]⟩, .string ⟨#[76]⟩, .string ⟨#[72]⟩, .string ⟨#[81]⟩]) (.int .i64 0)).run Tryz.prog w = .ok (.string ⟨#[77]⟩) w := fun _ => by kernel_rfl
            go_enter Tryz.func10, Tryz.ntmps10; go_wp2_with fail; go_ret; exact ⟨rfl, rfl⟩
  | 1, _ => have hix : ∀ w, (Instr.index 81 (.agg #[.string ⟨#[77]⟩, .string ⟨#[76]⟩, .string ⟨#[72]⟩, .string ⟨#[81]⟩]) (.int .i64 1)).run Tryz.prog w = .ok (.string ⟨#[76]⟩) w := fun _ => by kernel_rfl
            go_enter Tryz.func10, Tryz.ntmps10; go_wp2_with fail; go_ret; exact ⟨rfl, rfl⟩
  | 2, _ => have hix : ∀ w, (Instr.index 81 (.agg #[.string ⟨#[77]⟩, .string ⟨#[76]⟩, .string ⟨#[72]⟩, .string ⟨#[81]⟩]) (.int .i64 2)).run Tryz.prog w = .ok (.string ⟨#[72]⟩) w := fun _ => by kernel_rfl
            go_enter Tryz.func10, Tryz.ntmps10; go_wp2_with fail; go_ret; exact ⟨rfl, rfl⟩
  | 3, _ => have hix : ∀ w, (Instr.index 81 (.agg #[.string ⟨#[77]⟩, .string ⟨#[76]⟩, .string ⟨#[72]⟩, .string ⟨#[81]⟩]) (.int .i64 3)).run Tryz.prog w = .ok (.string ⟨#[81]⟩) w := fun _ => by kernel_rfl
            go_enter Tryz.func10, Tryz.ntmps10; go_wp2_with fail; go_ret; exact ⟨rfl, rfl⟩
def chs : List Nat := [32, 36, 37, 42, 43, 45, 46, 47, 58]
def chV : Value := .agg #[.int .u8 32, .int .u8 36, .int .u8 37, .int .u8 42, .int .u8 43, .int .u8 45, .int .u8 46, .int .u8 47, .int .u8 58]
theorem ch_ix (i : Nat) (h : i < 9) : ∃ c : Nat, ∀ w, (Instr.index 177 (.agg #[.int .u8 32, .int .u8 36, .int .u8 37, .int .u8 42, .int .u8 43, .int .u8 45, .int .u8 46, .int .u8 47, .int .u8 58]) (.int .i64 i)).run Tryz.prog w = .ok (.int .u8 c) w := by
  match i, h with
  | 0, _ => exact ⟨32, fun _ => by kernel_rfl⟩
  | 1, _ => exact ⟨36, fun _ => by kernel_rfl⟩
  | 2, _ => exact ⟨37, fun _ => by kernel_rfl⟩
  | 3, _ => exact ⟨42, fun _ => by kernel_rfl⟩
  | 4, _ => exact ⟨43, fun _ => by kernel_rfl⟩
  | 5, _ => exact ⟨45, fun _ => by kernel_rfl⟩
  | 6, _ => exact ⟨46, fun _ => by kernel_rfl⟩
  | 7, _ => exact ⟨47, fun _ => by kernel_rfl⟩
  | 8, _ => exact ⟨58, fun _ => by kernel_rfl⟩
set_option maxHeartbeats 4000000 in
theorem qralpha_any (b : Nat) (hb : b < 256) : Calls Tryz.prog 41 #[.int .u8 b] w (SomeI w) := by
  by_cases h1 : 48 ≤ b ∧ b ≤ 57
  · have a1 : decide ((48 : Int) ≤ (b : Int)) = true := by simp; omega
    have a2 : decide ((b : Int) ≤ 57) = true := by simp; omega
    go_enter Tryz.func41, Tryz.ntmps41
    go_wp2_with fail
    go_ret
    exact someI_mk _ _
  · by_cases h2 : 65 ≤ b ∧ b ≤ 90
    · have a1 : decide ((48 : Int) ≤ (b : Int)) = true := by simp; omega
      have a2 : decide ((b : Int) ≤ 57) = false := by simp; omega
      have a3 : decide ((65 : Int) ≤ (b : Int)) = true := by simp; omega
      have a4 : decide ((b : Int) ≤ 90) = true := by simp; omega
      go_enter Tryz.func41, Tryz.ntmps41
      go_wp2_with fail
      go_ret
      exact someI_mk _ _
    · obtain ⟨x1, a1⟩ : ∃ x, decide ((48 : Int) ≤ (b : Int)) = x := ⟨_, rfl⟩
      obtain ⟨x2, a2⟩ : ∃ x, decide ((b : Int) ≤ 57) = x := ⟨_, rfl⟩
      obtain ⟨x3, a3⟩ : ∃ x, decide ((65 : Int) ≤ (b : Int)) = x := ⟨_, rfl⟩
      obtain ⟨x4, a4⟩ : ∃ x, decide ((b : Int) ≤ 90) = x := ⟨_, rfl⟩
      have hx1 : (x1 && x2) = false := by
        rw [← a1, ← a2, Bool.and_eq_false_iff, decide_eq_false_iff_not, decide_eq_false_iff_not]; omega
      have hx2 : (x3 && x4) = false := by
        rw [← a3, ← a4, Bool.and_eq_false_iff, decide_eq_false_iff_not, decide_eq_false_iff_not]; omega
      have key : ∀ w, Calls Tryz.prog 41 #[.int .u8 b] w (SomeI w) := by
        intro w
        cases x1 <;> cases x2 <;> cases x3 <;> cases x4
        all_goals first
          | (exfalso; simp at hx1; done)
          | (exfalso; simp at hx2; done)
          | (clear hx1 hx2
             go_enter Tryz.func41, Tryz.ntmps41
             go_wp2_with fail
             go_loop [27] (fun t27 => ∃ i : Nat, i ≤ 9 ∧ t27 = .int .i64 (i : Nat)) (fun t27 => 9 - (intOf t27).toNat)
             case atStart => exact ⟨0, by omega, rfl⟩
             case round =>
               obtain ⟨i, hi, rfl⟩ := hrel
               by_cases hlt : i < 9
               · have hdi : decide ((i : Int) < 9) = true := by simp; omega
                 obtain ⟨c, hc⟩ := ch_ix i hlt
                 by_cases he : (b : Int) = (c : Int)
                 · have hee : ((b : Int) == (c : Int)) = true := by rw [beq_iff_eq]; exact he
                   clear he
                   go_wp2_with fail
                   go_ret
                   exact someI_mk _ _
                 · have hee : ((b : Int) == (c : Int)) = false := by rw [beq_eq_false_iff_ne]; exact he
                   clear he
                   go_wp2_with fail
                   go_round
                   case rel => exact ⟨i + 1, by omega, by go_num⟩
                   case measure => simp [intOf]; omega
               · have hdi : decide ((i : Int) < 9) = false := by simp; omega
                 go_wp2_with fail
                 go_ret
                 exact someI_mk _ _)
      exact key w
def SomeU (w : World) (e : Ending) (w' : World) : Prop := ∃ n : Nat, n < 256 ∧ e = .returned (.int .u8 n) ∧ w = w'
theorem someU_mk (n : Nat) (h : n < 256) (w : World) : SomeU w (.returned (.int .u8 n)) w := ⟨n, h, rfl, rfl⟩
set_option maxHeartbeats 4000000 in
theorem qralphab_any (n : Int) : Calls Tryz.prog 14 #[.int .i64 n] w (SomeU w) := by
  go_enter Tryz.func14, Tryz.ntmps14
  go_wp2_with fail
  go_loop [3] (fun t3 => ∃ b : Nat, b ≤ 91 ∧ t3 = .int .u8 (b : Nat)) (fun t3 => 91 - (intOf t3).toNat)
  case atStart => exact ⟨32, by omega, rfl⟩
  case round =>
    obtain ⟨b, hb, rfl⟩ := hrel
    by_cases hlt : b ≤ 90
    · have hdi : decide ((b : Int) ≤ 90) = true := by simp; omega
      go_wp2_with fail
      refine (qralpha_any b (by omega)).mono ?_
      rintro e w2 ⟨c, rfl, rfl⟩
      by_cases he : c = n
      · have hee : (c == n) = true := by rw [beq_iff_eq]; exact he
        clear he
        go_wp2_with fail
        go_ret
        exact someU_mk b (by omega) _
      · have hee : (c == n) = false := by rw [beq_eq_false_iff_ne]; exact he
        clear he
        go_wp2_with fail
        go_round
        case rel => exact ⟨b + 1, by omega, by go_num⟩
        case measure => simp [intOf]; omega
    · have hdi : decide ((b : Int) ≤ 90) = false := by simp; omega
      go_wp2_with fail
      go_ret
      exact someU_mk 0 (by omega) _
end
end Go.Proofs.YtcekbhhpcmhicaaGreatDoor
namespace Go.Proofs.YtcekbhhpcmhicaaGreatDoor
open Go.RowKit Go.QW Go.QGF Go.QI Go.QM Go.QV Go.QZ
/-- the text so made -/
structure AscS (w wr : World) (i : Nat) (v : Value) (so : ByteArray) : Prop where
  own : wr.ownsRow 0 5 1 v i ((bytesOf so).map U8)
  size : so.size = i
  below : Below w.heap.size w wr
  vb : ∀ k, v.ownBlock = some k → w.heap.size ≤ k
theorem bytesOf_push (s : ByteArray) (b : UInt8) : bytesOf (s.push b) = bytesOf s ++ [b.toNat] := by simp [bytesOf, ByteArray.push]
theorem AscS.app {w wr w5 : World} {i x : Nat} {v v5 : Value} {so : ByteArray} (h : AscS w wr i v so) (hx : x < 256) (ho : w5.ownsRow 0 5 1 v5 (i + 1) ((bytesOf so).map U8 ++ [U8 x])) (hk : Kp v.ownBlock.toList (wr.alloc (.cells #[U8 x] 5)) w5)
    (hv : v5.ownBlock = v.ownBlock ∨ v5.ownBlock = some (wr.alloc (.cells #[U8 x] 5)).heap.size) : AscS w w5 (i + 1) v5 (so.push (UInt8.ofNat x)) := by
  have hs := h.below.size
  have hk0 : Kp v.ownBlock.toList wr w5 := ((Kp.refl _ wr).alloc _).trans hk (by intro i hi _; exact hi)
  refine ⟨?_, by rw [ByteArray.size_push, h.size], below_of_kp h.below hk0 hs (fun k hk' => h.vb k (by simpa using hk')), fun k hk' => ?_⟩
  · rw [bytesOf_push, List.map_append]
    have e : (UInt8.ofNat x).toNat = x := by simp; omega
    rw [e]
    exact ho
  · rcases hv with hv | hv
    · exact h.vb k (by rw [← hv]; exact hk')
    · rw [hv] at hk'
      injection hk' with hk'
      rw [World.size_alloc] at hk'
      omega
section
variable {w : World}
def AscB (w : World) (e : Ending) (w' : World) : Prop := ∃ so : ByteArray, e = .returned (.string so) ∧ 1 ≤ so.size ∧ so.size ≤ 600 ∧ Below w.heap.size w w'
set_option maxHeartbeats 8000000 in
set_option maxRecDepth 100000 in
theorem qrascii_any (s : ByteArray) (kd : Nat) (hs : s.size ≤ 2147483647) (hkd : kd < 256) : Calls Tryz.prog 5 #[.string s, .int .u8 kd, .int .i64 600] w (AscB w) := by
  obtain ⟨k3, hk3⟩ : ∃ k3, k3 = kd % 3 := ⟨_, rfl⟩
  have hk3l : k3 < 3 := by omega
  have hmod : (kd : Int) % 3 = (k3 : Int) := by omega
  clear hk3
  go_enter Tryz.func5, Tryz.ntmps5
  go_wp2_with fail
  go_loopw [7, 8] (fun t7 t8 wr => ∃ (i : Nat) (v : Value) (so : ByteArray), v = t7 ∧ i ≤ s.size ∧ i ≤ 600 ∧ t8 = .int .i64 (i : Nat) ∧ AscS w wr i v so) (fun _ t8 _ => s.size - (intOf t8).toNat)
  case atStart => exact ⟨0, _, ⟨#[]⟩, rfl, by omega, by omega, rfl, ⟨⟨rfl, .inl ⟨rfl, rfl⟩⟩, rfl, Below.refl _ _, fun k hk => by simp [Value.ownBlock] at hk⟩⟩
  case round =>
    obtain ⟨W0, rfl⟩ : ∃ W, W = wr := ⟨_, rfl⟩
    obtain ⟨i, v, so, rfl, hi, hi6, rfl, hS⟩ := hrel
    by_cases hlt : i < s.size ∧ i < 600
    · obtain ⟨hl1, hl2⟩ := hlt
      have hd1 : decide (i < s.size) = true := by simp; omega
      have hd2 : decide ((i : Int) < 600) = true := by simp; omega
      have hcl : (s[i]).toNat < 256 := UInt8.toNat_lt _
      obtain ⟨c, hc⟩ : ∃ c : Nat, c = (s[i]).toNat := ⟨_, rfl⟩
      have hcc : (((s[i]).toNat : Nat) : Int) = (c : Int) := by rw [hc]
      have hc256 : c < 256 := by omega
      clear hc hcl
      match k3, hk3l with
      | 0, _ =>
        obtain ⟨x, hx⟩ : ∃ x : Nat, x = 48 + c % 10 := ⟨_, rfl⟩
        have hxx : 48 + (c : Int) % 10 = (x : Int) := by omega
        have hx256 : x < 256 := by omega
        clear hx
        have HOWN := Lib.hid hS.own
        have HS := Lib.hid hS
        clear hS
        go_wp2_with (first
          | (at_builtin; refine wpList_append1 (.tmp 32) (.tmp 38) (t := 30) Tryz.underlying30 (e := 5) (z := .int .u8 0) (b := 1) (by kernel_rfl) rfl rfl rfl (by decide) (v := v) (n := i) (xs := (bytesOf so).map U8) rfl (HOWN.out.alloc _) (ad := ⟨W0.heap.size, 0, none⟩) (c := 1) (u := U8 x) rfl ((Blk.new W0 _ _).cell 0) rfl (by omega) ?_; intro v1 W1 hown1 hk1 hv1))
        have hst := HS.out.app (x := x) (by omega) hown1 hk1 hv1
        clear hown1 hk1 hv1
        go_roundw
        case rel => exact ⟨i + 1, v1, _, rfl, by omega, by omega, by go_num, hst⟩
        case measure => simp [intOf]; omega
      | 1, _ =>
        have HOWN := Lib.hid hS.own
        have HS := Lib.hid hS
        clear hS
        go_wp2_with fail
        refine (qralphab_any _).mono ?_
        rintro e w2' ⟨x, hx256, rfl, rfl⟩
        go_wp2_with (first
          | (at_builtin; refine wpList_append1 (.tmp 42) (.tmp 49) (t := 30) Tryz.underlying30 (e := 5) (z := .int .u8 0) (b := 1) (by kernel_rfl) rfl rfl rfl (by decide) (v := v) (n := i) (xs := (bytesOf so).map U8) rfl (HOWN.out.alloc _) (ad := ⟨W0.heap.size, 0, none⟩) (c := 1) (u := U8 x) rfl ((Blk.new W0 _ _).cell 0) rfl (by omega) ?_; intro v1 W1 hown1 hk1 hv1))
        have hst := HS.out.app (x := x) (by omega) hown1 hk1 hv1
        clear hown1 hk1 hv1
        go_roundw
        case rel => exact ⟨i + 1, v1, _, rfl, by omega, by omega, by go_num, hst⟩
        case measure => simp [intOf]; omega
      | 2, _ =>
        obtain ⟨x, hx⟩ : ∃ x : Nat, x = 32 + c % 95 := ⟨_, rfl⟩
        have hxx : 32 + (c : Int) % 95 = (x : Int) := by omega
        have hx256 : x < 256 := by omega
        clear hx
        have HOWN := Lib.hid hS.own
        have HS := Lib.hid hS
        clear hS
        go_wp2_with (first
          | (at_builtin; refine wpList_append1 (.tmp 22) (.tmp 28) (t := 30) Tryz.underlying30 (e := 5) (z := .int .u8 0) (b := 1) (by kernel_rfl) rfl rfl rfl (by decide) (v := v) (n := i) (xs := (bytesOf so).map U8) rfl (HOWN.out.alloc _) (ad := ⟨W0.heap.size, 0, none⟩) (c := 1) (u := U8 x) rfl ((Blk.new W0 _ _).cell 0) rfl (by omega) ?_; intro v1 W1 hown1 hk1 hv1))
        have hst := HS.out.app (x := x) (by omega) hown1 hk1 hv1
        clear hown1 hk1 hv1
        go_roundw
        case rel => exact ⟨i + 1, v1, _, rfl, by omega, by omega, by go_num, hst⟩
        case measure => simp [intOf]; omega
    · have hdd : (decide (i < s.size) = false) ∨ (decide (i < s.size) = true ∧ decide ((i : Int) < 600) = false) := by
        rcases Nat.lt_or_ge i s.size with h | h
        · exact .inr ⟨by simp; omega, by simp; omega⟩
        · exact .inl (by simp; omega)
      have hown := hS.own
      have hsz := hS.size
      have hbl := hS.below
      by_cases h0 : i = 0
      · subst h0
        have hv0 : v = .slice none 0 0 ∨ ∃ b c, v = .slice (some ⟨b, 0, none⟩) 0 c := by
          rcases hown.2 with ⟨h, -⟩ | ⟨g, cap, cur, h, -⟩
          · exact .inl h
          · exact .inr ⟨g, cap, h⟩
        have HX := Lib.hid hbl
        clear hS hown hsz hbl hlt
        rcases hdd with hd1 | ⟨hd1, hd2⟩
        · rcases hv0 with rfl | ⟨b, c, rfl⟩
          · go_wp2_with fail
            go_ret
            exact ⟨⟨#[55]⟩, rfl, by decide, by decide, HX.out⟩
          · go_wp2_with fail
            go_ret
            exact ⟨⟨#[55]⟩, rfl, by decide, by decide, HX.out⟩
        · exact absurd hd2 (by simp)
      · have hown' : W0.ownsRow 0 5 1 v (bytesOf so).length ((bytesOf so).map U8) := by rw [bytesOf_length, hsz]; exact hown
        obtain ⟨b, c, hv, hcv⟩ := conv_own hown' (by omega)
        have hcv0 : (convert 30 9 (.slice (some ⟨b, 0, none⟩) i c)).run Tryz.prog W0 = .ok (.string so) W0 := by rw [← hsz]; exact hcv 0
        rw [hsz] at hv
        subst hv
        have hi0 : ((i : Int) == 0) = false := by rw [beq_eq_false_iff_ne]; omega
        have HX := Lib.hid (And.intro hbl hsz)
        clear hS hown hown' hsz hbl hlt hcv
        rcases hdd with hd1 | ⟨hd1, hd2⟩
        · go_wp2_with fail
          go_ret
          exact ⟨so, rfl, by rw [HX.out.2]; omega, by rw [HX.out.2]; omega, HX.out.1⟩
        · go_wp2_with fail
          go_ret
          exact ⟨so, rfl, by rw [HX.out.2]; omega, by rw [HX.out.2]; omega, HX.out.1⟩
end
end Go.Proofs.YtcekbhhpcmhicaaGreatDoor
namespace Go.Proofs.YtcekbhhpcmhicaaGreatDoor
open Go.RowKit Go.QW Go.QGF Go.QI Go.QM Go.QV Go.QZ
section
variable {w : World}
def LawB (w : World) (e : Ending) (w' : World) : Prop := e = .returned (.bool true) ∧ Below w.heap.size w w'
theorem lawB_mk {w w' : World} (h : Below w.heap.size w w') : LawB w (.returned (.bool true)) w' := ⟨rfl, h⟩
theorem encB_form {s : ByteArray} {l : Nat} {w w' : World} {e : Ending} (h : EncB s l w e w') : ∃ (v k m hb c d N : Nat) (cw : List Nat) (es : Nat → List Nat) (f : Nat → Nat → Bool), Hid (d = 17 + 4 * v) ∧ e = .returned (.tuple #[.agg #[.int .i64 (v : Nat), .int .i64 (k : Nat), .int .i64 (l : Nat), .int .i64 (m : Nat), .slice (some ⟨hb, 0, none⟩) d c], .bool true]) ∧ Below w.heap.size w w' ∧ Hid (BoolMap w' hb (17 + 4 * v) f ∧ Bears v l k m N s cw es f) := by
  obtain ⟨v, k, m, hb, c, cw, es, f, h1, h2, h3, h4⟩ := h
  exact ⟨v, k, m, hb, c, 17 + 4 * v, _, cw, es, f, Lib.hid rfl, h1, h4, Lib.hid ⟨h2, h3⟩⟩
set_option maxHeartbeats 8000000 in
set_option maxRecDepth 100000 in
theorem law_any (s : ByteArray) (kd lev : Nat) (hkd : kd < 256) (hlev : lev < 256) : Calls Tryz.prog 3 #[.string s, .int .u8 kd, .int .u8 lev] w (LawB w) := by
  by_cases hbig : 2147483647 < s.size
  · have hd0 : decide ((2147483647 : Int) < (s.size : Int)) = true := by simp; omega
    have hd1 : decide (2147483647 < s.size) = true := by simp; omega
    go_enter Tryz.func3, Tryz.ntmps3
    go_wp2_with fail
    go_ret
    exact lawB_mk (Below.refl _ _)
  · have hd0 : decide ((2147483647 : Int) < (s.size : Int)) = false := by simp; omega
    have hd1 : decide (2147483647 < s.size) = false := by simp; omega
    go_enter Tryz.func3, Tryz.ntmps3
    go_wp2_with fail
    refine (qrascii_any s kd (by omega) hkd).mono ?_
    rintro e w1 ⟨so, rfl, hs1, hs6, hb1⟩
    have hz1 := hb1.size
    clear hd0 hd1 hbig
    go_wp2_with fail
    refine (qrlevel_any lev hlev).mono ?_
    rintro e w1' ⟨rfl, rfl⟩
    obtain ⟨l, hl⟩ : ∃ l, l = lev % 4 := ⟨_, rfl⟩
    have hl4 : l < 4 := by omega
    rw [← hl]
    have HL := Lib.hid hl
    clear hl
    go_wp2_with fail
    refine (qrencode_any so l w1 (by omega) hs1 hs6).mono ?_
    intro e w2 henc
    obtain ⟨v, k, m, hb, c, d, N, cw, es, f, HD, rfl, hb2, HB⟩ := encB_form henc
    clear henc
    have hz2 := hb2.size
    go_wp2_with fail
    have hq := fun (w' : World) (h : BoolMap w' hb (17 + 4 * v) f) => qrdecode_any (c := c) h HB.out.2
    have hm := HB.out.1
    rw [← HD.out] at hq hm
    refine (hq _ (hm.below ((Below.refl _ _).alloc (Nat.le_refl _) _))).mono ?_
    clear hq hm
    rintro e w4 ⟨a1, a2, l1, c1, l2, c2, x, y, z, u, rfl, hb4⟩
    have hlv : ∀ w, Calls Tryz.prog 7 #[.int .u8 lev] w fun e w' => e = .returned (.int .i64 l) ∧ w = w' := fun w => by
      have := qrlevel_any (w := w) lev hlev
      rw [← HL.out] at this
      exact this
    go_wp2_with fail
    have hb5 := below_of_alloc hb4
    go_quiet (first | (go_at_call 7; exact (hlv _).mono (fun _ _ h => ⟨h.1, _, h.2.symm⟩)) | (go_at_call 10; exact (qrname_any l hl4).mono (fun _ _ h => ⟨h.1, _, h.2.symm⟩)))
    have hz4 := hb5.size
    have hall : Below w.heap.size w w4 := (hb1.trans (hb2.mono hz1)).trans (hb5.mono (Nat.le_trans hz1 hz2))
    go_wp2_with fail
    go_ret
    exact lawB_mk (below_drewN (hall.alloc (Nat.le_trans hz1 (Nat.le_trans hz2 hz4)) _) _)
end
end Go.Proofs.YtcekbhhpcmhicaaGreatDoor
