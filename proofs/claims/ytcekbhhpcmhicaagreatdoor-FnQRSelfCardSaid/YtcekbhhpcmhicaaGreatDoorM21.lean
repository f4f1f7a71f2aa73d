/- The encoder: Encoder_encode; Plain law: for every text of at most 600 bytes the encoder's two searches for a version end at a version up to 27; Bits of bytes read back as numbers; Bits read back: numbers in bytes, aligned or not; Plain law: what stands behind the data bits: the end's zeros and the padding; the bytes of the blocks are the bytes of the bits. -/
import Derived.Test.YtcekbhhpcmhicaaGreatDoorM08
import Derived.Test.YtcekbhhpcmhicaaGreatDoorM10
import Derived.Test.YtcekbhhpcmhicaaGreatDoorM11
import Derived.Test.YtcekbhhpcmhicaaGreatDoorM15
import Derived.Test.YtcekbhhpcmhicaaGreatDoorM20
import Derived.Deep.DeepCutAuto
namespace Go.Proofs.YtcekbhhpcmhicaaGreatDoor
open Go.RowKit Go.QW Go.QGF Go.QV Go.QI Go.QM Go.QZ
theorem map_below {w w' : World} {b : Nat} (h : w.heap[b]? = some (.map #[] 0)) (hb : Below w.heap.size w w') : w'.heap[b]? = some (.map #[] 0) := by
  have hlt : b < w.heap.size := by
    rcases Nat.lt_or_ge b w.heap.size with h' | h'
    · exact h'
    · rw [Array.getElem?_eq_none h'] at h; cases h
  exact (hb.block b hlt).trans h
theorem term_len (N : Nat) (bs : List Bool) (h : bs.length ≤ 8 * N) : (term3 N (term2 (term1 N bs))).length = 8 * N := by
  rw [term3_length, term2_length, term1_length]
  omega
/-- dimensions of the blocks -/
def dimOk (v l : Nat) : Bool := decide (1 ≤ numB (lv v l).2) && decide (numB (lv v l).2 ≤ 100) && decide (numB (lv v l).2 ≤ dataB v l) && decide (dataB v l ≤ 3000)
theorem dimOk_all : ∀ v : Fin 28, ∀ l : Fin 4, 1 ≤ v.val → dimOk v.val l.val = true := by decide +kernel
theorem dim_ok (v l : Nat) (h1 : 1 ≤ v) (h2 : v ≤ 27) (hl : l ≤ 3) : 1 ≤ numB (lv v l).2 ∧ numB (lv v l).2 ≤ 100 ∧ numB (lv v l).2 ≤ dataB v l ∧ dataB v l ≤ 3000 := by
  have := dimOk_all ⟨v, by omega⟩ ⟨l, by omega⟩ h1
  simp only [dimOk, Bool.and_eq_true, decide_eq_true_eq] at this
  obtain ⟨⟨⟨a, b⟩, c⟩, d⟩ := this
  exact ⟨a, b, c, d⟩
/-- the codewords of the data bits bs at version v, level l -/
structure CwOk (v l : Nat) (bs : List Bool) (cw : List Nat) (es : Nat → List Nat) : Prop where
  len : cw.length = total v
  ec : ∀ j, j < numB (lv v l).2 → (es j).length = (lv v l).1 ∧ Ok (es j) ∧ ∀ i, i < (lv v l).1 → ev (ex i) (datOf (numB (lv v l).2) (dataB v l / numB (lv v l).2) (dataB v l % numB (lv v l).2) bs j ++ es j) = 0
  at_ : ∀ j p, j < numB (lv v l).2 → p < dl (numB (lv v l).2) (dataB v l / numB (lv v l).2) (dataB v l % numB (lv v l).2) j + (lv v l).1 →
    nth cw (rank (numB (lv v l).2) (dataB v l / numB (lv v l).2) (dataB v l % numB (lv v l).2) j p) = nth (datOf (numB (lv v l).2) (dataB v l / numB (lv v l).2) (dataB v l % numB (lv v l).2) bs j ++ es j) p
set_option maxHeartbeats 16000000 in
set_option maxRecDepth 100000 in
theorem encode_any (s : ByteArray) (l p v mb : Nat) (w : World) (hmap : w.heap[mb]? = some (.map #[] 0)) (hs : s.size ≤ 600) (hl : l ≤ 3) (m : Nat) (db : List Bool) (hm : m = modeOf (bytesOf s)) (hdb : db = segOf m (bytesOf s)) (hdl : db.length ≤ 5000)
    (p1 : 1 ≤ p) (p2 : p ≤ 27) (hp : (4 + ccBits m 1 + db.length + 7) / 8 ≤ dataB p l) (hp' : ∀ v, 1 ≤ v → v < p → ¬ (4 + ccBits m 1 + db.length + 7) / 8 ≤ dataB v l)
    (q1 : 1 ≤ v) (q2 : v ≤ 27) (hq : (4 + ccBits m p + db.length + 7) / 8 ≤ dataB v l) (hq' : ∀ u, 1 ≤ u → u < v → ¬ (4 + ccBits m p + db.length + 7) / 8 ≤ dataB u l) (hcc : ccBits m v ≤ ccBits m p) (hn : s.size < 2 ^ ccBits m v) :
    Calls Tryz.prog 15 #[.string s, .int .i64 l, .map (some mb)] w fun e w' => ∃ (Q V k M MR : Nat) (f : Cells) (cw : List Nat) (es : Nat → List Nat), e = .returned (.tuple #[.pointer (some ⟨Q, 0, none⟩), .nilIface]) ∧ k < 8 ∧ Qr w' Q (.int .i64 m) (.int .i64 l) (.pointer (some ⟨V, 0, none⟩)) (.int .i64 k) (.pointer (some ⟨M, 0, none⟩)) ∧ Ver w' V v ∧ Mat w' M MR (17 + 4 * v) f ∧
      Sym v (fmtT (l * 8 + k)) k (cw.flatMap (bitsOf 8)) f ∧ (∀ y x, y < 17 + 4 * v → x < 17 + 4 * v → 0 ≤ f y x) ∧ CwOk v l (term3 (dataB v l) (term2 (term1 (dataB v l) (bitsOf 4 m ++ bitsOf (ccBits m v) s.size ++ db)))) cw es ∧ Below w.heap.size w w' := by
  have hmI := mode_in (bytesOf s)
  rw [← hm] at hmI
  have l1 := lookup_none w mb hmap 1 (by decide)
  have HM := Lib.hid hm
  have HDB := Lib.hid hdb
  have HP := Lib.hid hp'
  have HQ := Lib.hid hq'
  clear hm hdb hp' hq'
  go_enter Tryz.func15, Tryz.ntmps15
  go_wp2_with fail
  refine (mode_any s w (by omega)).mono ?_
  rintro e w1 ⟨rfl, hb1⟩
  rw [← HM.out]
  have hs1 := hb1.size
  go_wp2_with fail
  refine (newbits_any w1).mono ?_
  rintro e w2 ⟨H, gH, rfl, hH, hH1, hgH1, hb2⟩
  have hs2 := hb2.size
  have hw2 := below_trans' hb1 hb2 hs1
  have l2 := lookup_none w2 mb (map_below hmap hw2) 12 (by decide)
  go_wp2_with fail
  refine (modeInfo_any m H gH 0 [] w2 hH (by omega) (by simp)).mono ?_
  rintro e w3 ⟨gH3, rfl, hgH3, hH3, hk3⟩
  rw [List.nil_append] at hH3
  have hs3 := hk3.size
  have hw3 := below_of_kp hw2 hk3 hw2.size (by intro k hk; simp only [List.mem_cons, List.not_mem_nil, or_false] at hk; omega)
  clear l1 l2
  go_wp2_with fail
  refine (newbits_any w3).mono ?_
  rintro e w4 ⟨D, gD, rfl, hD, hD1, hgD1, hb4⟩
  have hs4 := hb4.size
  have hw4 := below_trans' hw3 hb4 hw3.size
  have hH4 : Bits w4 H gH3 0 (bitsOf 4 m) := hH3.kp (Kp.of_below hb4 : Kp [] w3 w4) (by simp) (by simp)
  have hHl := hH3.lts
  go_wp2_with fail
  have hab := appendBytes_any s D gD 0 [] w4 hD (by omega) (by simp)
  rw [← HM.out, ← HDB.out] at hab
  refine hab.mono ?_
  clear hab
  rintro e w5 ⟨gD5, rfl, hgD5, hD5, hk5⟩
  rw [List.nil_append] at hD5
  have hs5 := hk5.size
  have hw5 := below_of_kp hw4 hk5 hw4.size (by intro k hk; simp only [List.mem_cons, List.not_mem_nil, or_false] at hk; omega)
  have hH5 : Bits w5 H gH3 0 (bitsOf 4 m) := hH4.kp hk5 (by simp; omega) (by simp; omega)
  have l5 := lookup_none w5 mb (map_below hmap hw5) 10 (by decide)
  go_wp2_with fail
  refine (recommend_any m l p v H gH3 0 D gD5 0 (bitsOf 4 m) db w5 hH5 hD5 hmI hl (by rw [bitsOf_length]; omega) (by omega) p1 p2 (by rw [bitsOf_length]; exact hp) (by rw [bitsOf_length]; exact HP.out) q1 q2 (by rw [bitsOf_length]; exact hq) (by rw [bitsOf_length]; exact HQ.out)).mono ?_
  rintro e w6 ⟨V, rfl, hV, hb6, hV1⟩
  have hs6 := hb6.size
  have hw6 := below_trans' hw5 hb6 hw5.size
  have hH6 : Bits w6 H gH3 0 (bitsOf 4 m) := hH5.kp (Kp.of_below hb6 : Kp [] w5 w6) (by simp) (by simp)
  have hD6 : Bits w6 D gD5 0 db := hD5.kp (Kp.of_below hb6 : Kp [] w5 w6) (by simp) (by simp)
  have hDl := hD5.lts
  clear l5
  go_wp2_with fail
  refine (newbits_any w6).mono ?_
  rintro e w7 ⟨X, gX, rfl, hX, hX1, hgX1, hb7⟩
  have hs7 := hb7.size
  have hw7 := below_trans' hw6 hb7 hw6.size
  have hH7 : Bits w7 H gH3 0 (bitsOf 4 m) := hH6.kp (Kp.of_below hb7 : Kp [] w6 w7) (by simp) (by simp)
  have hD7 : Bits w7 D gD5 0 db := hD6.kp (Kp.of_below hb7 : Kp [] w6 w7) (by simp) (by simp)
  have hV7 := hV.below hb7
  go_wp2_with fail
  refine (appendArr_any X gX 0 H gH3 0 [] (bitsOf 4 m) w7 hX hH7 (by omega) (by omega) (by simp [bitsOf_length])).mono ?_
  rintro e w8 ⟨gX8, rfl, hgX8, hX8, hk8⟩
  rw [List.nil_append] at hX8
  have hs8 := hk8.size
  have hw8 := below_of_kp hw7 hk8 hw7.size (by intro k hk; simp only [List.mem_cons, List.not_mem_nil, or_false] at hk; omega)
  have hD8 : Bits w8 D gD5 0 db := hD7.kp hk8 (by simp; omega) (by simp; omega)
  have hV8 := hV7.kp hk8 (hX.off (by decide) (by decide))
  have hm4 : m = 4 → (db.length + 7) / 8 = s.size := by
    intro e
    rw [HDB.out, e]
    unfold segOf
    rw [if_neg (by decide), if_neg (by decide), flat8_length, bytesOf_length]
    omega
  have HM4 := Lib.hid hm4
  clear hm4
  go_upto_if 158 with fail
  go_cut [30] (fun s30 wx => s30 = .int .i64 (s.size : Nat) ∧ w8 = wx)
  case first =>
    by_cases e4 : m = 4
    · have d4 : ((m : Int) == 4) = true := by rw [e4]; rfl
      have h8 := HM4.out e4
      have H8 := Lib.hid h8
      clear e4 h8
      go_wp2_with fail
      refine (sizeb_any D gD5 0 db w8 hD8 (by omega)).mono ?_
      rintro e w9 ⟨rfl, rfl⟩
      rw [H8.out]
      go_wp2_with fail
      go_meet
      exact ⟨rfl, rfl⟩
    · have d4 : ((m : Int) == 4) = false := by rw [beq_eq_false_iff_ne]; omega
      go_wp2_with fail
      go_meet
      exact ⟨rfl, rfl⟩
  case rest =>
    obtain ⟨rfl, rfl⟩ := hcut
    have hXl := hX8.lts
    have hDl8 := hD8.lts
    go_wp2_with fail
    refine (lenInfo_any s.size V v m X gX8 0 (bitsOf 4 m) w8 hX8 hV8 hmI (by omega) hn (by rw [bitsOf_length]; omega)).mono ?_
    rintro e w9 ⟨gX9, rfl, hgX9, hX9, hk9⟩
    have hs9 := hk9.size
    have hw9 := below_of_kp hw8 hk9 hw8.size (by intro k hk; simp only [List.mem_cons, List.not_mem_nil, or_false] at hk; omega)
    have hD9 : Bits w9 D gD5 0 db := hD8.kp hk9 (by simp; omega) (by simp; omega)
    have hV9 := hV8.kp hk9 (hX8.off (by decide) (by decide))
    have hccb := ccBits_le m v
    go_wp2_with fail
    refine (appendArr_any X gX9 0 D gD5 0 _ db w9 hX9 hD9 (by omega) (by omega) (by simp only [List.length_append, bitsOf_length]; omega)).mono ?_
    rintro e w10 ⟨gX10, rfl, hgX10, hX10, hk10⟩
    have hs10 := hk10.size
    have hw10 := below_of_kp hw9 hk10 hw9.size (by intro k hk; simp only [List.mem_cons, List.not_mem_nil, or_false] at hk; omega)
    have hV10 := hV9.kp hk10 (hX9.off (by decide) (by decide))
    go_wp2_with fail
    refine (ecfor_any V v l w10 hV10 hl).mono ?_
    rintro e w11 ⟨ge, o, rfl, hE, rfl⟩
    have ok := lv_ok v l q1 (by omega) hl
    have hE' : EcB w10 ge o (lv v l) := hE
    go_wp2_with fail
    refine (vertot_any V v w10 hV10).mono ?_
    rintro e w11 ⟨rfl, rfl⟩
    go_wp2_with fail
    refine (totec_any ge o (lv v l) w10 hE' ok.cnt (by have := ok.len; omega) (by have := ok.ec; omega)).mono ?_
    rintro e w11 ⟨rfl, hb11⟩
    have hs11 := hb11.size
    have hw11 := below_trans' hw10 hb11 hw10.size
    have hX11 := hX10.kp (Kp.of_below hb11 : Kp [] w10 w11) (by simp) (by simp)
    have hV11 := hV10.below hb11
    have hE11 := hE'.below hb11
    have htot := ok.tot
    have hfit := ok.fits
    obtain ⟨T, hT⟩ : ∃ T, T = total v := ⟨_, rfl⟩
    obtain ⟨ER, hER⟩ : ∃ ER, ER = (lv v l).1 * numB (lv v l).2 := ⟨_, rfl⟩
    have hNd : dataB v l = T - ER := by unfold dataB; rw [hT, hER]
    rw [← hT] at htot hfit ⊢
    rw [← hER] at hfit ⊢
    have hsub : (T : Int) - (ER : Int) = ((dataB v l : Nat) : Int) := by rw [hNd]; omega
    have hN3 := (dim_ok v l q1 q2 hl).2.2.2
    have HT := Lib.hid hT
    have HER := Lib.hid hER
    have HND := Lib.hid hNd
    have HSUB := Lib.hid hsub
    clear hT hER hNd hsub hE hE'
    go_wp2_with fail
    rw [HSUB.out]
    obtain ⟨N, hN⟩ : ∃ N, N = dataB v l := ⟨_, rfl⟩
    rw [← hN] at hN3 hq ⊢
    have HN := Lib.hid hN
    clear hN
    refine (term_any N X gX10 0 _ w11 hX11 (by omega) (by simp only [List.length_append, bitsOf_length]; omega)).mono ?_
    rintro e w12 ⟨gX12, rfl, hgX12, hX12, hk12⟩
    have hs12 := hk12.size
    have hw12 := below_of_kp hw11 hk12 hw11.size (by intro k hk; simp only [List.mem_cons, List.not_mem_nil, or_false] at hk; omega)
    have hV12 := hV11.kp hk12 (hX11.off (by decide) (by decide))
    have hE12 := hE11.kp hk12 (hX11.off (by decide) (by decide))
    obtain ⟨bs, hbs⟩ : ∃ bs, bs = term3 N (term2 (term1 N (bitsOf 4 m ++ bitsOf (ccBits m v) s.size ++ db))) := ⟨_, rfl⟩
    have hbl : bs.length = 8 * N := by rw [hbs]; exact term_len N _ (by simp only [List.length_append, bitsOf_length]; omega)
    rw [← hbs] at hX12
    have HBS := Lib.hid hbs
    have HBL := Lib.hid hbl
    clear hbs hbl
    go_wp2_with fail
    refine (vertot_any V v w12 hV12).mono ?_
    rintro e w13 ⟨rfl, rfl⟩
    rw [← HT.out]
    go_wp2_with fail
    refine (numblk_any ge o (lv v l) w12 hE12 ok.cnt (by have := ok.len; omega)).mono ?_
    rintro e w13 ⟨rfl, hb13⟩
    have hs13 := hb13.size
    have hw13 := below_trans' hw12 hb13 hw12.size
    have hX13 := hX12.kp (Kp.of_below hb13 : Kp [] w12 w13) (by simp) (by simp)
    have hV13 := hV12.below hb13
    obtain ⟨R, hR⟩ : ∃ R, R = numB (lv v l).2 := ⟨_, rfl⟩
    have hdim := dim_ok v l q1 q2 hl
    rw [← hR, ← HN.out] at hdim
    rw [← hR]
    have hec := ok.ec
    have hec1 := ok.ec1
    obtain ⟨ec, hece⟩ : ∃ ec, ec = (lv v l).1 := ⟨_, rfl⟩
    rw [← hece] at hec hec1
    have hTN : T = N + ec * R := by rw [HN.out, HND.out, hece, hR, ← HER.out]; omega
    have hqm : N = N / R * R + N % R := by rw [Nat.mul_comm]; exact (Nat.div_add_mod N R).symm
    have hmR : N % R < R := Nat.mod_lt _ (by omega)
    have hq1' : 1 ≤ N / R := (Nat.le_div_iff_mul_le (by omega)).2 (by omega)
    have HR := Lib.hid hR
    have HEC := Lib.hid hece
    have HTN := Lib.hid hTN
    have HQM := Lib.hid hqm
    clear hR hece hTN hqm
    go_wp2_with fail
    refine (interleave_any X gX12 0 T N R (N / R) (N % R) ec bs w13 hX13 HQM.out HBL.out HTN.out hdim.1 hdim.2.1 hmR hq1' hdim.2.2.2 hec1 (by omega)).mono ?_
    rintro e w14 ⟨B, gB, cw, es, rfl, hB, hcw, hes, hrk, hb14, hB1⟩
    have hs14 := hb14.size
    have hw14 := below_trans' hw13 hb14 hw13.size
    have hV14 := hV13.below hb14
    have HCW := Lib.hid hcw
    have HES := Lib.hid hes
    have HRK := Lib.hid hrk
    have hBl := hB.lts
    clear hcw hes hrk
    go_wp2_with fail
    refine (newqr_any w14).mono ?_
    rintro e w15 ⟨Q, rfl, hQ, hQ1, hb15⟩
    have hs15 := hb15.size
    have hw15 := below_trans' hw14 hb15 hw14.size
    go_wp2_with fail
    refine (setlev_any l hQ).mono ?_
    rintro e w16 ⟨rfl, hQ2, hk16⟩
    go_wp2_with fail
    refine (setmode_any m hQ2).mono ?_
    rintro e w17 ⟨rfl, hQ3, hk17⟩
    go_wp2_with fail
    refine (setver_any V hQ3).mono ?_
    rintro e w18 ⟨rfl, hQ4, hk18⟩
    have hkQ : Kp [Q] w15 w18 := (hk16.more hk17).more hk18
    have hsQ := hkQ.size
    have hw18 := below_of_kp hw15 hkQ hw15.size (by intro k hk; simp only [List.mem_cons, List.not_mem_nil, or_false] at hk; omega)
    have hb1418 := below_of_kp hb15 hkQ hb15.size (by intro k hk; simp only [List.mem_cons, List.not_mem_nil, or_false] at hk; omega)
    have hV18 := hV14.below hb1418
    have hB18 := hB.kp (Kp.of_below hb1418 : Kp [] w14 w18) (by simp) (by simp)
    go_wp2_with fail
    refine (verdim_any V v w18 hV18 (by omega)).mono ?_
    rintro e w19 ⟨rfl, rfl⟩
    have hnm := newMat_any (17 + 4 * v) (by omega) (by omega) w18
    obtain ⟨d, hd⟩ : ∃ d, d = 17 + 4 * v := ⟨_, rfl⟩
    rw [← hd] at hnm ⊢
    have HD := Lib.hid hd
    clear hd
    go_wp2_with fail
    refine hnm.mono ?_
    clear hnm
    rintro e w19 ⟨M, MR, f0, rfl, hM, hMR1, hM1, hb19⟩
    have hs19 := hb19.size
    have hw19 := below_trans' hw18 hb19 hw18.size
    have hV19 := hV18.below hb19
    have hB19 := hB18.kp (Kp.of_below hb19 : Kp [] w18 w19) (by simp) (by simp)
    have l19 := lookup_none w19 mb (map_below hmap hw19) 11 (by decide)
    rw [HD.out] at hM
    have hroom : (cw.flatMap (bitsOf 8)).length ≤ cnt v (2 * ((8 + 2 * v) * (17 + 4 * v))) := by
      rw [flat8_length, HCW.out, HT.out]
      have := room v q1 q2
      omega
    have hcl : (cw.flatMap (bitsOf 8)).length ≤ 40000 := by rw [flat8_length, HCW.out]; omega
    have HROOM := Lib.hid hroom
    clear hroom
    have hMoff : Off w19 (rowsOf MR (17 + 4 * v)) [3, 141, 201, 211] := hM.off (by decide)
    have hMq : Off w19 (rowsOf MR (17 + 4 * v)) [137] := hM.off (by decide)
    have hQ18 : Qr w18 Q (.int .i64 m) (.int .i64 l) (.pointer (some ⟨V, 0, none⟩)) (.int .i64 (-1)) (.pointer none) := hQ4
    have hQ19 : Qr w19 Q (.int .i64 m) (.int .i64 l) (.pointer (some ⟨V, 0, none⟩)) (.int .i64 (-1)) (.pointer none) := hQ18.below hb19 hQ18.lt
    have hQM : Q ∉ rowsOf MR (17 + 4 * v) := fun hm => hMq Q hm _ _ hQ19 (by simp)
    have hBM := hB19.norow hM
    have hl4 : l < 4 := by omega
    go_wp2_with fail
    refine (choose_mask_any hM hB19 hV19 q1 q2 hl4 HROOM.out hcl).mono ?_
    rintro e w20 ⟨k, f1, rfl, hk, hM20, hk20⟩
    have hs20 := hk20.size
    have hQ20 : Qr w20 Q (.int .i64 m) (.int .i64 l) (.pointer (some ⟨V, 0, none⟩)) (.int .i64 (-1)) (.pointer none) := Blk.kp hQ19 hk20 hQM
    clear l19
    go_wp2_with fail
    refine (setmask_any k hQ20).mono ?_
    rintro e w21 ⟨rfl, hQ21, hk21⟩
    have hV21 := (hV19.kp hk20 hMoff).kp hk21 (by intro b hb t arr hbb; simp only [List.mem_cons, List.not_mem_nil, or_false] at hb; subst hb; rw [← Blk.ty hQ20 hbb]; decide)
    have hMA : M ≠ Q := fun e => by subst e; exact absurd (Blk.ty hM20.hA hQ20) (by decide)
    have hMR : MR ≠ Q := fun e => by subst e; exact absurd (Blk.ty hM20.hR hQ20) (by decide)
    have hM21 := hM20.kp hk21 (by simpa using hMA) (by simpa using hMR) (by intro b hb _; simp only [List.mem_cons, List.not_mem_nil, or_false] at hb; subst hb; exact hQM)
    have hB20 := hB19.kp hk20 hBM.1 hBM.2
    have hBQ : B ≠ Q ∧ gB ≠ Q := by
      obtain ⟨ws, b1, b2, -⟩ := hB20.ex
      exact ⟨fun e => by subst e; exact absurd (Blk.ty b1 hQ20) (by decide), fun e => by subst e; exact absurd (Blk.ty b2 hQ20) (by decide)⟩
    have hB21 := hB20.kp hk21 (by simpa using hBQ.1) (by simpa using hBQ.2)
    go_wp2_with fail
    refine (build_any hM21 hB21 hV21 q1 q2 hl4 hk HROOM.out hcl).mono ?_
    rintro e w22 ⟨f2, rfl, hM22, hsym, hpos, hk22⟩
    have hQ22 : Qr w22 Q (.int .i64 m) (.int .i64 l) (.pointer (some ⟨V, 0, none⟩)) (.int .i64 k) (.pointer none) := Blk.kp hQ21 hk22 hQM
    have hV22 := hV21.kp hk22 (hM21.off (by decide))
    have HSYM := Lib.hid hsym
    have HPOS := Lib.hid hpos
    clear hsym hpos
    go_wp2_with fail
    refine (setmat_any M hQ22).mono ?_
    rintro e w23 ⟨rfl, hQ23, hk23⟩
    have hM23 := hM22.kp hk23 (by simpa using hMA) (by simpa using hMR) (by intro b hb _; simp only [List.mem_cons, List.not_mem_nil, or_false] at hb; subst hb; exact hQM)
    have hV23 := hV22.kp hk23 (by intro b hb t arr hbb; simp only [List.mem_cons, List.not_mem_nil, or_false] at hb; subst hb; rw [← Blk.ty hQ22 hbb]; decide)
    have hrows : ∀ b, b ∈ rowsOf MR (17 + 4 * v) → w.heap.size ≤ b := fun b hb => by rw [mem_rowsOf] at hb; omega
    have hw20 := below_of_kp hw19 hk20 hw19.size hrows
    have hw21 := below_of_kp hw20 hk21 hw20.size (by intro b hb; simp only [List.mem_cons, List.not_mem_nil, or_false] at hb; omega)
    have hw22 := below_of_kp hw21 hk22 hw21.size hrows
    have hw23 := below_of_kp hw22 hk23 hw22.size (by intro b hb; simp only [List.mem_cons, List.not_mem_nil, or_false] at hb; omega)
    go_wp2_with fail
    go_ret2
    refine ⟨Q, V, k, M, MR, f2, cw, es, rfl, hk, hQ23, hV23, hM23, HSYM.out, HPOS.out, ?_, hw23⟩
    have e1 := HN.out
    have e2 := HR.out
    have e3 := HEC.out
    have e4 := HBS.out
    subst e1 e2 e3 e4
    exact ⟨by rw [HCW.out, HT.out], HES.out, HRK.out⟩
end Go.Proofs.YtcekbhhpcmhicaaGreatDoor
namespace Go.Proofs.YtcekbhhpcmhicaaGreatDoor
open Go.RowKit Go.QW Go.QGF Go.QV

theorem least_upto (P : Nat → Prop) : ∀ n, (∃ v, 1 ≤ v ∧ v ≤ n ∧ P v) → ∃ p, 1 ≤ p ∧ p ≤ n ∧ P p ∧ ∀ v, 1 ≤ v → v < p → ¬ P v
  | 0, h => by obtain ⟨v, a, b, _⟩ := h; omega
  | n + 1, h => by
    by_cases hv : ∃ v, 1 ≤ v ∧ v ≤ n ∧ P v
    · obtain ⟨p, p1, p2, p3, p4⟩ := least_upto P n hv
      exact ⟨p, p1, by omega, p3, p4⟩
    · obtain ⟨v, a, b, c⟩ := h
      have e : v = n + 1 := by
        by_cases e : v = n + 1
        · exact e
        · exact absurd ⟨v, a, by omega, c⟩ hv
      subst e
      exact ⟨n + 1, a, Nat.le_refl _, c, fun u a b c => hv ⟨u, a, by omega, c⟩⟩
theorem least_of (P : Nat → Prop) : ∀ n, 1 ≤ n → P n → ∃ p, 1 ≤ p ∧ p ≤ n ∧ P p ∧ ∀ v, 1 ≤ v → v < p → ¬ P v
  | 0, h, _ => absurd h (by omega)
  | n + 1, h1, h => by
    by_cases hv : ∃ v, 1 ≤ v ∧ v ≤ n ∧ P v
    · obtain ⟨v, a, b, c⟩ := hv
      obtain ⟨p, p1, p2, p3, p4⟩ := least_upto P n ⟨v, a, b, c⟩
      exact ⟨p, p1, by omega, p3, p4⟩
    · exact ⟨n + 1, h1, Nat.le_refl _, h, fun v a b c => hv ⟨v, a, by omega, c⟩⟩
theorem room27 : ∀ l : Fin 4, 604 ≤ dataB 27 l.val ∧ 460 ≤ dataB 26 l.val := by decide +kernel
theorem room9 : ∀ v : Fin 10, ∀ l : Fin 4, 1 ≤ v.val → dataB v.val l.val ≤ 232 := by decide +kernel
theorem alSeg_ge : ∀ (n : Nat) (l : List Nat), l.length ≤ n → 5 * l.length ≤ (alSeg l).length
  | _, [], _ => by simp [alSeg]
  | _, [a], _ => by simp [alSeg, bitsOf_length]
  | 0, a :: b :: r, h => by simp at h
  | n + 1, a :: b :: r, h => by
    have ih := alSeg_ge n r (by simp at h; omega)
    simp only [alSeg, List.length_append, bitsOf_length, List.length_cons]
    omega
theorem ccBits_lo (m v : Nat) (h : v ≤ 9) : ccBits m v = ccBits m 1 := by
  unfold ccBits
  simp only [h, if_true, show (1 : Nat) ≤ 9 by omega]
/-- what both searches find -/
structure Found (l : List Nat) (m lv p v : Nat) : Prop where
  p1 : 1 ≤ p
  p2 : p ≤ 27
  hp : (4 + ccBits m 1 + (segOf m l).length + 7) / 8 ≤ dataB p lv
  hp' : ∀ v, 1 ≤ v → v < p → ¬ (4 + ccBits m 1 + (segOf m l).length + 7) / 8 ≤ dataB v lv
  q1 : 1 ≤ v
  q2 : v ≤ 27
  hq : (4 + ccBits m p + (segOf m l).length + 7) / 8 ≤ dataB v lv
  hq' : ∀ u, 1 ≤ u → u < v → ¬ (4 + ccBits m p + (segOf m l).length + 7) / 8 ≤ dataB u lv
  cc : ccBits m v ≤ ccBits m p
  n : l.length < 2 ^ ccBits m v
theorem segOf_bd (l : List Nat) (m : Nat) (hm : m = 1 ∨ m = 2 ∨ m = 4) (hs : l.length ≤ 600) :
    (segOf m l).length ≤ 4800 ∧ (m ≠ 4 → (segOf m l).length ≤ 3600) ∧ (m = 4 → (segOf m l).length = 8 * l.length) ∧ (m = 2 → 5 * l.length ≤ (segOf m l).length) := by
  have h1 := numSeg_len _ l (Nat.le_refl _)
  have h2 := alSeg_len _ l (Nat.le_refl _)
  have h3 := flat8_length l 8
  have h4 := alSeg_ge _ l (Nat.le_refl _)
  rcases hm with rfl | rfl | rfl
  · simp only [segOf, if_true]; omega
  · simp only [segOf, if_true, show ¬ (2 : Nat) = 1 by omega, if_false]; omega
  · simp only [segOf, show ¬ (4 : Nat) = 1 by omega, show ¬ (4 : Nat) = 2 by omega, if_false]; omega
theorem found (l : List Nat) (m lv : Nat) (hm : m = 1 ∨ m = 2 ∨ m = 4) (hs : l.length ≤ 600) (hl : lv ≤ 3) : ∃ p v, Found l m lv p v := by
  obtain ⟨hb, hb2, hb4, hb5⟩ := segOf_bd l m hm hs
  obtain ⟨r27, r26⟩ := room27 ⟨lv, by omega⟩
  simp only at r27 r26
  obtain ⟨n, hn⟩ : ∃ n, n = (segOf m l).length := ⟨_, rfl⟩
  rw [← hn] at hb hb2 hb4 hb5
  have c1 := ccBits_le m 1
  obtain ⟨p, p1, p2, p3, p4⟩ := least_of (fun v => (4 + ccBits m 1 + n + 7) / 8 ≤ dataB v lv) 27 (by omega) (by omega)
  have c2 := ccBits_le m p
  have small : ∀ v, 1 ≤ v → v ≤ 9 → (4 + ccBits m v + n + 7) / 8 ≤ dataB v lv → l.length < 2 ^ ccBits m v := by
    intro v h1 h9 hf
    have r9 := room9 ⟨v, by omega⟩ ⟨lv, by omega⟩ h1
    simp only at r9
    have c3 := ccBits_le m v
    rcases hm with rfl | rfl | rfl
    · have : ccBits 1 v = 10 := by simp [ccBits, h9]
      rw [this]; omega
    · have : ccBits 2 v = 9 := by simp [ccBits, h9]
      have := hb5 rfl
      rw [‹ccBits 2 v = 9›]; omega
    · have : ccBits 4 v = 8 := by simp [ccBits, h9]
      have := hb4 rfl
      rw [‹ccBits 4 v = 8›]; omega
  by_cases h9 : p ≤ 9
  · have hc := ccBits_lo m p h9
    refine ⟨p, p, ?_⟩
    refine ⟨p1, p2, by rw [← hn]; exact p3, fun v a b => by rw [← hn]; exact p4 v a b, p1, p2, by rw [← hn, hc]; exact p3, fun v a b => by rw [← hn, hc]; exact p4 v a b, Nat.le_refl _, small p p1 h9 (by rw [hc]; exact p3)⟩
  · obtain ⟨v, v1, v2, v3, v4⟩ := least_of (fun v => (4 + ccBits m p + n + 7) / 8 ≤ dataB v lv) 27 (by omega) (by omega)
    have c3 := ccBits_le m v
    have h26 : m ≠ 4 → v ≤ 26 := by
      intro h4
      rcases Nat.lt_or_ge 26 v with h | h
      · exact absurd (show (4 + ccBits m p + n + 7) / 8 ≤ dataB 26 lv by have := hb2 h4; omega) (v4 26 (by omega) h)
      · exact h
    have p26 : m ≠ 4 → p ≤ 26 := by
      intro h4
      rcases Nat.lt_or_ge 26 p with h | h
      · exact absurd (show (4 + ccBits m 1 + n + 7) / 8 ≤ dataB 26 lv by have := hb2 h4; omega) (p4 26 (by omega) h)
      · exact h
    have hcc : ccBits m v ≤ ccBits m p := by
      rcases hm with rfl | rfl | rfl
      · have a := h26 (by omega)
        have b := p26 (by omega)
        simp only [ccBits, if_true, h9, if_false, a, b]; split <;> omega
      · have a := h26 (by omega)
        have b := p26 (by omega)
        simp only [ccBits, if_true, h9, if_false, a, b, show ¬ (2 : Nat) = 1 by omega]; split <;> omega
      · simp only [ccBits, show ¬ (4 : Nat) = 1 by omega, show ¬ (4 : Nat) = 2 by omega, h9, if_false]; split <;> omega
    refine ⟨p, v, ?_⟩
    refine ⟨p1, p2, by rw [← hn]; exact p3, fun v a b => by rw [← hn]; exact p4 v a b, v1, v2, by rw [← hn]; exact v3, fun v a b => by rw [← hn]; exact v4 v a b, hcc, ?_⟩
    by_cases v9 : v ≤ 9
    · exact small v v1 v9 (by omega)
    · have : 11 ≤ ccBits m v := by
        unfold ccBits; repeat' split
        all_goals omega
      have := Nat.pow_le_pow_right (show 0 < 2 by omega) this
      omega
end Go.Proofs.YtcekbhhpcmhicaaGreatDoor
namespace Go.Proofs.YtcekbhhpcmhicaaGreatDoor
open Go.RowKit Go.QW

/-- bit i of bytes, the highest one of each byte first -/
def bitAt (l : List Nat) (i : Nat) : Bool := (nth l (i / 8)).testBit (7 - i % 8)
/-- the number in n bits from bit p on -/
def valAt (l : List Nat) (p : Nat) : Nat → Nat
  | 0 => 0
  | n + 1 => 2 * valAt l p n + (bitAt l (p + n)).toNat
theorem valAt_lt (l : List Nat) (p : Nat) : ∀ n, valAt l p n < 2 ^ n
  | 0 => by simp [valAt]
  | n + 1 => by
    have := valAt_lt l p n
    have hb : (bitAt l (p + n)).toNat ≤ 1 := by cases bitAt l (p + n) <;> simp
    rw [valAt, Nat.pow_succ]; omega
theorem valAt_shift (l : List Nat) (p n v : Nat) (h : ∀ i, i < n → bitAt l (p + i) = (bitsOf n v).getD i false) : ∀ k, k ≤ n → valAt l p k = v % 2 ^ n / 2 ^ (n - k)
  | 0, _ => by
    rw [valAt, Nat.sub_zero, Nat.div_eq_of_lt (Nat.mod_lt _ (Nat.pow_pos (by decide)))]
  | k + 1, hk => by
    have ih := valAt_shift l p n v h k (by omega)
    have hb := h k (by omega)
    rw [bitsOf_getD _ _ _ (by omega)] at hb
    rw [valAt, ih, hb]
    obtain ⟨m, hm⟩ : ∃ m, n - k = m + 1 := ⟨n - k - 1, by omega⟩
    have e1 : n - 1 - k = m := by omega
    have e2 : n - (k + 1) = m := by omega
    rw [hm, e1, e2]
    have ht : v.testBit m = decide (v % 2 ^ n / 2 ^ m % 2 = 1) := by
      rw [← Nat.testBit_eq_decide_div_mod_eq, Nat.testBit_mod_two_pow, decide_eq_true (by omega), Bool.true_and]
    rw [ht, Nat.pow_succ, ← Nat.div_div_eq_div_mul]
    generalize v % 2 ^ n / 2 ^ m = y
    by_cases h1 : y % 2 = 1
    · rw [decide_eq_true h1]; simp only [Bool.toNat_true]; omega
    · rw [decide_eq_false h1]; simp only [Bool.toNat_false]; omega
theorem valAt_bits (l : List Nat) (p n v : Nat) (hv : v < 2 ^ n) (h : ∀ i, i < n → bitAt l (p + i) = (bitsOf n v).getD i false) : valAt l p n = v := by
  rw [valAt_shift l p n v h n (Nat.le_refl _), Nat.sub_self, Nat.pow_zero, Nat.div_one, Nat.mod_eq_of_lt hv]
/-- the bytes begin, from bit p on, with the bits bs -/
def HasAt (l : List Nat) (p : Nat) (bs : List Bool) : Prop := p + bs.length ≤ 8 * l.length ∧ ∀ i, i < bs.length → bitAt l (p + i) = bs.getD i false
theorem HasAt.left {l : List Nat} {p : Nat} {a b : List Bool} (h : HasAt l p (a ++ b)) : HasAt l p a := by
  obtain ⟨h1, h2⟩ := h
  rw [List.length_append] at h1
  refine ⟨by omega, fun i hi => ?_⟩
  rw [h2 i (by rw [List.length_append]; omega), List.getD_eq_getElem?_getD, List.getElem?_append_left hi, List.getD_eq_getElem?_getD]
theorem HasAt.right {l : List Nat} {p : Nat} {a b : List Bool} (h : HasAt l p (a ++ b)) : HasAt l (p + a.length) b := by
  obtain ⟨h1, h2⟩ := h
  rw [List.length_append] at h1
  refine ⟨by omega, fun i hi => ?_⟩
  rw [Nat.add_assoc, h2 (a.length + i) (by rw [List.length_append]; omega), List.getD_eq_getElem?_getD, List.getElem?_append_right (by omega), Nat.add_sub_cancel_left, List.getD_eq_getElem?_getD]
theorem HasAt.val {l : List Nat} {p n v : Nat} (h : HasAt l p (bitsOf n v)) (hv : v < 2 ^ n) : valAt l p n = v :=
  valAt_bits l p n v hv (fun i hi => h.2 i (by rw [bitsOf_length]; exact hi))
theorem HasAt.room {l : List Nat} {p n v : Nat} (h : HasAt l p (bitsOf n v)) : p + n ≤ 8 * l.length := by
  have := h.1; rwa [bitsOf_length] at this
end Go.Proofs.YtcekbhhpcmhicaaGreatDoor
namespace Go.Proofs.YtcekbhhpcmhicaaGreatDoor
open Go.RowKit Go.QW

theorem valAt_add (l : List Nat) (p a : Nat) : ∀ b, valAt l p (a + b) = valAt l p a * 2 ^ b + valAt l (p + a) b
  | 0 => by simp [valAt]
  | b + 1 => by
    have ih := valAt_add l p a b
    have e : valAt l p a * 2 ^ (b + 1) = 2 * (valAt l p a * 2 ^ b) := by rw [Nat.pow_succ, ← Nat.mul_assoc, Nat.mul_comm]
    rw [← Nat.add_assoc, valAt, ih, valAt, e, Nat.add_assoc p a b]
    omega
/-- within one byte -/
theorem valAt_in (l : List Nat) (p : Nat) : ∀ n, p % 8 + n ≤ 8 → valAt l p n = nth l (p / 8) / 2 ^ (8 - p % 8 - n) % 2 ^ n
  | 0, _ => by simp [valAt, Nat.mod_one]
  | n + 1, h => by
    have ih := valAt_in l p n (by omega)
    obtain ⟨m, hm⟩ : ∃ m, 8 - p % 8 - n = m + 1 := ⟨8 - p % 8 - n - 1, by omega⟩
    rw [valAt, ih, hm, show 8 - p % 8 - (n + 1) = m by omega]
    have hb : bitAt l (p + n) = decide (nth l (p / 8) / 2 ^ m % 2 = 1) := by
      unfold bitAt
      rw [show (p + n) / 8 = p / 8 by omega, show 7 - (p + n) % 8 = m by omega, Nat.testBit_eq_decide_div_mod_eq]
    rw [hb, Nat.pow_succ 2 m, ← Nat.div_div_eq_div_mul]
    generalize nth l (p / 8) / 2 ^ m = y
    rw [Nat.pow_succ, Nat.mul_comm (2 ^ n) 2, Nat.mod_mul]
    by_cases h1 : y % 2 = 1
    · rw [decide_eq_true h1, h1]; simp only [Bool.toNat_true]; omega
    · rw [decide_eq_false h1]; simp only [Bool.toNat_false]; omega
theorem valAt_byte (l : List Nat) (k : Nat) (h : nth l k < 256) : valAt l (8 * k) 8 = nth l k := by
  rw [valAt_in l (8 * k) 8 (by omega), show 8 * k / 8 = k by omega, show 8 * k % 8 = 0 by omega]
  simp only [Nat.sub_zero, Nat.sub_self, Nat.pow_zero, Nat.div_one]
  exact Nat.mod_eq_of_lt h
/-- the mask and the shift of a part of a byte -/
def partB (b o n : Nat) : Nat := (b &&& ((255 >>> (8 - n)) <<< (8 - o - n))) >>> (8 - o - n)
theorem part_all : ∀ o : Fin 8, ∀ n : Fin 9, o.val + n.val ≤ 8 → ∀ b : Fin 256, partB b.val o.val n.val = b.val / 2 ^ (8 - o.val - n.val) % 2 ^ n.val := by decide +kernel
theorem part_eq (b o n : Nat) (hb : b < 256) (h : o + n ≤ 8) : partB b o n = b / 2 ^ (8 - o - n) % 2 ^ n := by
  by_cases h8 : o < 8
  · exact part_all ⟨o, h8⟩ ⟨n, by omega⟩ h ⟨b, hb⟩
  · obtain rfl : o = 8 := by omega
    obtain rfl : n = 0 := by omega
    unfold partB
    simp [Nat.mod_one]
/-- the bytes of the bits -/
theorem byteAt_bit (bs : List Bool) (o i : Nat) (h : i < 8) : (byteAt bs o).testBit (7 - i) = bs.getD (o + i) false := by
  have key : ∀ (f : Nat → Bool) (k j : Nat), k ≤ 8 → j < 8 → (byN f k).testBit (7 - j) = if j < k then f j else false := by
    intro f k
    induction k with
    | zero => intro j _ _; simp [byN]
    | succ k ih =>
      intro j hk hj
      unfold byN
      by_cases hf : f k = true
      · rw [if_pos hf, Nat.testBit_or, ih j (by omega) hj, Nat.testBit_two_pow]
        by_cases e : j = k
        · subst e; rw [decide_eq_true rfl, Bool.or_true, if_pos (by omega), hf]
        · rw [decide_eq_false (by omega), Bool.or_false]
          by_cases l : j < k
          · rw [if_pos l, if_pos (by omega)]
          · rw [if_neg l, if_neg (by omega)]
      · rw [if_neg hf, ih j (by omega) hj]
        by_cases e : j = k
        · subst e
          rw [if_neg (by omega), if_pos (by omega)]
          exact (Bool.eq_false_iff.2 hf).symm
        · by_cases l : j < k
          · rw [if_pos l, if_pos (by omega)]
          · rw [if_neg l, if_neg (by omega)]
  have := key (fun j => bs.getD (o + j) false) 8 i (by omega) h
  rw [if_pos h] at this
  exact this
/-- the bytes of the bits, one after the other -/
def bytesAt (bs : List Bool) (n : Nat) : List Nat := tab n (fun i => byteAt bs (8 * i))
theorem bytesAt_hasAt (bs : List Bool) (n : Nat) (h : bs.length = 8 * n) : HasAt (bytesAt bs n) 0 bs := by
  refine ⟨by unfold bytesAt; rw [tab_length]; omega, fun i hi => ?_⟩
  unfold bitAt bytesAt
  rw [Nat.zero_add, nth_tab (by omega), byteAt_bit _ _ _ (by omega), show 8 * (i / 8) + i % 8 = i by omega]
end Go.Proofs.YtcekbhhpcmhicaaGreatDoor
namespace Go.Proofs.YtcekbhhpcmhicaaGreatDoor
open Go.RowKit Go.QW Go.QI

theorem stream_tail (N : Nat) (bs : List Bool) (h : bs.length ≤ 8 * N) : ∃ t, term3 N (term2 (term1 N bs)) = bs ++ t ∧ (t.length < 4 ∨ ∃ r, t = bitsOf 4 0 ++ r) := by
  by_cases h4 : bs.length + 4 ≤ 8 * N
  · have e1 : term1 N bs = bs ++ bitsOf 4 0 := by
      unfold term1
      rw [Nat.min_eq_left (by omega)]
      rfl
    refine ⟨bitsOf 4 0 ++ (List.replicate ((8 - (term1 N bs).length % 8) % 8) false ++ padsOf (N - ((term2 (term1 N bs)).length + 7) / 8)), ?_, .inr ⟨_, rfl⟩⟩
    unfold term3
    generalize padsOf (N - ((term2 (term1 N bs)).length + 7) / 8) = P
    unfold term2
    generalize List.replicate ((8 - (term1 N bs).length % 8) % 8) false = Q
    rw [e1]
    simp only [List.append_assoc]
  · have hl : (term1 N bs).length = 8 * N := by rw [term1_length, Nat.min_eq_right (by omega)]; omega
    have e2 : term2 (term1 N bs) = term1 N bs := by
      unfold term2
      rw [hl, show (8 - 8 * N % 8) % 8 = 0 by omega]
      simp
    have e3 : term3 N (term2 (term1 N bs)) = term1 N bs := by
      rw [e2]
      unfold term3
      rw [hl, show N - (8 * N + 7) / 8 = 0 by omega]
      simp [padsOf]
    refine ⟨List.replicate (min 4 (8 * N - bs.length)) false, by rw [e3]; rfl, .inl ?_⟩
    rw [List.length_replicate, Nat.min_eq_right (by omega)]
    omega
theorem datOf_bytes (R q m : Nat) (bs : List Bool) (j i : Nat) (hm : m < R) (hj : j < R) (hi : i < dl R q m j) : nth (datOf R q m bs j) i = nth (bytesAt bs (q * R + m)) (off R q m j + i) := by
  have h1 := off_succ R q m j
  have h2 := off_le (R := R) (q := q) (m := m) (j := j + 1) (by omega) (by omega)
  unfold datOf bytesAt
  rw [nth_tab hi, nth_tab (by omega), Nat.mul_add]
theorem datOf_length (R q m : Nat) (bs : List Bool) (j : Nat) : (datOf R q m bs j).length = dl R q m j := by unfold datOf; rw [tab_length]
/-- value of k bits of the list from p on -/
def valS (S : List Bool) (p : Nat) : Nat → Nat
  | 0 => 0
  | k + 1 => 2 * valS S p k + (S.getD (p + k) false).toNat
theorem valS_lt (S : List Bool) (p : Nat) : ∀ k, valS S p k < 2 ^ k
  | 0 => by simp [valS]
  | k + 1 => by
    have h := valS_lt S p k
    have h2 : (S.getD (p + k) false).toNat ≤ 1 := by cases S.getD (p + k) false <;> simp
    rw [valS, Nat.pow_succ]
    omega
theorem valS_shift (S : List Bool) (p n v : Nat) (h : ∀ i, i < n → S.getD (p + i) false = (bitsOf n v).getD i false) : ∀ k, k ≤ n → valS S p k = v % 2 ^ n / 2 ^ (n - k)
  | 0, _ => by
    rw [valS, Nat.sub_zero, Nat.div_eq_of_lt (Nat.mod_lt _ (Nat.pow_pos (by decide)))]
  | k + 1, hk => by
    have ih := valS_shift S p n v h k (by omega)
    have hb := h k (by omega)
    rw [bitsOf_getD _ _ _ (by omega)] at hb
    rw [valS, ih, hb]
    obtain ⟨m, hm⟩ : ∃ m, n - k = m + 1 := ⟨n - k - 1, by omega⟩
    have e1 : n - 1 - k = m := by omega
    have e2 : n - (k + 1) = m := by omega
    rw [hm, e1, e2]
    have ht : v.testBit m = decide (v % 2 ^ n / 2 ^ m % 2 = 1) := by
      rw [← Nat.testBit_eq_decide_div_mod_eq, Nat.testBit_mod_two_pow, decide_eq_true (by omega), Bool.true_and]
    rw [ht, Nat.pow_succ, ← Nat.div_div_eq_div_mul]
    generalize v % 2 ^ n / 2 ^ m = y
    by_cases h1 : y % 2 = 1
    · rw [decide_eq_true h1]; simp only [Bool.toNat_true]; omega
    · rw [decide_eq_false h1]; simp only [Bool.toNat_false]; omega
theorem valS_bits (S : List Bool) (p n v : Nat) (hv : v < 2 ^ n) (h : ∀ i, i < n → S.getD (p + i) false = (bitsOf n v).getD i false) : valS S p n = v := by
  rw [valS_shift S p n v h n (Nat.le_refl _), Nat.sub_self, Nat.pow_zero, Nat.div_one, Nat.mod_eq_of_lt hv]
theorem flat8_getD (l : List Nat) : ∀ j i, j < l.length → i < 8 → (l.flatMap (bitsOf 8)).getD (8 * j + i) false = (bitsOf 8 (nth l j)).getD i false := by
  induction l with
  | nil => intro j i h; simp at h
  | cons x l ih =>
    intro j i hj hi
    rw [List.flatMap_cons, List.getD_eq_getElem?_getD]
    cases j with
    | zero =>
      rw [List.getElem?_append_left (by rw [bitsOf_length]; omega), ← List.getD_eq_getElem?_getD, Nat.mul_zero, Nat.zero_add]
      rfl
    | succ j =>
      rw [List.getElem?_append_right (by rw [bitsOf_length]; omega), bitsOf_length, ← List.getD_eq_getElem?_getD, show 8 * (j + 1) + i - 8 = 8 * j + i by omega, ih j i (by simp at hj; omega) hi]
      rfl
theorem valS_word (cw : List Nat) (j : Nat) (hj : j < cw.length) (h : nth cw j < 256) : valS (cw.flatMap (bitsOf 8)) (8 * j) 8 = nth cw j :=
  valS_bits _ _ 8 _ h (fun i hi => flat8_getD cw j i hj hi)
end Go.Proofs.YtcekbhhpcmhicaaGreatDoor
