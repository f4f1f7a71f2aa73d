/- The decoder on a matrix that bears a text without errors: the walk of decode; From rows of bools to the decoder's answer: ParseBoolMapToBitMatrix, NewDecoder, Decode, impl.decoded, impl.QRDecode; The picture of a square of modules, its diagonal, first and last bits of a word: plain laws; The decoder's doors: NewDecoder, Decode, DecodeBoolMap. -/
import Derived.Test.YtcekbhhpcmhicaaGreatDoorM02
import Derived.Test.YtcekbhhpcmhicaaGreatDoorM04
import Derived.Test.YtcekbhhpcmhicaaGreatDoorM07
import Derived.Test.YtcekbhhpcmhicaaGreatDoorM31
namespace Go.Proofs.YtcekbhhpcmhicaaGreatDoor
open Go.RowKit Go.QW Go.QGF Go.QI Go.QM Go.QV Go.QZ
theorem DbS.kpS {w0 wr w' : World} {B RB R q m ec n : Nat} {P G : Nat → Nat} {C : Nat → List Nat} {S : List Nat} (h : DbS w0 wr B RB R q m ec n P G C) (hk : Kp S wr w') (h1 : RB ∉ S) (h2 : ∀ j, j < n → P j ∉ S) (h3 : ∀ j, j < n → G j ∉ S) (h4 : ∀ k, k ∈ S → B ≤ k) (hB : B ≤ wr.heap.size) : DbS w0 w' B RB R q m ec n P G C :=
  ⟨h.arr.kp hk h1, fun j hj => (h.blk j hj).kp hk (h2 j hj), fun j hj => ⟨(h.dat j hj).1.kp hk (h3 j hj), (h.dat j hj).2⟩, h.inj, h.new, h.newB, below_of_kp h.below hk hB h4⟩
theorem DbS.same {w0 wr w' : World} {B RB R q m ec n j : Nat} {P G : Nat → Nat} {C : Nat → List Nat} (h : DbS w0 wr B RB R q m ec n P G C) (hj : j < n) (hk : Kp [G j] wr w') (hG : Blk w' (G j) 5 (ints .u8 (C j))) (hB : B ≤ wr.heap.size) : DbS w0 w' B RB R q m ec n P G C := by
  have hd := (h.dat j hj).1
  refine ⟨h.arr.kp hk (by simpa using h.arr.ne_ hd (by decide)), fun i hi => (h.blk i hi).kp hk (by simpa using (h.blk i hi).ne_ hd (by decide)), fun i hi => ?_, h.inj, h.new, h.newB, below_of_kp h.below hk hB (by intro k hk'; simp only [List.mem_cons, List.not_mem_nil, or_false] at hk'; subst hk'; exact (h.new j hj).1)⟩
  by_cases e : i = j
  · subst e; exact ⟨hG, (h.dat i hi).2⟩
  · have hne : G i ≠ G j := by
      rcases Nat.lt_or_ge i j with hh | hh
      · exact h.inj i j hh hj
      · exact fun ee => h.inj j i (by omega) hi ee.symm
    exact ⟨(h.dat i hi).1.kp hk (by simpa using hne), (h.dat i hi).2⟩
theorem offU {w : World} {Z : Nat} {cs : Array Value} (h : Blk w Z 5 cs) (ts : List Nat) (ht : 5 ∉ ts) : Off w [Z] ts := by
  intro k hk t arr hb
  simp only [List.mem_cons, List.not_mem_nil, or_false] at hk
  subst hk
  rw [← Blk.ty h hb]; exact ht
section
variable {w : World}
set_option maxHeartbeats 16000000 in
set_option maxRecDepth 100000 in
theorem decode1_any {D RD F P A g d v l k N : Nat} {f : Nat → Nat → Bool} {s : ByteArray} {m : Nat} {cw : List Nat} {es : Nat → List Nat} (hD : DecOk w D RD F) (hP : Psr w P A (.pointer none) (.pointer none)) (hM : BM w A g d f) (hd : d = 17 + 4 * v) (h1 : 1 ≤ v) (h27 : v ≤ 27) (hl : l ≤ 3) (hk : k < 8)
    (hfm : FmtIn d (fmtT (l * 8 + k)) f) (hvi : 7 ≤ v → VerIn d (verT v) f) (hdat : DatIn v k (cw.flatMap (bitsOf 8)) f) (hcw : CwOk v l (streamOf v l m s) cw es) (hcb : ∀ i, nth cw i < 256) (hm : m = modeOf (bytesOf s)) (hN : N = dataB v l)
    (hfit : 4 + ccBits m v + (segOf m (bytesOf s)).length ≤ 8 * N) (hn : s.size < 2 ^ ccBits m v) (hs1 : 1 ≤ s.size) (h600 : s.size ≤ 1000) :
    Calls Tryz.prog 175 #[.pointer (some ⟨D, 0, none⟩), .pointer (some ⟨P, 0, none⟩), .map none] w fun e w' => ∃ Res Z, e = .returned (.tuple #[.pointer (some ⟨Res, 0, none⟩), .nilIface]) ∧ ResOk w' Res Z N s l ∧ Blk w' Z 5 (ints .u8 (bytesAt (streamOf v l m s) N)) ∧ Kp [P, g] w w' := by
  have ok := lv_ok v l h1 (by omega) hl
  have hsh := shape_of v l h1 h27 hl
  have htN : N = total v - (lv v l).1 * numB (lv v l).2 := hN
  have hfits := ok.fits
  have htot := ok.tot
  have hec := ok.ec
  have hec1 := ok.ec1
  have hdec := hcw.ec
  have hat := hcw.at_
  have hcl := hcw.len
  rw [← hN] at hsh hdec hat
  obtain ⟨R, hR⟩ : ∃ R, R = numB (lv v l).2 := ⟨_, rfl⟩
  obtain ⟨ec, hece⟩ : ∃ ec, ec = (lv v l).1 := ⟨_, rfl⟩
  rw [← hR] at hsh hdec hat hfits htN
  rw [← hece] at hdec hat hfits htN hec hec1
  obtain ⟨q, hq⟩ : ∃ q, q = N / R := ⟨_, rfl⟩
  obtain ⟨mm, hmm⟩ : ∃ mm, mm = N % R := ⟨_, rfl⟩
  rw [← hq, ← hmm] at hsh hdec hat
  have hqN : N = q * R + mm := by rw [hq, hmm, Nat.mul_comm]; exact (Nat.div_add_mod N R).symm
  have hTot : total v = q * R + mm + ec * R := by rw [← hqN]; omega
  obtain ⟨bs, hbs⟩ : ∃ bs, bs = streamOf v l m s := ⟨_, rfl⟩
  rw [← hbs] at hdec hat
  have hfill : ∀ j, j < R → fillC R q mm ec cw (total v) j = datOf R q mm bs j ++ es j := fun j hj => fillC_all hsh.m1 hj (hdec j hj).1 _ hTot (fun p hp => hat j p hj hp)
  have hNb : N ≤ 4000 ∧ 1 ≤ R ∧ R ≤ 100 ∧ 1 ≤ q := ⟨by omega, hsh.R1, hsh.R2, hsh.q1⟩
  have hm1 := hsh.m1
  have HSH := Lib.hid hsh
  have HDEC := Lib.hid hdec
  have HFILL := Lib.hid hfill
  have HQN := Lib.hid hqN
  have HTOT := Lib.hid hTot
  have HEC := Lib.hid hece
  have HBS := Lib.hid hbs
  have HD := Lib.hid hd
  have HN := Lib.hid hN
  have HCL := Lib.hid hcl
  have HFM := Lib.hid hfm
  have HVI := Lib.hid hvi
  have HDAT := Lib.hid hdat
  have HCB := Lib.hid hcb
  have HM := Lib.hid hm
  have HFIT := Lib.hid hfit
  have hdb : 21 ≤ d ∧ d ≤ 200 := by omega
  have ht32 : l * 8 + k < 32 := by omega
  have hl4 : l < 4 := by omega
  clear hsh hdec hat hfill hqN hTot hece hbs hd hN hcl hfm hvi hdat hcb hm hfit hq hmm hR htN hcw ok hfits htot
  have hPg : P ≠ g := by
    obtain ⟨ws, r, -, -, hA, hg, -⟩ := hM.ex
    exact fun e => by subst e; exact absurd (Blk.ty hP hg) (by decide)
  have hPA : P ≠ A := by
    obtain ⟨ws, r, -, -, hA, hg, -⟩ := hM.ex
    exact fun e => by subst e; exact absurd (Blk.ty hP hA) (by decide)
  go_enter Tryz.func175, Tryz.ntmps175
  go_wp2_with fail
  refine (readver_any hP hM HD.out h1 h27 HVI.out).mono ?_
  rintro e w1 ⟨V, pv, rfl, hV1, hP1, hpv1, hk1⟩
  have hM1 := hM.kp hk1 (by simpa using Ne.symm hPA) (by simpa using Ne.symm hPg)
  have hoffP : ∀ {w' : World} {pv pf : Value}, Psr w' P A pv pf → ∀ ts : List Nat, 333 ∉ ts → Off w' [P] ts := by
    intro w' pv pf h ts ht k hk t arr hb
    simp only [List.mem_cons, List.not_mem_nil, or_false] at hk
    subst hk
    rw [← Blk.ty h hb]; exact ht
  go_wp2_with fail
  refine (readfmt_any (l * 8 + k) ht32 hP1 hM1 hdb.1 hdb.2 HFM.out).mono ?_
  rintro e w2 ⟨F0, rfl, hF0, hP2, hk2, hF0n⟩
  rw [show (l * 8 + k) / 8 = l by omega, show (l * 8 + k) % 8 = k by omega] at hF0
  have hM2 := hM1.kp hk2 (by simpa using Ne.symm hPA) (by simpa using Ne.symm hPg)
  have hV2 := hV1.kp hk2 (hoffP hP1 _ (by decide))
  have hpv2 := hpv1.kp hk2 (hoffP hP1 _ (by decide))
  have hD2 := (hD.kp hk1 (hoffP hP _ (by decide))).kp hk2 (hoffP hP1 _ (by decide))
  have hk02 : Kp [P, g] w w2 := (hk1.mono (by intro k hk _; simp at hk; simp [hk]) : Kp [P, g] w w1).trans hk2 (by intro i hi _; simp at hi; simp [hi])
  clear hk1 hk2 hM1 hV1 hpv1 hP1 hoffP
  go_wp2_with fail
  refine (filev_any hF0).mono ?_
  rintro e w2' ⟨rfl, rfl⟩
  go_wp2_with fail
  refine (readcw_any hk hP2 hF0 hpv2 hM2 HD.out h1 h27 HVI.out HDAT.out HCL.out HCB.out).mono ?_
  rintro e w3 ⟨G0, rfl, hG0, hG0n, hk3⟩
  have hoff3 : ∀ ts : List Nat, 333 ∉ ts → 252 ∉ ts → Off w2 [P, g] ts := by
    intro ts h1 h2 k hk t arr hb
    obtain ⟨ws, r, -, -, hA, hgb, -⟩ := hM2.ex
    simp only [List.mem_cons, List.not_mem_nil, or_false] at hk
    rcases hk with rfl | rfl
    · rw [← Blk.ty hP2 hb]; exact h1
    · rw [← Blk.ty hgb hb]; exact h2
  have hV3 := hV2.kp hk3 (hoff3 _ (by decide) (by decide))
  have hD3 := hD2.kp hk3 (hoff3 _ (by decide) (by decide))
  have hk03 : Kp [P, g] w w3 := hk02.trans hk3 (by intro i hi _; exact hi)
  clear hk3 hk02 hM2 hV2 hD2 hpv2 hP2 hF0 hoff3 hD hP hM
  go_wp2_with fail
  refine (blocks_any hV3 h1 h27 hl hG0 HCL.out HSH.out HEC.out.symm hec1 hec HTOT.out).mono ?_
  rintro e w4 ⟨RB, Pf, G, rfl, hDb⟩
  have hDb := hDb.congr (fun j hj => HFILL.out j hj)
  have hb4 := hDb.below
  have hs4 := hb4.size
  have hV4 := hV3.below hb4
  have hD4 := hD3.kp (Kp.of_below hb4 : Kp [] w3 w4) (by intro k hk; simp at hk)
  have HV3 := Lib.hid hV3
  clear hV3 hD3 hG0
  go_wp2_with fail
  go_loop [14, 67] (fun t14 t67 => ∃ j o : Nat, j ≤ R ∧ t67 = .int .i64 (j : Nat) ∧ t14 = .int .i64 (o : Nat) ∧ Hid (o = off R q mm j) ∧ o ≤ N) (fun _ t67 => R - (intOf t67).toNat)
  case atStart => exact ⟨0, 0, by omega, rfl, rfl, Lib.hid (by simp [off]), by omega⟩
  case round =>
    obtain ⟨j, o, hj, rfl, rfl, HO, hoN⟩ := hrel
    by_cases hlt : j < R
    · have hdj : decide ((j : Int) < (R : Int)) = true := by simp; omega
      have cA := hDb.arr.cell j
      rw [dbArr_get hlt, if_pos hlt] at cA
      have hos := off_succ R q mm j
      have hle := off_le (R := R) (q := q) (m := mm) (j := j + 1) (by omega) (by omega)
      rw [← HQN.out, hos, ← HO.out] at hle
      rw [← HO.out] at hos
      have HOS := Lib.hid hos
      clear hos
      go_wp2_with fail
      refine (dbnum_any (hDb.blk j hlt)).mono ?_
      rintro e w2' ⟨rfl, rfl⟩
      obtain ⟨dj, hdj2⟩ : ∃ dj, dj = dl R q mm j := ⟨_, rfl⟩
      rw [← hdj2] at hle HOS ⊢
      clear hdj2 cA
      go_wp2_with fail
      go_round
      case rel => exact ⟨j + 1, o + dj, by omega, by go_num, by go_num, Lib.hid (by rw [HOS.out]), hle⟩
      case measure => simp [intOf]; omega
    · have hdj : decide ((j : Int) < (R : Int)) = false := by simp; omega
      have hoe : o = N := by
        have hje : j = R := by omega
        rw [HO.out, hje, off_all R q mm (by omega), HQN.out]
      rw [hoe]
      clear hoe HO hoN
      have hmk := fun w => make_flat (P := Tryz.prog) (t := 30) (e := 5) (by kernel_rfl) (k := .u8) (b := 1) (by kernel_rfl) (by omega) N (N : Int) rfl (by omega) w
      go_wp2_with fail
      clear hmk
      have hZ0 := Blk.new w4 5 (ints .u8 (List.replicate N 0))
      have hk5 : Kp [] w4 (w4.alloc (.cells (ints .u8 (List.replicate N 0)) 5)) := (Kp.refl [] w4).alloc _
      obtain ⟨w5, hw5⟩ : ∃ w5, w5 = w4.alloc (.cells (ints .u8 (List.replicate N 0)) 5) := ⟨_, rfl⟩
      rw [← hw5] at hZ0 hk5 ⊢
      clear hw5
      obtain ⟨Z, hZe⟩ : ∃ Z, Z = w4.heap.size := ⟨_, rfl⟩
      rw [← hZe] at hZ0 ⊢
      have hDb5 := hDb.kp0 hk5 hs4
      have hD5 := hD4.kp hk5 (by intro k hk; simp at hk)
      have hV5 := hV4.kp hk5 (by intro k hk; simp at hk)
      have hGZ : ∀ j, j < R → G j ≠ Z := fun j hj => by have := (hDb.dat j hj).1.lt; omega
      have hZB : w3.heap.size ≤ Z := by omega
      have hs5 : w3.heap.size ≤ w5.heap.size := by have := hk5.size; omega
      have HGZ := Lib.hid hGZ
      clear hDb hD4 hV4 hb4 hs4 hZe hk5 hGZ
      rw [← tab_zero] at hZ0
      obtain ⟨Lb, hLb⟩ : ∃ Lb, Lb = bytesAt bs N := ⟨_, rfl⟩
      have HLB := Lib.hid hLb
      clear hLb
      go_loopw [18, 80] (fun t18 t80 wr => ∃ j o : Nat, j ≤ R ∧ t80 = .int .i64 (j : Nat) ∧ t18 = .int .i64 (o : Nat) ∧ Hid (o = off R q mm j) ∧ Blk wr Z 5 (ints .u8 (tab N fun x => if x < o then nth Lb x else 0)) ∧ DbS w3 wr w3.heap.size RB R q mm ec R Pf G (fun j => datOf R q mm bs j ++ es j) ∧ DecOk wr D RD F ∧ w3.heap.size ≤ wr.heap.size) (fun _ t80 _ => R - (intOf t80).toNat)
      case atStart => exact ⟨0, 0, by omega, rfl, rfl, Lib.hid (by simp [off]), by
        have e : (tab N fun x => if x < 0 then nth Lb x else 0) = tab N fun _ => 0 := tab_congr (fun i _ => by rw [if_neg (by omega)])
        rw [e]; exact hZ0, hDb5, hD5, hs5⟩
      case round =>
        obtain ⟨j, o, hj, rfl, rfl, HO, hZr, hDr, hDk, hsr⟩ := hrel
        by_cases hlt : j < R
        · have hdj : decide ((j : Int) < (R : Int)) = true := by simp; omega
          have cA := hDr.arr.cell j
          rw [dbArr_get hlt, if_pos hlt] at cA
          have hos := off_succ R q mm j
          have hle := off_le (R := R) (q := q) (m := mm) (j := j + 1) (by omega) (by omega)
          rw [← HQN.out, hos, ← HO.out] at hle
          rw [← HO.out] at hos
          have HOS := Lib.hid hos
          clear hos
          obtain ⟨hdt, hdl⟩ := hDr.dat j hlt
          obtain ⟨he1, he2, he3⟩ := HDEC.out j hlt
          have hokd : Ok (datOf R q mm bs j ++ es j) := by
            intro x hx
            rw [List.mem_append] at hx
            rcases hx with hx | hx
            · unfold datOf tab at hx
              rw [List.mem_map] at hx
              obtain ⟨i, -, rfl⟩ := hx
              exact byteAt_lt _ _
            · exact he2 x hx
          have hblk := hDr.blk j hlt
          have hdq : 1 ≤ dl R q mm j ∧ dl R q mm j ≤ 201 := by
            have := HSH.out.q2
            rcases dl_cases R q mm j with ⟨_, e⟩ | ⟨_, e⟩ <;> rw [e] <;> omega
          have hDB : ∀ i, i < dl R q mm j → nth (datOf R q mm bs j ++ es j) i = nth Lb (o + i) := fun i hi => by
            rw [nth_append_left (by rw [datOf_length]; exact hi), datOf_bytes R q mm bs j i hm1 hlt hi, ← HO.out, HLB.out, HQN.out]
          obtain ⟨dj, hdj2⟩ : ∃ dj, dj = dl R q mm j := ⟨_, rfl⟩
          rw [← hdj2] at hle HOS hblk hdq hdl hDB
          obtain ⟨al, hal⟩ : ∃ al, al = dj + ec := ⟨_, rfl⟩
          rw [← hal] at hblk hdl
          have halb : dj + ec ≤ al ∧ al ≤ dj + ec := by omega
          have HDL := Lib.hid hdl
          have HAL := Lib.hid hal
          have HDB := Lib.hid hDB
          have HZZ := Lib.hid he3
          have HOK := Lib.hid hokd
          clear hdj2 hal hdl hDB he3 hokd he1 he2
          go_wp2_with fail
          refine (dbcw_any hblk).mono ?_
          rintro e w2' ⟨rfl, rfl⟩
          clear cA
          go_wp2_with fail
          refine (dbnum_any hblk).mono ?_
          rintro e w2' ⟨rfl, rfl⟩
          go_wp2_with fail
          refine (correct_any hDk hdt HDL.out.symm HOK.out (by omega) (by omega) HAL.out (by omega) HZZ.out).mono ?_
          rintro e w6 ⟨rfl, hG6, hk6⟩
          have hD6 := hDr.same hlt hk6 hG6 hsr
          have hDk6 := hDk.kp hk6 (offU hdt _ (by decide))
          have hZ6 := hZr.kp hk6 (by simpa using Ne.symm (HGZ.out j hlt))
          have hs6 : w3.heap.size ≤ w6.heap.size := by have := hk6.size; omega
          have hZG := HGZ.out j hlt
          clear hDr hDk hZr hdt hblk hk6 hsr
          go_wp2_with fail
          obtain ⟨o0, rfl⟩ : ∃ o0, o0 = o := ⟨_, rfl⟩
          obtain ⟨wo, rfl⟩ : ∃ wo : World, wo = wr := ⟨_, rfl⟩
          go_loopw [18, 24] (fun t18 t24 wr => ∃ i o : Nat, i ≤ dj ∧ t24 = .int .i64 (i : Nat) ∧ (o0 + i ≤ o ∧ o ≤ o0 + i) ∧ t18 = .int .i64 (o : Nat) ∧ Blk wr Z 5 (ints .u8 (tab N fun x => if x < o then nth Lb x else 0)) ∧ Kp [Z] w6 wr) (fun _ t24 _ => dj - (intOf t24).toNat)
          case atStart => exact ⟨0, o0, by omega, rfl, by omega, rfl, hZ6, Kp.refl _ _⟩
          case round =>
            obtain ⟨i, o, hi, rfl, ho, rfl, hZr, hkr⟩ := hrel
            have hGr := hG6.kp hkr (by simpa using hZG)
            by_cases hlt2 : i < dj
            · have hdi : decide ((i : Int) < (dj : Int)) = true := by simp; omega
              have cg := hGr.cell i
              rw [ints_get (by rw [HDL.out]; omega), HDB.out i hlt2, show o0 + i = o by omega] at cg
              have cz := hZr.cell o
              rw [ints_get (by rw [tab_length]; omega)] at cz
              have fz := hZr.frozen o
              have hset := hZr.set_ o (.int .u8 (nth Lb o : Nat))
              rw [ints_set, tab_fill0] at hset
              obtain ⟨b, hb⟩ : ∃ b, b = nth Lb o := ⟨_, rfl⟩
              obtain ⟨z, hz⟩ : ∃ z, z = nth (tab N fun x => if x < o then nth Lb x else 0) o := ⟨_, rfl⟩
              rw [← hb] at cg hset
              rw [← hz] at cz
              have HSET := Lib.hid hset
              clear hb hz hset
              go_wp2_with fail
              go_roundw
              case rel => exact ⟨i + 1, o + 1, by omega, by go_num, by omega, by go_num, HSET.out, hkr.setCell (by simp) _⟩
              case measure => simp [intOf]; omega
            · have hdi : decide ((i : Int) < (dj : Int)) = false := by simp; omega
              go_wp2_with fail
              go_roundw
              case rel =>
                have hoo : o = o0 + dj := by omega
                refine ⟨j + 1, o, by omega, by go_num, rfl, Lib.hid (by rw [HOS.out]; exact hoo), hZr, ?_, hDk6.kp hkr (offU hZ6 _ (by decide)), by have := hkr.size; omega⟩
                exact hD6.kpS hkr (by simpa using hD6.arr.ne_ hZ6 (by decide)) (fun j hj => by simpa using (hD6.blk j hj).ne_ hZ6 (by decide)) (fun j hj => by simpa using HGZ.out j hj) (by intro k hk; simp at hk; omega) hs6
              case measure => simp [intOf]; omega
        · have hdj : decide ((j : Int) < (R : Int)) = false := by simp; omega
          have hoe : o = N := by
            have hje : j = R := by omega
            rw [HO.out, hje, off_all R q mm (by omega), HQN.out]
          have hZb : Blk wr Z 5 (ints .u8 (bytesAt bs N)) := by
            have e : (tab N fun x => if x < o then nth Lb x else 0) = bytesAt bs N := by
              rw [hoe]
              have hl : (bytesAt bs N).length = N := by unfold bytesAt; rw [tab_length]
              have := tab_nth (bytesAt bs N)
              rw [hl] at this
              rw [← this]
              exact tab_congr (fun i hi => by rw [if_pos hi, HLB.out])
            rw [← e]; exact hZr
          have hVr : Ver wr V v := by
            have hbl := hDr.below
            exact HV3.out.below hbl
          clear hoe hZr HO
          go_wp2_with fail
          refine (parse_any (m := m) (s := s) HM.out (by rw [← HBS.out]; exact hZb) HN.out hNb.1 hVr h27 hl4 HFIT.out hn hs1 h600).mono ?_
          rintro e w7 ⟨Res, rfl, hRes, hb7⟩
          go_wp2_with fail
          go_ret2
          refine ⟨Res, Z, rfl, hRes, ?_, hk03.trans ((Kp.of_below hDr.below : Kp [P, g] w3 wr).trans (Kp.of_below hb7 : Kp [P, g] wr w7) (by intro i hi _; exact hi)) (by intro i hi _; exact hi)⟩
          rw [← HBS.out]
          exact hZb.below hb7 hZb.lt
end
end Go.Proofs.YtcekbhhpcmhicaaGreatDoor
namespace Go.Proofs.YtcekbhhpcmhicaaGreatDoor
open Go.RowKit Go.QW Go.QGF Go.QI Go.QM Go.QV Go.QZ
def bools (n : Nat) (f : Nat → Bool) : Array Value := ((List.range n).map fun x => Value.bool (f x)).toArray
theorem bools_get {n x : Nat} {f : Nat → Bool} (h : x < n) : (bools n f)[x]? = some (.bool (f x)) := by
  unfold bools
  rw [List.getElem?_toArray, List.getElem?_map, List.getElem?_range h]; rfl
/-- n rows of n bools; block hb holds the rows' slices -/
def BoolMap (w : World) (hb n : Nat) (f : Nat → Nat → Bool) : Prop := hb < w.heap.size ∧ ∀ y, y < n → ∃ gy, w.cell? ⟨hb, y, none⟩ = some (.slice (some ⟨gy, 0, none⟩) n n) ∧ Blk w gy 4 (bools n (f y))
theorem BoolMap.below {w w' : World} {hb n : Nat} {f : Nat → Nat → Bool} (h : BoolMap w hb n f) (hbl : Below w.heap.size w w') : BoolMap w' hb n f := by
  refine ⟨Nat.lt_of_lt_of_le h.1 hbl.size, fun y hy => ?_⟩
  obtain ⟨gy, h1, h2⟩ := h.2 y hy
  exact ⟨gy, (hbl.cell (p := ⟨hb, y, none⟩) h.1).trans h1, h2.below hbl h2.lt⟩
section
variable {w : World}
/-- painted up to row i, column j -/
def rowsK (_n i j : Nat) (f : Nat → Nat → Bool) : Nat → Nat → Bool := fun Y X => if Y < i ∨ (Y = i ∧ X < j) then f Y X else false
set_option maxHeartbeats 8000000 in
set_option maxRecDepth 100000 in
theorem parsemap_any {hb n c : Nat} {f : Nat → Nat → Bool} (h : BoolMap w hb n f) (h1 : 1 ≤ n) (h2 : n ≤ 200) :
    Calls Tryz.prog 131 #[.slice (some ⟨hb, 0, none⟩) n c] w fun e w' => ∃ A g, e = .returned (.tuple #[.pointer (some ⟨A, 0, none⟩), .nilIface]) ∧ BM w' A g n f ∧ Below w.heap.size w w' ∧ w.heap.size ≤ A ∧ w.heap.size ≤ g := by
  have dn : decide (0 < n) = true := by simp; omega
  obtain ⟨g0, c0, b0⟩ := h.2 0 (by omega)
  have hhb := h.1
  go_enter Tryz.func131, Tryz.ntmps131
  go_wp2_with fail
  refine (newbm_any n h1 h2 w).mono ?_
  rintro e w1 ⟨A, g, rfl, hM, hA, hg, hb1⟩
  have hs1 := hb1.size
  have hm1 := h.below hb1
  clear c0
  go_wp2_with fail
  go_loopw [8] (fun t8 wr => ∃ i : Nat, i ≤ n ∧ t8 = .int .i64 (i : Nat) ∧ BM wr A g n (rowsK n i 0 f) ∧ Kp [g] w1 wr) (fun t8 _ => n - (intOf t8).toNat)
  case atStart => exact ⟨0, by omega, rfl, hM.congr (fun Y X _ _ => by unfold rowsK; rw [if_neg (by omega)]), Kp.refl _ _⟩
  case round =>
    obtain ⟨i, hi, rfl, hMr, hkr⟩ := hrel
    by_cases hlt : i < n
    · have hdi : decide ((i : Int) < (n : Int)) = true := by simp; omega
      obtain ⟨gy, c1, b1⟩ := h.2 i hlt
      have c1r := (hkr.cell (p := ⟨hb, i, none⟩) (by simp only; omega) (by simp; omega)).trans ((hb1.cell (p := ⟨hb, i, none⟩) hhb).trans c1)
      go_wp2_with fail
      clear c1r
      obtain ⟨wo, rfl⟩ : ∃ wo : World, wo = wr := ⟨_, rfl⟩
      go_loopw [10] (fun t10 wr => ∃ j : Nat, j ≤ n ∧ t10 = .int .i64 (j : Nat) ∧ BM wr A g n (rowsK n i j f) ∧ Kp [g] w1 wr) (fun t10 _ => n - (intOf t10).toNat)
      case atStart => exact ⟨0, by omega, rfl, hMr, hkr⟩
      case round =>
        obtain ⟨j, hj, rfl, hMr, hkr⟩ := hrel
        by_cases hlt2 : j < n
        · have hdj : decide ((j : Int) < (n : Int)) = true := by simp; omega
          have b1l := b1.lt
          have hB := (b1.below hb1 b1.lt).kp hkr (by simp; omega)
          have cb := hB.cell j
          rw [bools_get hlt2] at cb
          cases hv : f i j with
          | true =>
            rw [hv] at cb
            have HV := Lib.hid hv
            clear hv
            go_wp2_with fail
            refine (bmset_any j i hMr rfl rfl hlt2 hlt).mono ?_
            rintro e w2 ⟨rfl, hM2, hk2⟩
            clear cb
            go_wp2_with fail
            go_roundw
            case rel =>
              refine ⟨j + 1, by omega, by go_num, hM2.congr (fun Y X _ _ => ?_), hkr.more hk2⟩
              unfold rowsK
              by_cases c : Y = i ∧ X = j
              · obtain ⟨rfl, rfl⟩ := c
                rw [if_pos ⟨rfl, rfl⟩, if_pos (by omega), HV.out]
              · rw [if_neg c]
                by_cases c2 : Y < i ∨ (Y = i ∧ X < j)
                · rw [if_pos c2, if_pos (by omega)]
                · rw [if_neg c2, if_neg (by omega)]
            case measure => simp [intOf]; omega
          | false =>
            rw [hv] at cb
            have HV := Lib.hid hv
            clear hv
            go_wp2_with fail
            go_roundw
            case rel =>
              refine ⟨j + 1, by omega, by go_num, hMr.congr (fun Y X _ _ => ?_), hkr⟩
              unfold rowsK
              by_cases c : Y = i ∧ X = j
              · obtain ⟨rfl, rfl⟩ := c
                rw [if_neg (by omega), if_pos (by omega), HV.out]
              · by_cases c2 : Y < i ∨ (Y = i ∧ X < j)
                · rw [if_pos c2, if_pos (by omega)]
                · rw [if_neg c2, if_neg (by omega)]
            case measure => simp [intOf]; omega
        · have hdj : decide ((j : Int) < (n : Int)) = false := by simp; omega
          have hje : j = n := by omega
          have hM' : BM wr A g n (rowsK n (i + 1) 0 f) := hMr.congr (fun Y X _ hX => by
            unfold rowsK
            rw [hje]
            by_cases c2 : Y < i ∨ (Y = i ∧ X < n)
            · rw [if_pos c2, if_pos (by omega)]
            · rw [if_neg c2, if_neg (by omega)])
          clear hje
          go_wp2_with fail
          go_roundw
          case rel => exact ⟨i + 1, by omega, by go_num, hM', hkr⟩
          case measure => simp [intOf]; omega
    · have hdi : decide ((i : Int) < (n : Int)) = false := by simp; omega
      have hM' : BM wr A g n f := hMr.congr (fun Y X hY _ => by unfold rowsK; rw [if_pos (by omega)])
      go_wp2_with fail
      go_ret2
      exact ⟨A, g, rfl, hM', below_of_kp hb1 hkr hs1 (by intro k hk; simp at hk; omega), hA, hg⟩
theorem newrsd_any {F : Nat} : Calls Tryz.prog 88 #[.pointer (some ⟨F, 0, none⟩)] w fun e w' => ∃ RD, e = .returned (.pointer (some ⟨RD, 0, none⟩)) ∧ Blk w' RD 223 #[.pointer (some ⟨F, 0, none⟩)] ∧ Below w.heap.size w w' := by
  go_enter Tryz.func88, Tryz.ntmps88
  go_wp2
  go_ret
  exact ⟨w.heap.size, rfl, Blk.new w _ _, (Below.refl _ _).alloc (Nat.le_refl _) _⟩
theorem newpsr_any {A g d : Nat} {f : Nat → Nat → Bool} (hM : BM w A g d f) (h21 : 21 ≤ d) (h200 : d ≤ 200) (h4 : d % 4 = 1) :
    Calls Tryz.prog 173 #[.pointer (some ⟨A, 0, none⟩)] w fun e w' => ∃ P, e = .returned (.tuple #[.pointer (some ⟨P, 0, none⟩), .nilIface]) ∧ Psr w' P A (.pointer none) (.pointer none) ∧ Below w.heap.size w w' ∧ w.heap.size ≤ P := by
  have d1 : decide ((d : Int) < 21) = false := by simp; omega
  have hand := i64_and d 3 (by omega) (by omega)
  rw [and3, h4] at hand
  have hand' : bits .and .i64 (d : Int) 3 = 1 := hand
  clear hand h4
  go_enter Tryz.func173, Tryz.ntmps173
  go_wp2_with fail
  refine (bmh_any hM).mono ?_
  rintro e w2 ⟨rfl, rfl⟩
  go_wp2_with fail
  go_ret2
  exact ⟨w.heap.size, rfl, Blk.new w _ _, (Below.refl _ _).alloc (Nat.le_refl _) _, Nat.le_refl _⟩
end
end Go.Proofs.YtcekbhhpcmhicaaGreatDoor
namespace Go.QP
open Go.QW
/-- the picture of n times n modules of side s, light borders of L and T pixels to the left and above -/
def pic (s L T n : Nat) (f : Nat → Nat → Bool) : Nat → Nat → Bool := fun Y X => decide (T ≤ Y ∧ Y < T + s * n ∧ L ≤ X ∧ X < L + s * n) && f ((Y - T) / s) ((X - L) / s)
section
variable {s L T n : Nat} {f : Nat → Nat → Bool}
theorem pic_in {y x : Nat} (hy : y < s * n) (hx : x < s * n) : pic s L T n f (T + y) (L + x) = f (y / s) (x / s) := by
  unfold pic
  rw [decide_eq_true (by omega), Bool.true_and, Nat.add_sub_cancel_left, Nat.add_sub_cancel_left]
theorem pic_out {Y X : Nat} (h : ¬ (T ≤ Y ∧ Y < T + s * n ∧ L ≤ X ∧ X < L + s * n)) : pic s L T n f Y X = false := by
  unfold pic
  rw [decide_eq_false h, Bool.false_and]
theorem pic_true {Y X : Nat} (h : pic s L T n f Y X = true) : T ≤ Y ∧ Y < T + s * n ∧ L ≤ X ∧ X < L + s * n := by
  rcases Classical.em (T ≤ Y ∧ Y < T + s * n ∧ L ≤ X ∧ X < L + s * n) with h1 | h1
  · exact h1
  · rw [pic_out h1] at h; cases h
end
/-- what the extraction of modules leans on: the diagonal of the first finder pattern, two modules of the last row -/
structure Corn (n : Nat) (f : Nat → Nat → Bool) : Prop where
  n1 : 21 ≤ n
  n2 : n ≤ 125
  diag : ∀ i, i < 8 → f i i = [true, false, true, true, true, false, true, false].getD i false
  b0 : f (n - 1) 0 = true
  b1 : f (n - 1) 1 = true
def dg (j : Nat) : Bool := [true, false, true, true, true, false, true, false].getD j false
def dB (s k : Nat) : Bool := if k = 0 then true else dg ((k - 1) / s)
def trN (s k : Nat) : Nat := if k = 0 then 0 else [0, 1, 2, 2, 2, 3, 4].getD ((k - 1) / s) 0
theorem diag_all : ∀ s : Fin 7, 1 ≤ s.val → ∀ k : Fin 42, k.val < 7 * s.val →
    (dB s.val k.val = dg (k.val / s.val) ∧ dB s.val (k.val + 1) = dB s.val k.val ∧ trN s.val (k.val + 1) = trN s.val k.val) ∨
    (dB s.val k.val = !(dg (k.val / s.val)) ∧ dB s.val (k.val + 1) = !(dB s.val k.val) ∧ trN s.val (k.val + 1) = trN s.val k.val + 1 ∧ trN s.val k.val < 4) := by decide +kernel
theorem diag_step {s k : Nat} (h1 : 1 ≤ s) (h6 : s ≤ 6) (hk : k < 7 * s) :
    (dB s k = dg (k / s) ∧ dB s (k + 1) = dB s k ∧ trN s (k + 1) = trN s k) ∨
    (dB s k = !(dg (k / s)) ∧ dB s (k + 1) = !(dB s k) ∧ trN s (k + 1) = trN s k + 1 ∧ trN s k < 4) := diag_all ⟨s, by omega⟩ h1 ⟨k, by omega⟩ hk
theorem diag_end : ∀ s : Fin 7, 1 ≤ s.val → dB s.val (7 * s.val) = true ∧ trN s.val (7 * s.val) = 4 ∧ dg (7 * s.val / s.val) = false := by decide +kernel
theorem zero_of_low {z b : Nat} : z % 2 ^ b = 0 ↔ ∀ i, i < b → z.testBit i = false := by
  constructor
  · intro h i hi
    have := Nat.testBit_mod_two_pow z b i
    rw [h, Nat.zero_testBit, decide_eq_true hi, Bool.true_and] at this
    exact this.symm
  · intro h
    apply Nat.eq_of_testBit_eq
    intro i
    rw [Nat.testBit_mod_two_pow, Nat.zero_testBit]
    by_cases hi : i < b
    · rw [h i hi, Bool.and_false]
    · rw [decide_eq_false hi, Bool.false_and]
theorem shl_mod (z b : Nat) (hb : b ≤ 31) : z * 2 ^ (31 - b) % 4294967296 = z % 2 ^ (b + 1) * 2 ^ (31 - b) := by
  have e : 4294967296 = 2 ^ (b + 1) * 2 ^ (31 - b) := by rw [← Nat.pow_add, show b + 1 + (31 - b) = 32 by omega]
  rw [e, Nat.mul_mod_mul_right]
/-- the lowest bit that is set -/
theorem low_step {z m b : Nat} (hm : z.testBit m = true) (hl : ∀ i, i < m → z.testBit i = false) (hb : b ≤ m) (h31 : b ≤ 31) : (z * 2 ^ (31 - b) % 4294967296 = 0) ↔ b < m := by
  rw [shl_mod z b h31]
  have hp : 0 < 2 ^ (31 - b) := Nat.two_pow_pos _
  constructor
  · intro h
    have h0 : z % 2 ^ (b + 1) = 0 := by
      rcases Nat.mul_eq_zero.1 h with h | h
      · exact h
      · omega
    rcases Nat.lt_or_ge b m with h1 | h1
    · exact h1
    · have := zero_of_low.1 h0 m (by omega)
      rw [hm] at this; cases this
  · intro h
    rw [zero_of_low.2 (fun i hi => hl i (by omega)), Nat.zero_mul]
/-- the highest bit that is set -/
theorem high_step {z m b : Nat} (hm : z.testBit m = true) (hh : ∀ i, m < i → z.testBit i = false) (hb : m ≤ b) : (z / 2 ^ b = 0) ↔ m < b := by
  constructor
  · intro h
    rcases Nat.lt_or_ge m b with h1 | h1
    · exact h1
    · have hmb : m = b := by omega
      have : (z / 2 ^ b).testBit 0 = z.testBit (0 + b) := Nat.testBit_div_two_pow z 0
      rw [h, Nat.zero_testBit, Nat.zero_add, ← hmb, hm] at this
      cases this
  · intro h
    apply Nat.eq_of_testBit_eq
    intro i
    rw [Nat.testBit_div_two_pow, Nat.zero_testBit]
    exact hh _ (by omega)
theorem word_zero {z : Nat} (hz : z < 4294967296) : z = 0 ↔ ∀ i, i < 32 → z.testBit i = false := by
  rw [← zero_of_low, show (2 : Nat) ^ 32 = 4294967296 from rfl, Nat.mod_eq_of_lt hz]
end Go.QP
namespace Go.Proofs.YtcekbhhpcmhicaaGreatDoor
open Go.RowKit Go.QW Go.QGF Go.QI Go.QM Go.QV Go.QZ
/-- a matrix of bools that bears a text: version, level, mask, the code words -/
structure Bears (v l k m N : Nat) (s : ByteArray) (cw : List Nat) (es : Nat → List Nat) (f : Nat → Nat → Bool) : Prop where
  h1 : 1 ≤ v
  h27 : v ≤ 27
  hl : l ≤ 3
  hk : k < 8
  fm : FmtIn (17 + 4 * v) (fmtT (l * 8 + k)) f
  vi : 7 ≤ v → VerIn (17 + 4 * v) (verT v) f
  dat : DatIn v k (cw.flatMap (bitsOf 8)) f
  ok : CwOk v l (streamOf v l m s) cw es
  cb : ∀ i, nth cw i < 256
  hm : m = modeOf (bytesOf s)
  hN : N = dataB v l
  fit : 4 + ccBits m v + (segOf m (bytesOf s)).length ≤ 8 * N
  n : s.size < 2 ^ ccBits m v
  s1 : 1 ≤ s.size
  s600 : s.size ≤ 1000
  crn : Go.QP.Corn (17 + 4 * v) f
section
variable {w : World}
theorem newdec_any : Calls Tryz.prog 31 #[] w fun e w' => ∃ D RD F, e = .returned (.pointer (some ⟨D, 0, none⟩)) ∧ DecOk w' D RD F ∧ Below w.heap.size w w' := by
  go_enter Tryz.func31, Tryz.ntmps31
  go_wp2_with fail
  refine (qrfield_any w).mono ?_
  rintro e w1 ⟨F, rfl, hF, hb1, hF1⟩
  have hs1 := hb1.size
  go_wp2_with fail
  refine newrsd_any.mono ?_
  rintro e w2 ⟨RD, rfl, hRD, hb2⟩
  have hF2 := hF.below hb2
  have hs2 := hb2.size
  go_wp2_with fail
  go_ret
  have hb3 : Below w2.heap.size w2 (w2.alloc (.cells #[.pointer (some ⟨RD, 0, none⟩)] 162)) := (Below.refl _ _).alloc (Nat.le_refl _) _
  exact ⟨w2.heap.size, RD, F, rfl, ⟨Blk.new w2 _ _, hRD.below hb3 hRD.lt, hF2.below hb3⟩, below_trans' (below_trans' hb1 hb2 hs1) hb3 (by omega)⟩
set_option maxRecDepth 100000 in
theorem dec_any {D RD F A g v l k m N : Nat} {s : ByteArray} {cw : List Nat} {es : Nat → List Nat} {f : Nat → Nat → Bool} (hD : DecOk w D RD F) (hM : BM w A g (17 + 4 * v) f) (hB : Bears v l k m N s cw es f) :
    Calls Tryz.prog 132 #[.pointer (some ⟨D, 0, none⟩), .pointer (some ⟨A, 0, none⟩), .map none] w fun e w' => ∃ Res Z, e = .returned (.tuple #[.pointer (some ⟨Res, 0, none⟩), .nilIface]) ∧ ResOk w' Res Z N s l ∧ Blk w' Z 5 (ints .u8 (bytesAt (streamOf v l m s) N)) ∧ Kp [g] w w' := by
  have HB := Lib.hid hB
  have h27 := hB.h27
  have h1 := hB.h1
  clear hB
  go_enter Tryz.func132, Tryz.ntmps132
  go_wp2_with fail
  refine (newpsr_any hM (by omega) (by omega) (by omega)).mono ?_
  rintro e w1 ⟨P, rfl, hP, hb1, hPn⟩
  have hM1 := hM.kp (Kp.of_below hb1 : Kp [] w w1) (by simp) (by simp)
  have hD1 := hD.kp (Kp.of_below hb1 : Kp [] w w1) (by intro k hk; simp at hk)
  have hdec := decode1_any hD1 hP hM1 rfl h1 h27 HB.out.hl HB.out.hk HB.out.fm HB.out.vi HB.out.dat HB.out.ok HB.out.cb HB.out.hm HB.out.hN HB.out.fit HB.out.n HB.out.s1 HB.out.s600
  go_wp2_with fail
  refine hdec.mono ?_
  clear hdec
  rintro e w2 ⟨Res, Z, rfl, hRes, hZ, hk2⟩
  go_wp2_with fail
  go_ret2
  exact ⟨Res, Z, rfl, hRes, hZ, (Kp.of_below hb1 : Kp [g] w w1).trans hk2 (by intro i hi hlt; simp at hi; simp; omega)⟩
theorem decmap_any {D RD F hb c v l k m N : Nat} {s : ByteArray} {cw : List Nat} {es : Nat → List Nat} {f : Nat → Nat → Bool} (hD : DecOk w D RD F) (hM : BoolMap w hb (17 + 4 * v) f) (hB : Bears v l k m N s cw es f) :
    Calls Tryz.prog 90 #[.pointer (some ⟨D, 0, none⟩), .slice (some ⟨hb, 0, none⟩) (17 + 4 * v) c, .map none] w fun e w' => ∃ Res Z, e = .returned (.tuple #[.pointer (some ⟨Res, 0, none⟩), .nilIface]) ∧ ResOk w' Res Z N s l ∧ Blk w' Z 5 (ints .u8 (bytesAt (streamOf v l m s) N)) ∧ Below w.heap.size w w' := by
  have HB := Lib.hid hB
  have h27 := hB.h27
  clear hB
  obtain ⟨d, hd⟩ : ∃ d, d = 17 + 4 * v := ⟨_, rfl⟩
  have hdb : 17 ≤ d ∧ d ≤ 200 := by omega
  rw [← hd] at hM ⊢
  have HD := Lib.hid hd
  clear hd
  go_enter Tryz.func90, Tryz.ntmps90
  go_wp2_with fail
  refine (parsemap_any hM (by omega) (by omega)).mono ?_
  rintro e w1 ⟨A, g, rfl, hM1, hb1, hA, hg⟩
  have hs1 := hb1.size
  rw [HD.out] at hM1
  have hD1 := hD.kp (Kp.of_below hb1 : Kp [] w w1) (by intro k hk; simp at hk)
  go_wp2_with fail
  refine (dec_any hD1 hM1 HB.out).mono ?_
  rintro e w2 ⟨Res, Z, rfl, hRes, hZ, hk2⟩
  go_wp2_with fail
  go_ret2
  exact ⟨Res, Z, rfl, hRes, hZ, below_of_kp hb1 hk2 hs1 (by intro k hk; simp at hk; omega)⟩
theorem decmap0_any {D RD F hb c v l k m N : Nat} {s : ByteArray} {cw : List Nat} {es : Nat → List Nat} {f : Nat → Nat → Bool} (hD : DecOk w D RD F) (hM : BoolMap w hb (17 + 4 * v) f) (hB : Bears v l k m N s cw es f) :
    Calls Tryz.prog 32 #[.pointer (some ⟨D, 0, none⟩), .slice (some ⟨hb, 0, none⟩) (17 + 4 * v) c] w fun e w' => ∃ Res Z, e = .returned (.tuple #[.pointer (some ⟨Res, 0, none⟩), .nilIface]) ∧ ResOk w' Res Z N s l ∧ Blk w' Z 5 (ints .u8 (bytesAt (streamOf v l m s) N)) ∧ Below w.heap.size w w' := by
  have hdm := decmap_any (c := c) hD hM hB
  obtain ⟨d, hd⟩ : ∃ d, d = 17 + 4 * v := ⟨_, rfl⟩
  rw [← hd] at hdm ⊢
  clear hd
  go_enter Tryz.func32, Tryz.ntmps32
  go_wp2_with fail
  refine hdm.mono ?_
  clear hdm
  rintro e w2 ⟨Res, Z, rfl, h⟩
  go_wp2_with fail
  go_ret2
  exact ⟨Res, Z, rfl, h⟩
end
end Go.Proofs.YtcekbhhpcmhicaaGreatDoor
