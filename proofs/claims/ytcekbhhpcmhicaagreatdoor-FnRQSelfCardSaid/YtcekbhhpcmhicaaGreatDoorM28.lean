/- The decoder reads the code words off the matrix: DataMaskValues, ReadCodewords. -/
import Derived.Test.YtcekbhhpcmhicaaGreatDoorM16
import Derived.Test.YtcekbhhpcmhicaaGreatDoorM17
import Derived.Test.YtcekbhhpcmhicaaGreatDoorM18
import Derived.Test.YtcekbhhpcmhicaaGreatDoorM21
import Derived.Test.YtcekbhhpcmhicaaGreatDoorM25
import Derived.Test.YtcekbhhpcmhicaaGreatDoorM27
import Derived.Laws.EntriesVeiled
namespace Go.Proofs.YtcekbhhpcmhicaaGreatDoor
open Go.RowKit Go.QW Go.QI Go.QM Go.QV Go.QZ
def maskV (k : Nat) : Value := .func (.func (maskId k)) #[] #[]
def maskArr : Array Value := ((List.range 8).map maskV).toArray
theorem maskArr_get (k : Nat) (h : k < 8) : maskArr[k]? = some (maskV k) := by
  unfold maskArr
  rw [List.getElem?_toArray, List.getElem?_map, List.getElem?_range h]; rfl
set_option maxHeartbeats 4000000 in
theorem masks_any (w : World) :
    Calls Tryz.prog 215 #[] w fun e w' => e = .returned (.slice (some ⟨w.heap.size, 0, none⟩) 8 8) ∧ Blk w' w.heap.size 344 maskArr ∧ Below w.heap.size w w' := by
  have key : Blk (w.alloc (.cells #[.func (.func 255) #[] #[], .func (.func 256) #[] #[], .func (.func 257) #[] #[], .func (.func 258) #[] #[], .func (.func 259) #[] #[], .func (.func 260) #[] #[], .func (.func 261) #[] #[], .func (.func 262) #[] #[]] 344)) w.heap.size 344 maskArr := Blk.new w _ maskArr
  have KEY := Lib.hid key
  clear key
  go_enter Tryz.func215, Tryz.ntmps215
  go_wp2
  go_ret
  exact ⟨rfl, KEY.out, (Below.refl _ _).alloc (Nat.le_refl _) _⟩
theorem fimask_any {w : World} {F l k : Nat} (h : Fi w F l k) :
    Calls Tryz.prog 216 #[.pointer (some ⟨F, 0, none⟩)] w fun e w' => e = .returned (.int .u8 (k : Nat)) ∧ w = w' := by
  have a1 := h.cell 1
  simp only [List.getElem?_toArray, List.getElem?_cons_zero, List.getElem?_cons_succ] at a1
  go_enter Tryz.func216, Tryz.ntmps216
  go_wp2
  go_ret
  exact ⟨rfl, rfl⟩
theorem filev_any {w : World} {F l k : Nat} (h : Fi w F l k) :
    Calls Tryz.prog 208 #[.pointer (some ⟨F, 0, none⟩)] w fun e w' => e = .returned (.int .i64 (l : Nat)) ∧ w = w' := by
  have a1 := h.cell 0
  simp only [List.getElem?_toArray, List.getElem?_cons_zero] at a1
  go_enter Tryz.func208, Tryz.ntmps208
  go_wp2
  go_ret
  exact ⟨rfl, rfl⟩
/-- the reader's state behind n cells: bytes read, the bits of the current one -/
structure RcS (v T : Nat) (cw : List Nat) (G n : Nat) (a12 a13 a14 : Value) (wr : World) : Prop where
  e12 : a12 = .int .i64 ((cnt v n / 8 : Nat) : Int)
  e13 : a13 = .int .i64 ((valS (cw.flatMap (bitsOf 8)) (8 * (cnt v n / 8)) (cnt v n % 8) : Nat) : Int)
  e14 : a14 = .int .i64 ((cnt v n % 8 : Nat) : Int)
  blk : Blk wr G 5 (ints .u8 (tab T fun i => if i < cnt v n / 8 then nth cw i else 0))
theorem RcS.same {v T : Nat} {cw : List Nat} {G n m : Nat} {a b c : Value} {wr : World} (h : RcS v T cw G n a b c wr) (e : cnt v m = cnt v n) : RcS v T cw G m a b c wr := by
  obtain ⟨h1, h2, h3, h4⟩ := h
  exact ⟨by rw [e]; exact h1, by rw [e]; exact h2, by rw [e]; exact h3, by rw [e]; exact h4⟩
theorem RcS.idx {v T : Nat} {cw : List Nat} {G n m : Nat} {a b c : Value} {wr : World} (h : RcS v T cw G n a b c wr) (e : n = m) : RcS v T cw G m a b c wr := by subst e; exact h
theorem RcS.kp {v T : Nat} {cw : List Nat} {G n : Nat} {a b c : Value} {w wr : World} {S : List Nat} (h : RcS v T cw G n a b c w) (hk : Kp S w wr) (hG : G ∉ S) : RcS v T cw G n a b c wr := ⟨h.e12, h.e13, h.e14, h.blk.kp hk hG⟩
theorem rcs_more {v T : Nat} {cw : List Nat} {G n q r : Nat} {wr : World} (hc : cnt v (n + 1) = 8 * q + r + 1) (hr : r < 7) (hG : Blk wr G 5 (ints .u8 (tab T fun i => if i < q then nth cw i else 0))) :
    RcS v T cw G (n + 1) (.int .i64 (q : Nat)) (.int .i64 ((2 * valS (cw.flatMap (bitsOf 8)) (8 * q) r + ((cw.flatMap (bitsOf 8)).getD (8 * q + r) false).toNat : Nat) : Int)) (.int .i64 ((r + 1 : Nat) : Int)) wr := by
  have h1 : cnt v (n + 1) / 8 = q := by omega
  have h2 : cnt v (n + 1) % 8 = r + 1 := by omega
  exact ⟨by rw [h1], by rw [h1, h2]; rfl, by rw [h2], by rw [h1]; exact hG⟩
theorem rcs_full {v T : Nat} {cw : List Nat} {G n q : Nat} {wr : World} (hc : cnt v (n + 1) = 8 * q + 7 + 1) (hG : Blk wr G 5 (ints .u8 (tab T fun i => if i < q + 1 then nth cw i else 0))) :
    RcS v T cw G (n + 1) (.int .i64 ((q + 1 : Nat) : Int)) (.int .i64 0) (.int .i64 0) wr := by
  have h1 : cnt v (n + 1) / 8 = q + 1 := by omega
  have h2 : cnt v (n + 1) % 8 = 0 := by omega
  exact ⟨by rw [h1], by rw [h1, h2]; rfl, by rw [h2]; rfl, by rw [h1]; exact hG⟩
theorem tab_fill (T q : Nat) (cw : List Nat) : (tab T fun i => if i < q then nth cw i else 0).set q (nth cw q) = tab T fun i => if i < q + 1 then nth cw i else 0 := by
  rw [tab_set]
  refine tab_congr (fun i _ => ?_)
  by_cases e : i = q
  · rw [if_pos e, if_pos (by omega), e]
  · rw [if_neg e]
    by_cases h : i < q
    · rw [if_pos h, if_pos (by omega)]
    · rw [if_neg h, if_neg (by omega)]
theorem b2n (x : Nat) (b : Bool) : 2 * x + b.toNat = if b = true then 2 * x + 1 else 2 * x := by cases b <;> rfl
theorem qn_lt (v q n : Nat) (h1 : 1 ≤ v) (h2 : v ≤ 27) (hn : n ≤ 2 * ((8 + 2 * v) * (17 + 4 * v))) (hc : 8 * q ≤ cnt v n) : q ≤ total v := by
  have := room v h1 h2
  have := cnt_mono v hn
  omega
section
variable {w : World} {A g P v : Nat} {f : Nat → Nat → Bool} {pv : Value}
/-- the matrix bears the code words under mask k -/
def DatIn (v k : Nat) (S : List Bool) (f : Nat → Nat → Bool) : Prop := ∀ y x, y < 17 + 4 * v → x < 17 + 4 * v → fp v y x = false → f y x = (S.getD (cnt v (idx (17 + 4 * v) y x)) false ^^ mbit k y x)
theorem DatIn.bit {v k : Nat} {S : List Bool} {f : Nat → Nat → Bool} (h : DatIn v k S f) (h1 : 1 ≤ v) {c t i : Nat} (hc : c < 8 + 2 * v) (ht : t < 17 + 4 * v) (hi : i < 2) (hf : fp v (rowY (17 + 4 * v) c t) (colX (17 + 4 * v) c - i) = false) :
    (f (rowY (17 + 4 * v) c t) (colX (17 + 4 * v) c - i) ^^ mbit k (rowY (17 + 4 * v) c t) (colX (17 + 4 * v) c - i)) = S.getD (cnt v (2 * (c * (17 + 4 * v) + t) + i)) false := by
  have hcf := col_facts (d := 17 + 4 * v) (c := c) (i := i) (by omega) (by omega) (by omega) hi
  rw [h _ _ (row_facts ht) (by omega) hf, idx_at (by omega) (by omega) (by omega) ht hi]
  generalize S.getD _ false = b
  generalize mbit k _ _ = m
  cases b <;> cases m <;> rfl
set_option maxHeartbeats 16000000 in
set_option maxRecDepth 100000 in
theorem readcw_any {l k F d : Nat} {cw : List Nat} (hk : k < 8) (hP : Psr w P A pv (.pointer (some ⟨F, 0, none⟩))) (hFi : Fi w F l k) (hpv : PvOk w v pv) (h : BM w A g d f) (hd : d = 17 + 4 * v) (h1 : 1 ≤ v) (h27 : v ≤ 27) (hv : 7 ≤ v → VerIn d (verT v) f)
    (hdat : DatIn v k (cw.flatMap (bitsOf 8)) f) (hcl : cw.length = total v) (hcb : ∀ i, nth cw i < 256) :
    Calls Tryz.prog 209 #[.pointer (some ⟨P, 0, none⟩)] w fun e w' => ∃ G, e = .returned (.tuple #[.slice (some ⟨G, 0, none⟩) cw.length cw.length, .nilIface]) ∧ Blk w' G 5 (ints .u8 cw) ∧ w.heap.size ≤ G ∧ Kp [P, g] w w' := by
  have hdb : 17 + 4 * v ≤ d ∧ d ≤ 17 + 4 * v := by omega
  have hodd : d % 2 = 1 := by omega
  have HDAT : Hid (∀ c t i, c < 8 + 2 * v → t < d → i < 2 → fp v (rowY d c t) (colX d c - i) = false → (f (rowY d c t) (colX d c - i) ^^ mbit k (rowY d c t) (colX d c - i)) = (cw.flatMap (bitsOf 8)).getD (cnt v (2 * (c * d + t) + i)) false) := Lib.hid (by
    subst hd
    exact fun c t i hc ht hi hf => hdat.bit h1 hc ht hi hf)
  have HD := Lib.hid hd
  have HCL := Lib.hid hcl
  have HCB := Lib.hid hcb
  have HVI := Lib.hid hv
  clear hd hdat hcl hcb hv
  have hnv := h.lts
  have hFl := hFi.lt
  have hPl := hP.lt
  have hPg : P ≠ g ∧ P ≠ A ∧ P ≠ F ∧ g ≠ F := by
    obtain ⟨ws, r, -, -, hA, hg, -⟩ := h.ex
    exact ⟨fun e => by subst e; exact absurd (Blk.ty hP hg) (by decide), fun e => by subst e; exact absurd (Blk.ty hP hA) (by decide), fun e => by subst e; exact absurd (Blk.ty hP hFi) (by decide), fun e => by subst e; exact absurd (Blk.ty hg hFi) (by decide)⟩
  go_enter Tryz.func209, Tryz.ntmps209
  go_wp2_with fail
  refine (readfmt2_any hP).mono ?_
  rintro e w2 ⟨rfl, rfl⟩
  go_wp2_with fail
  refine (readverE_any hP hpv h HD.out h1 h27 HVI.out).mono ?_
  rintro e w2 ⟨V, pv', rfl, hV2, hP2, hpv2, hk2⟩
  have hF2 : Fi w2 F l k := Blk.kp hFi hk2 (by simp; omega)
  have hM2 := h.kp hk2 (by simp; omega) (by simp; omega)
  have hs2 := hk2.size
  go_wp2_with fail
  refine (masks_any w2).mono ?_
  rintro e w3 ⟨rfl, hmk, hb3⟩
  have hs3 := hb3.size
  have hF3 : Fi w3 F l k := Blk.below hF2 hb3 hF2.lt
  have hM3 := hM2.kp (Kp.of_below hb3 : Kp [] w2 w3) (by simp) (by simp)
  have hP3 : Psr w3 P A pv' (.pointer (some ⟨F, 0, none⟩)) := Blk.below hP2 hb3 hP2.lt
  have hV3 := hV2.below hb3
  have hk3 : Kp [P, g] w w3 := (hk2.mono (by intro k hk _; simp at hk; simp [hk])).trans (Kp.of_below hb3 : Kp [P, g] w2 w3) (by intro i hi _; exact hi)
  go_wp2_with fail
  refine (fimask_any hF3).mono ?_
  rintro e w4 ⟨rfl, rfl⟩
  have cm := hmk.cell k
  rw [maskArr_get k hk] at cm
  unfold maskV at cm
  have hml := hmk.lt
  have a0 := hP3.cell 0
  simp only [List.getElem?_toArray, List.getElem?_cons_zero] at a0
  have hPl3 := hP3.lt
  clear hb3 hk2
  go_wp2_with fail
  have hka : Kp [] w3 (w3.alloc (.cells #[.func (.func (maskId k)) #[] #[]] 344)) := (Kp.refl [] w3).alloc _
  have hkb : Kp [P, g] w3 (w3.alloc (.cells #[.func (.func (maskId k)) #[] #[]] 344)) := (Kp.refl _ w3).alloc _
  have hMb := Blk.new w3 344 #[.func (.func (maskId k)) #[] #[]]
  obtain ⟨w4, hw4⟩ : ∃ w4, w4 = w3.alloc (.cells #[.func (.func (maskId k)) #[] #[]] 344) := ⟨_, rfl⟩
  rw [← hw4] at hka hkb hMb ⊢
  clear hw4
  obtain ⟨N, hN⟩ : ∃ N, N = w3.heap.size := ⟨_, rfl⟩
  rw [← hN] at hMb ⊢
  clear hN a0 cm hml hmk
  have hM4 := hM3.kp hka (by simp) (by simp)
  have hP4 : Psr w4 P A pv' (.pointer (some ⟨F, 0, none⟩)) := Blk.kp hP3 hka (by simp)
  have hV4 := hV3.kp hka (by intro k hk; simp at hk)
  have hk4 : Kp [P, g] w w4 := hk3.trans hkb (by intro i hi _; exact hi)
  refine (bmh_any hM4).mono ?_
  rintro e w5 ⟨rfl, rfl⟩
  have a0 := hP4.cell 0
  have m0 := hMb.cell 0
  simp only [List.getElem?_toArray, List.getElem?_cons_zero] at a0 m0
  clear hka hkb hM3 hP3 hV3 hk3 hF3 hF2 hP2 hV2 hM2
  go_wp2_with fail
  refine wp_region_quiet_tail 6 (by kernel_rfl) (by kernel_rfl) ?_
  simp only [List.take_succ_cons, List.take_zero, List.drop_succ_cons, List.drop_zero]
  repeat (go_big_quiet_step (fail))
  refine wpQuiet_nil ?_
  intro _ hw''
  obtain ⟨nr, rfl⟩ := hw''
  have hkd : Kp [P, g] w4 (w4.drewN nr) := (Kp.refl _ w4).drewN nr
  have hkd0 : Kp [] w4 (w4.drewN nr) := (Kp.refl _ w4).drewN nr
  obtain ⟨w5, hw5⟩ : ∃ w5, w5 = w4.drewN nr := ⟨_, rfl⟩
  rw [← hw5] at hkd hkd0 ⊢
  clear hw5 a0 m0
  have hM5 := hM4.kp hkd0 (by simp) (by simp)
  have hP5 : Psr w5 P A pv' (.pointer (some ⟨F, 0, none⟩)) := Blk.kp hP4 hkd0 (by simp)
  have hV5 := hV4.kp hkd0 (by intro k hk; simp at hk)
  have hk5 : Kp [P, g] w w5 := hk4.trans hkd (by intro i hi _; exact hi)
  clear hkd hkd0 hM4 hP4 hV4 hk4 hMb
  go_wp2_with fail
  refine (unmask_any (maskF k hk) hM5 (by omega)).mono ?_
  rintro e w6 ⟨rfl, hM6, hk6⟩
  have hgo : Off w5 [g] [3, 141, 201, 211] := by
    obtain ⟨ws, r, -, -, -, hgb, -⟩ := hM5.ex
    intro k hk t arr hb
    simp only [List.mem_cons, List.not_mem_nil, or_false] at hk
    subst hk
    rw [← Blk.ty hgb hb]; decide
  have hV6 := hV5.kp hk6 hgo
  have hP6 : Psr w6 P A pv' (.pointer (some ⟨F, 0, none⟩)) := Blk.kp hP5 hk6 (by simp; omega)
  have hs5 := hk5.size
  have hs6 := hk6.size
  have hk56 : Kp [P, g] w w6 := hk5.trans hk6 (by intro i hi _; simp at hi; simp [hi])
  clear hk5 hk6 hM5 hP5 hV5 hgo
  go_wp2_with fail
  refine (bfp_any hV6 h1 h27).mono ?_
  rintro e w7 ⟨B, gB, rfl, hB7, hb7, hB1, hgB1⟩
  rw [← HD.out] at hB7
  have hs7 := hb7.size
  have hP7 : Psr w7 P A pv' (.pointer (some ⟨F, 0, none⟩)) := Blk.below hP6 hb7 hP6.lt
  have hV7 := hV6.below hb7
  have hM7 := hM6.kp (Kp.of_below hb7 : Kp [] w6 w7) (by simp) (by simp)
  have hk7 : Kp [P, g] w w7 := hk56.trans (Kp.of_below hb7 : Kp [P, g] w6 w7) (by intro i hi _; exact hi)
  clear hb7 hk56 hM6 hP6 hV6
  obtain ⟨T, hT⟩ : ∃ T, T = total v := ⟨_, rfl⟩
  have HT := Lib.hid hT
  have htot := (lv_ok v 0 h1 (by omega) (by omega)).tot
  rw [← hT] at htot
  have HTL := Lib.hid htot
  clear hT
  go_wp2_with fail
  refine (vertot_any V v w7 hV7).mono ?_
  rintro e w8 ⟨rfl, rfl⟩
  rw [← HT.out]
  have hmk := fun w => make_flat (P := Tryz.prog) (t := 30) (e := 5) (by kernel_rfl) (k := .u8) (b := 1) (by kernel_rfl) (by omega) T (T : Int) rfl (by omega) w
  go_wp2_with fail
  clear hmk
  have hkm : Kp [P, g] w7 (w7.alloc (.cells (ints .u8 (List.replicate T 0)) 5)) := (Kp.refl _ w7).alloc _
  have hkm0 : Kp [] w7 (w7.alloc (.cells (ints .u8 (List.replicate T 0)) 5)) := (Kp.refl _ w7).alloc _
  have hG0 := Blk.new w7 5 (ints .u8 (List.replicate T 0))
  obtain ⟨w1, hw1⟩ : ∃ w1, w1 = w7.alloc (.cells (ints .u8 (List.replicate T 0)) 5) := ⟨_, rfl⟩
  rw [← hw1] at hkm hkm0 hG0 ⊢
  clear hw1
  obtain ⟨G, hGe⟩ : ∃ G, G = w7.heap.size := ⟨_, rfl⟩
  rw [← hGe] at hG0 ⊢
  have hM1 := hM7.kp hkm0 (by simp) (by simp)
  have hB1' := hB7.kp hkm0 (by simp) (by simp)
  have hP1 : Psr w1 P A pv' (.pointer (some ⟨F, 0, none⟩)) := Blk.kp hP7 hkm0 (by simp)
  have hV1 := hV7.kp hkm0 (by intro k hk; simp at hk)
  have hk1 : Kp [P, g] w w1 := hk7.trans hkm (by intro i hi _; exact hi)
  have hl1 := hM7.lts
  have hl2 := hB7.lts
  have hl3 := hP7.lt
  clear hkm hkm0 hM7 hB7 hP7 hV7 hk7 hB1
  have hB1 := hB1'
  clear hB1'
  have HK1 := Lib.hid hk1
  have HV1 := Lib.hid hV1
  clear hk1 hV1
  have hGw : w.heap.size ≤ G := by omega
  have hGoff : G ≠ A ∧ G ≠ g ∧ G ≠ B ∧ G ≠ gB ∧ G ≠ P := by omega
  clear hGe hl1 hl2 hl3 hs7 hs6 hs5 hs3 hs2
  go_loopw [10, 12, 13, 14, 15] (fun t10 t12 t13 t14 t15 wr => ∃ c : Nat, c ≤ 8 + 2 * v ∧ t10 = .bool (c % 2 == 0) ∧ t15 = .int .i64 (hx d c) ∧ RcS v T cw G (2 * (c * d)) t12 t13 t14 wr ∧ Kp [G] w1 wr) (fun _ _ _ _ t15 _ => (intOf t15 + 1).toNat)
  case atStart =>
    refine ⟨0, by omega, rfl, by rw [hx_zero (by omega)], ?_, Kp.refl _ _⟩
    rw [Nat.zero_mul, Nat.mul_zero]
    have e0 : cnt v 0 = 0 := rfl
    refine ⟨by rw [e0]; rfl, by rw [e0]; rfl, by rw [e0]; rfl, ?_⟩
    rw [e0]
    rw [← tab_zero] at hG0
    exact hG0
  case round =>
    obtain ⟨c, hcl, rfl, rfl, hS, hkr⟩ := hrel
    by_cases hc : c < 8 + 2 * v
    · have hcol := hx_col (d := d) (c := c) (by omega) (by omega) (by omega)
      have hpos := hx_pos (d := d) (c := c) (by omega) (by omega) (by omega)
      have hnext := hx_next (d := d) (c := c) (by omega) (by omega) (by omega)
      obtain ⟨X0, hX0⟩ : ∃ X0, X0 = hx d c := ⟨_, rfl⟩
      rw [← hX0] at hcol hpos ⊢
      have HX0 := Lib.hid hX0
      have HNX := Lib.hid hnext
      clear hX0 hnext
      have hp1 : decide ((0 : Int) < X0) = true := by simp; omega
      cases hcb0 : (c % 2 == 0) with
      | true =>
        have hpar : c % 2 = 0 := by simpa using hcb0
        have HPAR := Lib.hid hpar
        clear hcb0 hpar
        rcases hcol with ⟨e1, e2⟩ | ⟨e1, e2⟩
        · have b6 : (X0 == 6) = true := by rw [e1]; rfl
          have hX1 : X0 - 1 = ((colX d c : Nat) : Int) := by rw [e1, e2]; rfl
          obtain ⟨X1, hX1e⟩ : ∃ X1, X1 = X0 - 1 := ⟨_, rfl⟩
          rw [← hX1e] at hX1
          have HX1 := Lib.hid hX1
          clear e1 e2 hX1
          go_wp2_with fail
          rw [← hX1e]
          have hX10 : X1 ≤ X0 := by omega
          clear hX1e
          have hX1b : 0 ≤ X1 ∧ X1 < ((d : Nat) : Int) := by
            have q1 := HX1.out
            have q2 := (col_facts (d := d) (c := c) (i := 0) (by omega) (by omega) (by omega) (by omega)).2.1
            omega
          go_loopg [12, 13, 14, 16, 17, 18] d (fun gk t12 t13 t14 t16 t17 t18 wr => ∃ t : Nat, t ≤ d ∧ d ≤ gk + t ∧ t16 = .int .i64 (t : Nat) ∧ RcS v T cw G (2 * (c * d + t)) t12 t13 t14 wr ∧ Kp [G] w1 wr)
          case atStart => exact ⟨0, by omega, by omega, rfl, hS.idx (by rw [Nat.add_zero]), hkr⟩
          case round =>
            obtain ⟨t, htl, hgk, rfl, hS, hkr⟩ := hrel
            by_cases ht : t < d
            · have hdt : decide ((t : Int) < (d : Int)) = true := by simp; omega
              obtain ⟨y, hy⟩ : ∃ y, y = rowY d c t := ⟨_, rfl⟩
              have hyl : y < d := by rw [hy]; exact row_facts ht
              obtain ⟨Y0, hY0⟩ : ∃ Y0 : Int, Y0 = (d : Int) - 1 - (t : Int) := ⟨_, rfl⟩
              have hYV : Y0 = ((y : Nat) : Int) := by
                have := HPAR.out
                rw [hY0, hy]; unfold rowY; rw [if_pos this]; omega
              have hYb : 0 ≤ Y0 ∧ Y0 < ((d : Nat) : Int) := by omega
              have HYV := Lib.hid hYV
              have HY := Lib.hid hy
              clear hYV hy
              go_wp2_with fail
              rw [← hY0]
              clear hY0
              obtain ⟨wo, rfl⟩ : ∃ wo : World, wo = wr := ⟨_, rfl⟩
              go_loopw [12, 13, 14, 18] (fun t12 t13 t14 t18 wr => ∃ i : Nat, i ≤ 2 ∧ t18 = .int .i64 (i : Nat) ∧ RcS v T cw G (2 * (c * d + t) + i) t12 t13 t14 wr ∧ Kp [G] w1 wr) (fun _ _ _ t18 _ => 2 - (intOf t18).toNat)
              case atStart => exact ⟨0, by omega, rfl, hS.idx (by rw [Nat.add_zero]), hkr⟩
              case round =>
                obtain ⟨i, hi, rfl, hS, hkr⟩ := hrel
                by_cases hi2 : i < 2
                · have hdi : decide ((i : Int) < 2) = true := by simp; omega
                  obtain ⟨x, hx⟩ : ∃ x, x = colX d c - i := ⟨_, rfl⟩
                  have hcf := col_facts (d := d) (c := c) (i := i) (by omega) (by omega) (by omega) hi2
                  rw [← hx] at hcf
                  have hxd : x < d := by omega
                  have hxv : X1 - (i : Int) = ((x : Nat) : Int) := by have := HX1.out; omega
                  have HXV := Lib.hid hxv
                  have HX := Lib.hid hx
                  clear hx hxv hcf
                  obtain ⟨n, hn⟩ : ∃ n, n = 2 * (c * d + t) + i := ⟨_, rfl⟩
                  rw [← hn] at hS
                  have HN := Lib.hid hn
                  clear hn
                  obtain ⟨e12, e13, e14, hG⟩ := hS
                  have hqr : cnt v n = 8 * (cnt v n / 8) + cnt v n % 8 := by omega
                  have hr8 : cnt v n % 8 < 8 := by omega
                  obtain ⟨q, hq⟩ : ∃ q, q = cnt v n / 8 := ⟨_, rfl⟩
                  obtain ⟨r, hr⟩ : ∃ r, r = cnt v n % 8 := ⟨_, rfl⟩
                  rw [← hq, ← hr] at hqr e13
                  rw [← hq] at e12 hG
                  rw [← hr] at e14 hr8
                  have HQR := Lib.hid hqr
                  clear hq hr hqr
                  have hM := hM1.kp hkr (by simp; omega) (by simp; omega)
                  have hB := hB1.kp hkr (by simp; omega) (by simp; omega)
                  obtain ⟨val, hval⟩ : ∃ val, val = valS (cw.flatMap (bitsOf 8)) (8 * q) r := ⟨_, rfl⟩
                  have hvl := valS_lt (cw.flatMap (bitsOf 8)) (8 * q) r
                  have hvl2 : 2 ^ r ≤ 128 := Nat.pow_le_pow_right (show 0 < 2 by omega) (show r ≤ 7 by omega)
                  rw [← hval] at hvl e13
                  have hvb : val < 128 := by omega
                  have HVAL := Lib.hid hval
                  clear hval hvl hvl2
                  subst e12 e13 e14
                  cases hf : fp v y x with
                  | true =>
                    have hcs := cnt_skipD (v := v) (c := c) (t := t) (i := i) HD.out (by rw [← HY.out, ← HX.out]; exact hf) ht hi2
                    rw [← HN.out] at hcs
                    have HCS := Lib.hid hcs
                    have HF := Lib.hid hf
                    clear hf hcs
                    go_wp2_with fail
                    refine (bmget_any x y hB HXV.out HYV.out (by omega) (by omega)).mono ?_
                    rintro e w2 ⟨rfl, rfl⟩
                    rw [HF.out]
                    go_wp2_with fail
                    go_roundw
                    case rel =>
                      refine ⟨i + 1, by omega, by go_num, ?_, hkr⟩
                      refine RcS.idx (n := n + 1) (RcS.same (n := n) ⟨?_, ?_, ?_, ?_⟩ HCS.out) (by rw [HN.out]; omega)
                      · rw [HQR.out, show (8 * q + r) / 8 = q by omega]
                      · rw [HQR.out, show (8 * q + r) / 8 = q by omega, show (8 * q + r) % 8 = r by omega, HVAL.out]
                      · rw [HQR.out, show (8 * q + r) % 8 = r by omega]
                      · rw [HQR.out, show (8 * q + r) / 8 = q by omega]; exact hG
                    case measure => simp [intOf]; omega
                  | false =>
                    have hcs := cnt_putD (v := v) (c := c) (t := t) (i := i) HD.out (by rw [← HY.out, ← HX.out, hf]; simp) ht hi2
                    rw [← HN.out, HQR.out] at hcs
                    have hbit := HDAT.out c t i (by omega) ht hi2 (by rw [← HY.out, ← HX.out]; exact hf)
                    rw [← HY.out, ← HX.out, ← HN.out, HQR.out] at hbit
                    have hnl : n + 1 ≤ 2 * ((8 + 2 * v) * (17 + 4 * v)) := by
                      have e1 : c * d + d ≤ (8 + 2 * v) * d := by
                        have := Nat.mul_le_mul_right d (show c + 1 ≤ 8 + 2 * v by omega)
                        rw [Nat.succ_mul] at this; exact this
                      rw [← HD.out, HN.out]; omega
                    have hqT : r = 7 → q < T := fun h7 => by
                      have := qn_lt v (q + 1) (n + 1) h1 h27 hnl (by rw [hcs]; omega)
                      rw [HT.out]; omega
                    have HCS := Lib.hid hcs
                    have HBIT := Lib.hid hbit
                    have HF := Lib.hid hf
                    have HQT := Lib.hid hqT
                    clear hf hcs hbit hnl hqT
                    go_wp2_with fail
                    refine (bmget_any x y hB HXV.out HYV.out (by omega) (by omega)).mono ?_
                    rintro e w2 ⟨rfl, rfl⟩
                    rw [HF.out]
                    have hPr := hP1.kp hkr (by simp; omega)
                    have a0 := hPr.cell 0
                    simp only [List.getElem?_toArray, List.getElem?_cons_zero] at a0
                    go_wp2_with fail
                    refine (bmget_any x y hM HXV.out HYV.out (by omega) (by omega)).mono ?_
                    rintro e w2 ⟨rfl, rfl⟩
                    rw [HBIT.out]
                    clear a0
                    obtain ⟨b, hb⟩ : ∃ b, b = (cw.flatMap (bitsOf 8)).getD (8 * q + r) false := ⟨_, rfl⟩
                    rw [← hb]
                    have HBB := Lib.hid hb
                    clear hb
                    have o1 := i64_or (2 * val) 1 (by omega) (by omega)
                    rw [or1] at o1
                    have O1 : bits .or .i64 ((val : Int) * 2) 1 = ((2 * val + 1 : Nat) : Int) := by rw [← o1]; congr 1; omega
                    clear o1
                    by_cases h7 : r = 7
                    · subst h7
                      have hq := HQT.out rfl
                      have h78 : (((7 : Nat) : Int) + 1 == 8) = true := rfl
                      have hfz := hG.frozen q
                      have hGl : T ≤ 4000 := HTL.out
                      have hword : valS (cw.flatMap (bitsOf 8)) (8 * q) 8 = nth cw q := valS_word cw q (by rw [HCL.out, ← HT.out]; exact hq) (HCB.out q)
                      have hcwb := HCB.out q
                      have hvb2 : 2 * val + b.toNat = nth cw q := by
                        rw [← hword, HVAL.out, HBB.out]; rfl
                      have HVB := Lib.hid hvb2
                      have hGs := hG.set_ q (.int .u8 (nth cw q : Nat))
                      rw [ints_set, tab_fill] at hGs
                      have HGS := Lib.hid hGs
                      have hcz := hG.cell q
                      rw [ints_get (by rw [tab_length]; exact hq)] at hcz
                      obtain ⟨z, hz⟩ : ∃ z, z = nth (tab T fun i => if i < q then nth cw i else 0) q := ⟨_, rfl⟩
                      rw [← hz] at hcz
                      have HCWB := Lib.hid hcwb
                      clear hword hvb2 hGs hcwb hz
                      cases b with
                      | true =>
                        have CV : Hid (2 * (val : Int) + 1 = ((nth cw q : Nat) : Int)) := Lib.hid (by
                          have h1 := HVB.out
                          simp only [Bool.toNat_true] at h1
                          omega)
                        go_wp2_with fail
                        go_roundw
                        case rel =>
                          refine ⟨i + 1, by omega, by go_num, ?_, hkr.setCell (by simp) _⟩
                          refine RcS.idx (n := n + 1) (rcs_full HCS.out ?_) (by rw [HN.out]; omega)
                          rw [CV.out]
                          exact HGS.out
                        case measure => simp [intOf]; omega
                      | false =>
                        have CV : Hid ((val : Int) * 2 = ((nth cw q : Nat) : Int)) := Lib.hid (by
                          have h1 := HVB.out
                          simp only [Bool.toNat_false] at h1
                          omega)
                        go_wp2_with fail
                        go_roundw
                        case rel =>
                          refine ⟨i + 1, by omega, by go_num, ?_, hkr.setCell (by simp) _⟩
                          refine RcS.idx (n := n + 1) (rcs_full HCS.out ?_) (by rw [HN.out]; omega)
                          rw [CV.out]
                          exact HGS.out
                        case measure => simp [intOf]; omega
                    · have h78 : ((r : Int) + 1 == 8) = false := by rw [beq_eq_false_iff_ne]; omega
                      cases b with
                      | true =>
                        go_wp2_with fail
                        go_roundw
                        case rel =>
                          refine ⟨i + 1, by omega, by go_num, ?_, hkr⟩
                          have := rcs_more (T := T) (cw := cw) (wr := wr) (G := G) HCS.out (by omega) hG
                          rw [← HVAL.out, ← HBB.out] at this
                          exact RcS.idx (n := n + 1) this (by rw [HN.out]; omega)
                        case measure => simp [intOf]; omega
                      | false =>
                        go_wp2_with fail
                        go_roundw
                        case rel =>
                          refine ⟨i + 1, by omega, by go_num, ?_, hkr⟩
                          have := rcs_more (T := T) (cw := cw) (wr := wr) (G := G) HCS.out (by omega) hG
                          rw [← HVAL.out, ← HBB.out] at this
                          have e : (((2 * val + false.toNat : Nat)) : Int) = (val : Int) * 2 := by simp only [Bool.toNat_false]; omega
                          rw [e] at this
                          exact RcS.idx (n := n + 1) this (by rw [HN.out]; omega)
                        case measure => simp [intOf]; omega
                · have hie : i = 2 := by omega
                  subst hie
                  go_wp2_with fail
                  go_roundg (d - (t + 1))
                  case measure => omega
                  case rel => exact ⟨t + 1, by omega, by omega, by go_num, hS.idx (by rw [show 2 * (c * d + (t + 1)) = 2 * (c * d + t) + 2 by omega]), hkr⟩
            · have hdt : decide ((t : Int) < (d : Int)) = false := by simp; omega
              have hte : t = d := by omega
              rw [hte] at hS
              have hq : 2 * (c * d + d) = 2 * ((c + 1) * d) := by have e : (c + 1) * d = c * d + d := Nat.succ_mul c d; rw [e]
              have hS' := hS.idx hq
              have hnx2 : X1 - 2 = hx d (c + 1) := by have := HNX.out; have := HX1.out; omega
              have HNX2 := Lib.hid hnx2
              have hcb : ((c + 1) % 2 == 0) = false := by have := HPAR.out; rw [beq_eq_false_iff_ne]; omega
              have HCB2 := Lib.hid hcb
              clear hte hq hnx2 hcb
              go_wp2_with fail
              go_roundw
              case rel => exact ⟨c + 1, by omega, by rw [HCB2.out], by rw [HNX2.out], hS', hkr⟩
              case measure => simp [intOf]; omega
        · have b6 : (X0 == 6) = false := by rw [beq_eq_false_iff_ne]; exact e1
          have HX1 := Lib.hid e2
          clear e1 e2
          go_wp2_with fail
          obtain ⟨X1, hX1⟩ : ∃ X1, X1 = X0 := ⟨_, rfl⟩
          rw [← hX1] at HX1 ⊢
          have hX10 : X1 ≤ X0 := by omega
          clear hX1
          have hX1b : 0 ≤ X1 ∧ X1 < ((d : Nat) : Int) := by
            have q1 := HX1.out
            have q2 := (col_facts (d := d) (c := c) (i := 0) (by omega) (by omega) (by omega) (by omega)).2.1
            omega
          go_loopg [12, 13, 14, 16, 17, 18] d (fun gk t12 t13 t14 t16 t17 t18 wr => ∃ t : Nat, t ≤ d ∧ d ≤ gk + t ∧ t16 = .int .i64 (t : Nat) ∧ RcS v T cw G (2 * (c * d + t)) t12 t13 t14 wr ∧ Kp [G] w1 wr)
          case atStart => exact ⟨0, by omega, by omega, rfl, hS.idx (by rw [Nat.add_zero]), hkr⟩
          case round =>
            obtain ⟨t, htl, hgk, rfl, hS, hkr⟩ := hrel
            by_cases ht : t < d
            · have hdt : decide ((t : Int) < (d : Int)) = true := by simp; omega
              obtain ⟨y, hy⟩ : ∃ y, y = rowY d c t := ⟨_, rfl⟩
              have hyl : y < d := by rw [hy]; exact row_facts ht
              obtain ⟨Y0, hY0⟩ : ∃ Y0 : Int, Y0 = (d : Int) - 1 - (t : Int) := ⟨_, rfl⟩
              have hYV : Y0 = ((y : Nat) : Int) := by
                have := HPAR.out
                rw [hY0, hy]; unfold rowY; rw [if_pos this]; omega
              have hYb : 0 ≤ Y0 ∧ Y0 < ((d : Nat) : Int) := by omega
              have HYV := Lib.hid hYV
              have HY := Lib.hid hy
              clear hYV hy
              go_wp2_with fail
              rw [← hY0]
              clear hY0
              obtain ⟨wo, rfl⟩ : ∃ wo : World, wo = wr := ⟨_, rfl⟩
              go_loopw [12, 13, 14, 18] (fun t12 t13 t14 t18 wr => ∃ i : Nat, i ≤ 2 ∧ t18 = .int .i64 (i : Nat) ∧ RcS v T cw G (2 * (c * d + t) + i) t12 t13 t14 wr ∧ Kp [G] w1 wr) (fun _ _ _ t18 _ => 2 - (intOf t18).toNat)
              case atStart => exact ⟨0, by omega, rfl, hS.idx (by rw [Nat.add_zero]), hkr⟩
              case round =>
                obtain ⟨i, hi, rfl, hS, hkr⟩ := hrel
                by_cases hi2 : i < 2
                · have hdi : decide ((i : Int) < 2) = true := by simp; omega
                  obtain ⟨x, hx⟩ : ∃ x, x = colX d c - i := ⟨_, rfl⟩
                  have hcf := col_facts (d := d) (c := c) (i := i) (by omega) (by omega) (by omega) hi2
                  rw [← hx] at hcf
                  have hxd : x < d := by omega
                  have hxv : X1 - (i : Int) = ((x : Nat) : Int) := by have := HX1.out; omega
                  have HXV := Lib.hid hxv
                  have HX := Lib.hid hx
                  clear hx hxv hcf
                  obtain ⟨n, hn⟩ : ∃ n, n = 2 * (c * d + t) + i := ⟨_, rfl⟩
                  rw [← hn] at hS
                  have HN := Lib.hid hn
                  clear hn
                  obtain ⟨e12, e13, e14, hG⟩ := hS
                  have hqr : cnt v n = 8 * (cnt v n / 8) + cnt v n % 8 := by omega
                  have hr8 : cnt v n % 8 < 8 := by omega
                  obtain ⟨q, hq⟩ : ∃ q, q = cnt v n / 8 := ⟨_, rfl⟩
                  obtain ⟨r, hr⟩ : ∃ r, r = cnt v n % 8 := ⟨_, rfl⟩
                  rw [← hq, ← hr] at hqr e13
                  rw [← hq] at e12 hG
                  rw [← hr] at e14 hr8
                  have HQR := Lib.hid hqr
                  clear hq hr hqr
                  have hM := hM1.kp hkr (by simp; omega) (by simp; omega)
                  have hB := hB1.kp hkr (by simp; omega) (by simp; omega)
                  obtain ⟨val, hval⟩ : ∃ val, val = valS (cw.flatMap (bitsOf 8)) (8 * q) r := ⟨_, rfl⟩
                  have hvl := valS_lt (cw.flatMap (bitsOf 8)) (8 * q) r
                  have hvl2 : 2 ^ r ≤ 128 := Nat.pow_le_pow_right (show 0 < 2 by omega) (show r ≤ 7 by omega)
                  rw [← hval] at hvl e13
                  have hvb : val < 128 := by omega
                  have HVAL := Lib.hid hval
                  clear hval hvl hvl2
                  subst e12 e13 e14
                  cases hf : fp v y x with
                  | true =>
                    have hcs := cnt_skipD (v := v) (c := c) (t := t) (i := i) HD.out (by rw [← HY.out, ← HX.out]; exact hf) ht hi2
                    rw [← HN.out] at hcs
                    have HCS := Lib.hid hcs
                    have HF := Lib.hid hf
                    clear hf hcs
                    go_wp2_with fail
                    refine (bmget_any x y hB HXV.out HYV.out (by omega) (by omega)).mono ?_
                    rintro e w2 ⟨rfl, rfl⟩
                    rw [HF.out]
                    go_wp2_with fail
                    go_roundw
                    case rel =>
                      refine ⟨i + 1, by omega, by go_num, ?_, hkr⟩
                      refine RcS.idx (n := n + 1) (RcS.same (n := n) ⟨?_, ?_, ?_, ?_⟩ HCS.out) (by rw [HN.out]; omega)
                      · rw [HQR.out, show (8 * q + r) / 8 = q by omega]
                      · rw [HQR.out, show (8 * q + r) / 8 = q by omega, show (8 * q + r) % 8 = r by omega, HVAL.out]
                      · rw [HQR.out, show (8 * q + r) % 8 = r by omega]
                      · rw [HQR.out, show (8 * q + r) / 8 = q by omega]; exact hG
                    case measure => simp [intOf]; omega
                  | false =>
                    have hcs := cnt_putD (v := v) (c := c) (t := t) (i := i) HD.out (by rw [← HY.out, ← HX.out, hf]; simp) ht hi2
                    rw [← HN.out, HQR.out] at hcs
                    have hbit := HDAT.out c t i (by omega) ht hi2 (by rw [← HY.out, ← HX.out]; exact hf)
                    rw [← HY.out, ← HX.out, ← HN.out, HQR.out] at hbit
                    have hnl : n + 1 ≤ 2 * ((8 + 2 * v) * (17 + 4 * v)) := by
                      have e1 : c * d + d ≤ (8 + 2 * v) * d := by
                        have := Nat.mul_le_mul_right d (show c + 1 ≤ 8 + 2 * v by omega)
                        rw [Nat.succ_mul] at this; exact this
                      rw [← HD.out, HN.out]; omega
                    have hqT : r = 7 → q < T := fun h7 => by
                      have := qn_lt v (q + 1) (n + 1) h1 h27 hnl (by rw [hcs]; omega)
                      rw [HT.out]; omega
                    have HCS := Lib.hid hcs
                    have HBIT := Lib.hid hbit
                    have HF := Lib.hid hf
                    have HQT := Lib.hid hqT
                    clear hf hcs hbit hnl hqT
                    go_wp2_with fail
                    refine (bmget_any x y hB HXV.out HYV.out (by omega) (by omega)).mono ?_
                    rintro e w2 ⟨rfl, rfl⟩
                    rw [HF.out]
                    have hPr := hP1.kp hkr (by simp; omega)
                    have a0 := hPr.cell 0
                    simp only [List.getElem?_toArray, List.getElem?_cons_zero] at a0
                    go_wp2_with fail
                    refine (bmget_any x y hM HXV.out HYV.out (by omega) (by omega)).mono ?_
                    rintro e w2 ⟨rfl, rfl⟩
                    rw [HBIT.out]
                    clear a0
                    obtain ⟨b, hb⟩ : ∃ b, b = (cw.flatMap (bitsOf 8)).getD (8 * q + r) false := ⟨_, rfl⟩
                    rw [← hb]
                    have HBB := Lib.hid hb
                    clear hb
                    have o1 := i64_or (2 * val) 1 (by omega) (by omega)
                    rw [or1] at o1
                    have O1 : bits .or .i64 ((val : Int) * 2) 1 = ((2 * val + 1 : Nat) : Int) := by rw [← o1]; congr 1; omega
                    clear o1
                    by_cases h7 : r = 7
                    · subst h7
                      have hq := HQT.out rfl
                      have h78 : (((7 : Nat) : Int) + 1 == 8) = true := rfl
                      have hfz := hG.frozen q
                      have hGl : T ≤ 4000 := HTL.out
                      have hword : valS (cw.flatMap (bitsOf 8)) (8 * q) 8 = nth cw q := valS_word cw q (by rw [HCL.out, ← HT.out]; exact hq) (HCB.out q)
                      have hcwb := HCB.out q
                      have hvb2 : 2 * val + b.toNat = nth cw q := by
                        rw [← hword, HVAL.out, HBB.out]; rfl
                      have HVB := Lib.hid hvb2
                      have hGs := hG.set_ q (.int .u8 (nth cw q : Nat))
                      rw [ints_set, tab_fill] at hGs
                      have HGS := Lib.hid hGs
                      have hcz := hG.cell q
                      rw [ints_get (by rw [tab_length]; exact hq)] at hcz
                      obtain ⟨z, hz⟩ : ∃ z, z = nth (tab T fun i => if i < q then nth cw i else 0) q := ⟨_, rfl⟩
                      rw [← hz] at hcz
                      have HCWB := Lib.hid hcwb
                      clear hword hvb2 hGs hcwb hz
                      cases b with
                      | true =>
                        have CV : Hid (2 * (val : Int) + 1 = ((nth cw q : Nat) : Int)) := Lib.hid (by
                          have h1 := HVB.out
                          simp only [Bool.toNat_true] at h1
                          omega)
                        go_wp2_with fail
                        go_roundw
                        case rel =>
                          refine ⟨i + 1, by omega, by go_num, ?_, hkr.setCell (by simp) _⟩
                          refine RcS.idx (n := n + 1) (rcs_full HCS.out ?_) (by rw [HN.out]; omega)
                          rw [CV.out]
                          exact HGS.out
                        case measure => simp [intOf]; omega
                      | false =>
                        have CV : Hid ((val : Int) * 2 = ((nth cw q : Nat) : Int)) := Lib.hid (by
                          have h1 := HVB.out
                          simp only [Bool.toNat_false] at h1
                          omega)
                        go_wp2_with fail
                        go_roundw
                        case rel =>
                          refine ⟨i + 1, by omega, by go_num, ?_, hkr.setCell (by simp) _⟩
                          refine RcS.idx (n := n + 1) (rcs_full HCS.out ?_) (by rw [HN.out]; omega)
                          rw [CV.out]
                          exact HGS.out
                        case measure => simp [intOf]; omega
                    · have h78 : ((r : Int) + 1 == 8) = false := by rw [beq_eq_false_iff_ne]; omega
                      cases b with
                      | true =>
                        go_wp2_with fail
                        go_roundw
                        case rel =>
                          refine ⟨i + 1, by omega, by go_num, ?_, hkr⟩
                          have := rcs_more (T := T) (cw := cw) (wr := wr) (G := G) HCS.out (by omega) hG
                          rw [← HVAL.out, ← HBB.out] at this
                          exact RcS.idx (n := n + 1) this (by rw [HN.out]; omega)
                        case measure => simp [intOf]; omega
                      | false =>
                        go_wp2_with fail
                        go_roundw
                        case rel =>
                          refine ⟨i + 1, by omega, by go_num, ?_, hkr⟩
                          have := rcs_more (T := T) (cw := cw) (wr := wr) (G := G) HCS.out (by omega) hG
                          rw [← HVAL.out, ← HBB.out] at this
                          have e : (((2 * val + false.toNat : Nat)) : Int) = (val : Int) * 2 := by simp only [Bool.toNat_false]; omega
                          rw [e] at this
                          exact RcS.idx (n := n + 1) this (by rw [HN.out]; omega)
                        case measure => simp [intOf]; omega
                · have hie : i = 2 := by omega
                  subst hie
                  go_wp2_with fail
                  go_roundg (d - (t + 1))
                  case measure => omega
                  case rel => exact ⟨t + 1, by omega, by omega, by go_num, hS.idx (by rw [show 2 * (c * d + (t + 1)) = 2 * (c * d + t) + 2 by omega]), hkr⟩
            · have hdt : decide ((t : Int) < (d : Int)) = false := by simp; omega
              have hte : t = d := by omega
              rw [hte] at hS
              have hq : 2 * (c * d + d) = 2 * ((c + 1) * d) := by have e : (c + 1) * d = c * d + d := Nat.succ_mul c d; rw [e]
              have hS' := hS.idx hq
              have hnx2 : X1 - 2 = hx d (c + 1) := by have := HNX.out; have := HX1.out; omega
              have HNX2 := Lib.hid hnx2
              have hcb : ((c + 1) % 2 == 0) = false := by have := HPAR.out; rw [beq_eq_false_iff_ne]; omega
              have HCB2 := Lib.hid hcb
              clear hte hq hnx2 hcb
              go_wp2_with fail
              go_roundw
              case rel => exact ⟨c + 1, by omega, by rw [HCB2.out], by rw [HNX2.out], hS', hkr⟩
              case measure => simp [intOf]; omega
      | false =>
        have hpar : ¬ c % 2 = 0 := by simpa using hcb0
        have HPAR := Lib.hid hpar
        clear hcb0 hpar
        rcases hcol with ⟨e1, e2⟩ | ⟨e1, e2⟩
        · have b6 : (X0 == 6) = true := by rw [e1]; rfl
          have hX1 : X0 - 1 = ((colX d c : Nat) : Int) := by rw [e1, e2]; rfl
          obtain ⟨X1, hX1e⟩ : ∃ X1, X1 = X0 - 1 := ⟨_, rfl⟩
          rw [← hX1e] at hX1
          have HX1 := Lib.hid hX1
          clear e1 e2 hX1
          go_wp2_with fail
          rw [← hX1e]
          have hX10 : X1 ≤ X0 := by omega
          clear hX1e
          have hX1b : 0 ≤ X1 ∧ X1 < ((d : Nat) : Int) := by
            have q1 := HX1.out
            have q2 := (col_facts (d := d) (c := c) (i := 0) (by omega) (by omega) (by omega) (by omega)).2.1
            omega
          go_loopg [12, 13, 14, 16, 17, 18] d (fun gk t12 t13 t14 t16 t17 t18 wr => ∃ t : Nat, t ≤ d ∧ d ≤ gk + t ∧ t16 = .int .i64 (t : Nat) ∧ RcS v T cw G (2 * (c * d + t)) t12 t13 t14 wr ∧ Kp [G] w1 wr)
          case atStart => exact ⟨0, by omega, by omega, rfl, hS.idx (by rw [Nat.add_zero]), hkr⟩
          case round =>
            obtain ⟨t, htl, hgk, rfl, hS, hkr⟩ := hrel
            by_cases ht : t < d
            · have hdt : decide ((t : Int) < (d : Int)) = true := by simp; omega
              obtain ⟨y, hy⟩ : ∃ y, y = rowY d c t := ⟨_, rfl⟩
              have hyl : y < d := by rw [hy]; exact row_facts ht
              have hYV : (t : Int) = ((y : Nat) : Int) := by
                have := HPAR.out
                rw [hy]; unfold rowY; rw [if_neg (by omega)]
              have HYV := Lib.hid hYV
              have HY := Lib.hid hy
              clear hYV hy
              go_wp2_with fail
              obtain ⟨wo, rfl⟩ : ∃ wo : World, wo = wr := ⟨_, rfl⟩
              go_loopw [12, 13, 14, 18] (fun t12 t13 t14 t18 wr => ∃ i : Nat, i ≤ 2 ∧ t18 = .int .i64 (i : Nat) ∧ RcS v T cw G (2 * (c * d + t) + i) t12 t13 t14 wr ∧ Kp [G] w1 wr) (fun _ _ _ t18 _ => 2 - (intOf t18).toNat)
              case atStart => exact ⟨0, by omega, rfl, hS.idx (by rw [Nat.add_zero]), hkr⟩
              case round =>
                obtain ⟨i, hi, rfl, hS, hkr⟩ := hrel
                by_cases hi2 : i < 2
                · have hdi : decide ((i : Int) < 2) = true := by simp; omega
                  obtain ⟨x, hx⟩ : ∃ x, x = colX d c - i := ⟨_, rfl⟩
                  have hcf := col_facts (d := d) (c := c) (i := i) (by omega) (by omega) (by omega) hi2
                  rw [← hx] at hcf
                  have hxd : x < d := by omega
                  have hxv : X1 - (i : Int) = ((x : Nat) : Int) := by have := HX1.out; omega
                  have HXV := Lib.hid hxv
                  have HX := Lib.hid hx
                  clear hx hxv hcf
                  obtain ⟨n, hn⟩ : ∃ n, n = 2 * (c * d + t) + i := ⟨_, rfl⟩
                  rw [← hn] at hS
                  have HN := Lib.hid hn
                  clear hn
                  obtain ⟨e12, e13, e14, hG⟩ := hS
                  have hqr : cnt v n = 8 * (cnt v n / 8) + cnt v n % 8 := by omega
                  have hr8 : cnt v n % 8 < 8 := by omega
                  obtain ⟨q, hq⟩ : ∃ q, q = cnt v n / 8 := ⟨_, rfl⟩
                  obtain ⟨r, hr⟩ : ∃ r, r = cnt v n % 8 := ⟨_, rfl⟩
                  rw [← hq, ← hr] at hqr e13
                  rw [← hq] at e12 hG
                  rw [← hr] at e14 hr8
                  have HQR := Lib.hid hqr
                  clear hq hr hqr
                  have hM := hM1.kp hkr (by simp; omega) (by simp; omega)
                  have hB := hB1.kp hkr (by simp; omega) (by simp; omega)
                  obtain ⟨val, hval⟩ : ∃ val, val = valS (cw.flatMap (bitsOf 8)) (8 * q) r := ⟨_, rfl⟩
                  have hvl := valS_lt (cw.flatMap (bitsOf 8)) (8 * q) r
                  have hvl2 : 2 ^ r ≤ 128 := Nat.pow_le_pow_right (show 0 < 2 by omega) (show r ≤ 7 by omega)
                  rw [← hval] at hvl e13
                  have hvb : val < 128 := by omega
                  have HVAL := Lib.hid hval
                  clear hval hvl hvl2
                  subst e12 e13 e14
                  cases hf : fp v y x with
                  | true =>
                    have hcs := cnt_skipD (v := v) (c := c) (t := t) (i := i) HD.out (by rw [← HY.out, ← HX.out]; exact hf) ht hi2
                    rw [← HN.out] at hcs
                    have HCS := Lib.hid hcs
                    have HF := Lib.hid hf
                    clear hf hcs
                    go_wp2_with fail
                    refine (bmget_any x y hB HXV.out HYV.out (by omega) (by omega)).mono ?_
                    rintro e w2 ⟨rfl, rfl⟩
                    rw [HF.out]
                    go_wp2_with fail
                    go_roundw
                    case rel =>
                      refine ⟨i + 1, by omega, by go_num, ?_, hkr⟩
                      refine RcS.idx (n := n + 1) (RcS.same (n := n) ⟨?_, ?_, ?_, ?_⟩ HCS.out) (by rw [HN.out]; omega)
                      · rw [HQR.out, show (8 * q + r) / 8 = q by omega]
                      · rw [HQR.out, show (8 * q + r) / 8 = q by omega, show (8 * q + r) % 8 = r by omega, HVAL.out]
                      · rw [HQR.out, show (8 * q + r) % 8 = r by omega]
                      · rw [HQR.out, show (8 * q + r) / 8 = q by omega]; exact hG
                    case measure => simp [intOf]; omega
                  | false =>
                    have hcs := cnt_putD (v := v) (c := c) (t := t) (i := i) HD.out (by rw [← HY.out, ← HX.out, hf]; simp) ht hi2
                    rw [← HN.out, HQR.out] at hcs
                    have hbit := HDAT.out c t i (by omega) ht hi2 (by rw [← HY.out, ← HX.out]; exact hf)
                    rw [← HY.out, ← HX.out, ← HN.out, HQR.out] at hbit
                    have hnl : n + 1 ≤ 2 * ((8 + 2 * v) * (17 + 4 * v)) := by
                      have e1 : c * d + d ≤ (8 + 2 * v) * d := by
                        have := Nat.mul_le_mul_right d (show c + 1 ≤ 8 + 2 * v by omega)
                        rw [Nat.succ_mul] at this; exact this
                      rw [← HD.out, HN.out]; omega
                    have hqT : r = 7 → q < T := fun h7 => by
                      have := qn_lt v (q + 1) (n + 1) h1 h27 hnl (by rw [hcs]; omega)
                      rw [HT.out]; omega
                    have HCS := Lib.hid hcs
                    have HBIT := Lib.hid hbit
                    have HF := Lib.hid hf
                    have HQT := Lib.hid hqT
                    clear hf hcs hbit hnl hqT
                    go_wp2_with fail
                    refine (bmget_any x y hB HXV.out HYV.out (by omega) (by omega)).mono ?_
                    rintro e w2 ⟨rfl, rfl⟩
                    rw [HF.out]
                    have hPr := hP1.kp hkr (by simp; omega)
                    have a0 := hPr.cell 0
                    simp only [List.getElem?_toArray, List.getElem?_cons_zero] at a0
                    go_wp2_with fail
                    refine (bmget_any x y hM HXV.out HYV.out (by omega) (by omega)).mono ?_
                    rintro e w2 ⟨rfl, rfl⟩
                    rw [HBIT.out]
                    clear a0
                    obtain ⟨b, hb⟩ : ∃ b, b = (cw.flatMap (bitsOf 8)).getD (8 * q + r) false := ⟨_, rfl⟩
                    rw [← hb]
                    have HBB := Lib.hid hb
                    clear hb
                    have o1 := i64_or (2 * val) 1 (by omega) (by omega)
                    rw [or1] at o1
                    have O1 : bits .or .i64 ((val : Int) * 2) 1 = ((2 * val + 1 : Nat) : Int) := by rw [← o1]; congr 1; omega
                    clear o1
                    by_cases h7 : r = 7
                    · subst h7
                      have hq := HQT.out rfl
                      have h78 : (((7 : Nat) : Int) + 1 == 8) = true := rfl
                      have hfz := hG.frozen q
                      have hGl : T ≤ 4000 := HTL.out
                      have hword : valS (cw.flatMap (bitsOf 8)) (8 * q) 8 = nth cw q := valS_word cw q (by rw [HCL.out, ← HT.out]; exact hq) (HCB.out q)
                      have hcwb := HCB.out q
                      have hvb2 : 2 * val + b.toNat = nth cw q := by
                        rw [← hword, HVAL.out, HBB.out]; rfl
                      have HVB := Lib.hid hvb2
                      have hGs := hG.set_ q (.int .u8 (nth cw q : Nat))
                      rw [ints_set, tab_fill] at hGs
                      have HGS := Lib.hid hGs
                      have hcz := hG.cell q
                      rw [ints_get (by rw [tab_length]; exact hq)] at hcz
                      obtain ⟨z, hz⟩ : ∃ z, z = nth (tab T fun i => if i < q then nth cw i else 0) q := ⟨_, rfl⟩
                      rw [← hz] at hcz
                      have HCWB := Lib.hid hcwb
                      clear hword hvb2 hGs hcwb hz
                      cases b with
                      | true =>
                        have CV : Hid (2 * (val : Int) + 1 = ((nth cw q : Nat) : Int)) := Lib.hid (by
                          have h1 := HVB.out
                          simp only [Bool.toNat_true] at h1
                          omega)
                        go_wp2_with fail
                        go_roundw
                        case rel =>
                          refine ⟨i + 1, by omega, by go_num, ?_, hkr.setCell (by simp) _⟩
                          refine RcS.idx (n := n + 1) (rcs_full HCS.out ?_) (by rw [HN.out]; omega)
                          rw [CV.out]
                          exact HGS.out
                        case measure => simp [intOf]; omega
                      | false =>
                        have CV : Hid ((val : Int) * 2 = ((nth cw q : Nat) : Int)) := Lib.hid (by
                          have h1 := HVB.out
                          simp only [Bool.toNat_false] at h1
                          omega)
                        go_wp2_with fail
                        go_roundw
                        case rel =>
                          refine ⟨i + 1, by omega, by go_num, ?_, hkr.setCell (by simp) _⟩
                          refine RcS.idx (n := n + 1) (rcs_full HCS.out ?_) (by rw [HN.out]; omega)
                          rw [CV.out]
                          exact HGS.out
                        case measure => simp [intOf]; omega
                    · have h78 : ((r : Int) + 1 == 8) = false := by rw [beq_eq_false_iff_ne]; omega
                      cases b with
                      | true =>
                        go_wp2_with fail
                        go_roundw
                        case rel =>
                          refine ⟨i + 1, by omega, by go_num, ?_, hkr⟩
                          have := rcs_more (T := T) (cw := cw) (wr := wr) (G := G) HCS.out (by omega) hG
                          rw [← HVAL.out, ← HBB.out] at this
                          exact RcS.idx (n := n + 1) this (by rw [HN.out]; omega)
                        case measure => simp [intOf]; omega
                      | false =>
                        go_wp2_with fail
                        go_roundw
                        case rel =>
                          refine ⟨i + 1, by omega, by go_num, ?_, hkr⟩
                          have := rcs_more (T := T) (cw := cw) (wr := wr) (G := G) HCS.out (by omega) hG
                          rw [← HVAL.out, ← HBB.out] at this
                          have e : (((2 * val + false.toNat : Nat)) : Int) = (val : Int) * 2 := by simp only [Bool.toNat_false]; omega
                          rw [e] at this
                          exact RcS.idx (n := n + 1) this (by rw [HN.out]; omega)
                        case measure => simp [intOf]; omega
                · have hie : i = 2 := by omega
                  subst hie
                  go_wp2_with fail
                  go_roundg (d - (t + 1))
                  case measure => omega
                  case rel => exact ⟨t + 1, by omega, by omega, by go_num, hS.idx (by rw [show 2 * (c * d + (t + 1)) = 2 * (c * d + t) + 2 by omega]), hkr⟩
            · have hdt : decide ((t : Int) < (d : Int)) = false := by simp; omega
              have hte : t = d := by omega
              rw [hte] at hS
              have hq : 2 * (c * d + d) = 2 * ((c + 1) * d) := by have e : (c + 1) * d = c * d + d := Nat.succ_mul c d; rw [e]
              have hS' := hS.idx hq
              have hnx2 : X1 - 2 = hx d (c + 1) := by have := HNX.out; have := HX1.out; omega
              have HNX2 := Lib.hid hnx2
              have hcb : ((c + 1) % 2 == 0) = true := by have := HPAR.out; rw [beq_iff_eq]; omega
              have HCB2 := Lib.hid hcb
              clear hte hq hnx2 hcb
              go_wp2_with fail
              go_roundw
              case rel => exact ⟨c + 1, by omega, by rw [HCB2.out], by rw [HNX2.out], hS', hkr⟩
              case measure => simp [intOf]; omega
        · have b6 : (X0 == 6) = false := by rw [beq_eq_false_iff_ne]; exact e1
          have HX1 := Lib.hid e2
          clear e1 e2
          go_wp2_with fail
          obtain ⟨X1, hX1⟩ : ∃ X1, X1 = X0 := ⟨_, rfl⟩
          rw [← hX1] at HX1 ⊢
          have hX10 : X1 ≤ X0 := by omega
          clear hX1
          have hX1b : 0 ≤ X1 ∧ X1 < ((d : Nat) : Int) := by
            have q1 := HX1.out
            have q2 := (col_facts (d := d) (c := c) (i := 0) (by omega) (by omega) (by omega) (by omega)).2.1
            omega
          go_loopg [12, 13, 14, 16, 17, 18] d (fun gk t12 t13 t14 t16 t17 t18 wr => ∃ t : Nat, t ≤ d ∧ d ≤ gk + t ∧ t16 = .int .i64 (t : Nat) ∧ RcS v T cw G (2 * (c * d + t)) t12 t13 t14 wr ∧ Kp [G] w1 wr)
          case atStart => exact ⟨0, by omega, by omega, rfl, hS.idx (by rw [Nat.add_zero]), hkr⟩
          case round =>
            obtain ⟨t, htl, hgk, rfl, hS, hkr⟩ := hrel
            by_cases ht : t < d
            · have hdt : decide ((t : Int) < (d : Int)) = true := by simp; omega
              obtain ⟨y, hy⟩ : ∃ y, y = rowY d c t := ⟨_, rfl⟩
              have hyl : y < d := by rw [hy]; exact row_facts ht
              have hYV : (t : Int) = ((y : Nat) : Int) := by
                have := HPAR.out
                rw [hy]; unfold rowY; rw [if_neg (by omega)]
              have HYV := Lib.hid hYV
              have HY := Lib.hid hy
              clear hYV hy
              go_wp2_with fail
              obtain ⟨wo, rfl⟩ : ∃ wo : World, wo = wr := ⟨_, rfl⟩
              go_loopw [12, 13, 14, 18] (fun t12 t13 t14 t18 wr => ∃ i : Nat, i ≤ 2 ∧ t18 = .int .i64 (i : Nat) ∧ RcS v T cw G (2 * (c * d + t) + i) t12 t13 t14 wr ∧ Kp [G] w1 wr) (fun _ _ _ t18 _ => 2 - (intOf t18).toNat)
              case atStart => exact ⟨0, by omega, rfl, hS.idx (by rw [Nat.add_zero]), hkr⟩
              case round =>
                obtain ⟨i, hi, rfl, hS, hkr⟩ := hrel
                by_cases hi2 : i < 2
                · have hdi : decide ((i : Int) < 2) = true := by simp; omega
                  obtain ⟨x, hx⟩ : ∃ x, x = colX d c - i := ⟨_, rfl⟩
                  have hcf := col_facts (d := d) (c := c) (i := i) (by omega) (by omega) (by omega) hi2
                  rw [← hx] at hcf
                  have hxd : x < d := by omega
                  have hxv : X1 - (i : Int) = ((x : Nat) : Int) := by have := HX1.out; omega
                  have HXV := Lib.hid hxv
                  have HX := Lib.hid hx
                  clear hx hxv hcf
                  obtain ⟨n, hn⟩ : ∃ n, n = 2 * (c * d + t) + i := ⟨_, rfl⟩
                  rw [← hn] at hS
                  have HN := Lib.hid hn
                  clear hn
                  obtain ⟨e12, e13, e14, hG⟩ := hS
                  have hqr : cnt v n = 8 * (cnt v n / 8) + cnt v n % 8 := by omega
                  have hr8 : cnt v n % 8 < 8 := by omega
                  obtain ⟨q, hq⟩ : ∃ q, q = cnt v n / 8 := ⟨_, rfl⟩
                  obtain ⟨r, hr⟩ : ∃ r, r = cnt v n % 8 := ⟨_, rfl⟩
                  rw [← hq, ← hr] at hqr e13
                  rw [← hq] at e12 hG
                  rw [← hr] at e14 hr8
                  have HQR := Lib.hid hqr
                  clear hq hr hqr
                  have hM := hM1.kp hkr (by simp; omega) (by simp; omega)
                  have hB := hB1.kp hkr (by simp; omega) (by simp; omega)
                  obtain ⟨val, hval⟩ : ∃ val, val = valS (cw.flatMap (bitsOf 8)) (8 * q) r := ⟨_, rfl⟩
                  have hvl := valS_lt (cw.flatMap (bitsOf 8)) (8 * q) r
                  have hvl2 : 2 ^ r ≤ 128 := Nat.pow_le_pow_right (show 0 < 2 by omega) (show r ≤ 7 by omega)
                  rw [← hval] at hvl e13
                  have hvb : val < 128 := by omega
                  have HVAL := Lib.hid hval
                  clear hval hvl hvl2
                  subst e12 e13 e14
                  cases hf : fp v y x with
                  | true =>
                    have hcs := cnt_skipD (v := v) (c := c) (t := t) (i := i) HD.out (by rw [← HY.out, ← HX.out]; exact hf) ht hi2
                    rw [← HN.out] at hcs
                    have HCS := Lib.hid hcs
                    have HF := Lib.hid hf
                    clear hf hcs
                    go_wp2_with fail
                    refine (bmget_any x y hB HXV.out HYV.out (by omega) (by omega)).mono ?_
                    rintro e w2 ⟨rfl, rfl⟩
                    rw [HF.out]
                    go_wp2_with fail
                    go_roundw
                    case rel =>
                      refine ⟨i + 1, by omega, by go_num, ?_, hkr⟩
                      refine RcS.idx (n := n + 1) (RcS.same (n := n) ⟨?_, ?_, ?_, ?_⟩ HCS.out) (by rw [HN.out]; omega)
                      · rw [HQR.out, show (8 * q + r) / 8 = q by omega]
                      · rw [HQR.out, show (8 * q + r) / 8 = q by omega, show (8 * q + r) % 8 = r by omega, HVAL.out]
                      · rw [HQR.out, show (8 * q + r) % 8 = r by omega]
                      · rw [HQR.out, show (8 * q + r) / 8 = q by omega]; exact hG
                    case measure => simp [intOf]; omega
                  | false =>
                    have hcs := cnt_putD (v := v) (c := c) (t := t) (i := i) HD.out (by rw [← HY.out, ← HX.out, hf]; simp) ht hi2
                    rw [← HN.out, HQR.out] at hcs
                    have hbit := HDAT.out c t i (by omega) ht hi2 (by rw [← HY.out, ← HX.out]; exact hf)
                    rw [← HY.out, ← HX.out, ← HN.out, HQR.out] at hbit
                    have hnl : n + 1 ≤ 2 * ((8 + 2 * v) * (17 + 4 * v)) := by
                      have e1 : c * d + d ≤ (8 + 2 * v) * d := by
                        have := Nat.mul_le_mul_right d (show c + 1 ≤ 8 + 2 * v by omega)
                        rw [Nat.succ_mul] at this; exact this
                      rw [← HD.out, HN.out]; omega
                    have hqT : r = 7 → q < T := fun h7 => by
                      have := qn_lt v (q + 1) (n + 1) h1 h27 hnl (by rw [hcs]; omega)
                      rw [HT.out]; omega
                    have HCS := Lib.hid hcs
                    have HBIT := Lib.hid hbit
                    have HF := Lib.hid hf
                    have HQT := Lib.hid hqT
                    clear hf hcs hbit hnl hqT
                    go_wp2_with fail
                    refine (bmget_any x y hB HXV.out HYV.out (by omega) (by omega)).mono ?_
                    rintro e w2 ⟨rfl, rfl⟩
                    rw [HF.out]
                    have hPr := hP1.kp hkr (by simp; omega)
                    have a0 := hPr.cell 0
                    simp only [List.getElem?_toArray, List.getElem?_cons_zero] at a0
                    go_wp2_with fail
                    refine (bmget_any x y hM HXV.out HYV.out (by omega) (by omega)).mono ?_
                    rintro e w2 ⟨rfl, rfl⟩
                    rw [HBIT.out]
                    clear a0
                    obtain ⟨b, hb⟩ : ∃ b, b = (cw.flatMap (bitsOf 8)).getD (8 * q + r) false := ⟨_, rfl⟩
                    rw [← hb]
                    have HBB := Lib.hid hb
                    clear hb
                    have o1 := i64_or (2 * val) 1 (by omega) (by omega)
                    rw [or1] at o1
                    have O1 : bits .or .i64 ((val : Int) * 2) 1 = ((2 * val + 1 : Nat) : Int) := by rw [← o1]; congr 1; omega
                    clear o1
                    by_cases h7 : r = 7
                    · subst h7
                      have hq := HQT.out rfl
                      have h78 : (((7 : Nat) : Int) + 1 == 8) = true := rfl
                      have hfz := hG.frozen q
                      have hGl : T ≤ 4000 := HTL.out
                      have hword : valS (cw.flatMap (bitsOf 8)) (8 * q) 8 = nth cw q := valS_word cw q (by rw [HCL.out, ← HT.out]; exact hq) (HCB.out q)
                      have hcwb := HCB.out q
                      have hvb2 : 2 * val + b.toNat = nth cw q := by
                        rw [← hword, HVAL.out, HBB.out]; rfl
                      have HVB := Lib.hid hvb2
                      have hGs := hG.set_ q (.int .u8 (nth cw q : Nat))
                      rw [ints_set, tab_fill] at hGs
                      have HGS := Lib.hid hGs
                      have hcz := hG.cell q
                      rw [ints_get (by rw [tab_length]; exact hq)] at hcz
                      obtain ⟨z, hz⟩ : ∃ z, z = nth (tab T fun i => if i < q then nth cw i else 0) q := ⟨_, rfl⟩
                      rw [← hz] at hcz
                      have HCWB := Lib.hid hcwb
                      clear hword hvb2 hGs hcwb hz
                      cases b with
                      | true =>
                        have CV : Hid (2 * (val : Int) + 1 = ((nth cw q : Nat) : Int)) := Lib.hid (by
                          have h1 := HVB.out
                          simp only [Bool.toNat_true] at h1
                          omega)
                        go_wp2_with fail
                        go_roundw
                        case rel =>
                          refine ⟨i + 1, by omega, by go_num, ?_, hkr.setCell (by simp) _⟩
                          refine RcS.idx (n := n + 1) (rcs_full HCS.out ?_) (by rw [HN.out]; omega)
                          rw [CV.out]
                          exact HGS.out
                        case measure => simp [intOf]; omega
                      | false =>
                        have CV : Hid ((val : Int) * 2 = ((nth cw q : Nat) : Int)) := Lib.hid (by
                          have h1 := HVB.out
                          simp only [Bool.toNat_false] at h1
                          omega)
                        go_wp2_with fail
                        go_roundw
                        case rel =>
                          refine ⟨i + 1, by omega, by go_num, ?_, hkr.setCell (by simp) _⟩
                          refine RcS.idx (n := n + 1) (rcs_full HCS.out ?_) (by rw [HN.out]; omega)
                          rw [CV.out]
                          exact HGS.out
                        case measure => simp [intOf]; omega
                    · have h78 : ((r : Int) + 1 == 8) = false := by rw [beq_eq_false_iff_ne]; omega
                      cases b with
                      | true =>
                        go_wp2_with fail
                        go_roundw
                        case rel =>
                          refine ⟨i + 1, by omega, by go_num, ?_, hkr⟩
                          have := rcs_more (T := T) (cw := cw) (wr := wr) (G := G) HCS.out (by omega) hG
                          rw [← HVAL.out, ← HBB.out] at this
                          exact RcS.idx (n := n + 1) this (by rw [HN.out]; omega)
                        case measure => simp [intOf]; omega
                      | false =>
                        go_wp2_with fail
                        go_roundw
                        case rel =>
                          refine ⟨i + 1, by omega, by go_num, ?_, hkr⟩
                          have := rcs_more (T := T) (cw := cw) (wr := wr) (G := G) HCS.out (by omega) hG
                          rw [← HVAL.out, ← HBB.out] at this
                          have e : (((2 * val + false.toNat : Nat)) : Int) = (val : Int) * 2 := by simp only [Bool.toNat_false]; omega
                          rw [e] at this
                          exact RcS.idx (n := n + 1) this (by rw [HN.out]; omega)
                        case measure => simp [intOf]; omega
                · have hie : i = 2 := by omega
                  subst hie
                  go_wp2_with fail
                  go_roundg (d - (t + 1))
                  case measure => omega
                  case rel => exact ⟨t + 1, by omega, by omega, by go_num, hS.idx (by rw [show 2 * (c * d + (t + 1)) = 2 * (c * d + t) + 2 by omega]), hkr⟩
            · have hdt : decide ((t : Int) < (d : Int)) = false := by simp; omega
              have hte : t = d := by omega
              rw [hte] at hS
              have hq : 2 * (c * d + d) = 2 * ((c + 1) * d) := by have e : (c + 1) * d = c * d + d := Nat.succ_mul c d; rw [e]
              have hS' := hS.idx hq
              have hnx2 : X1 - 2 = hx d (c + 1) := by have := HNX.out; have := HX1.out; omega
              have HNX2 := Lib.hid hnx2
              have hcb : ((c + 1) % 2 == 0) = true := by have := HPAR.out; rw [beq_iff_eq]; omega
              have HCB2 := Lib.hid hcb
              clear hte hq hnx2 hcb
              go_wp2_with fail
              go_roundw
              case rel => exact ⟨c + 1, by omega, by rw [HCB2.out], by rw [HNX2.out], hS', hkr⟩
              case measure => simp [intOf]; omega
    · have hce : c = 8 + 2 * v := by omega
      have hxe : hx d c = -1 := by rw [hce, show 8 + 2 * v = (d - 1) / 2 by omega]; exact hx_end (by omega) (by omega)
      rw [hxe]
      obtain ⟨e12, e13, e14, hG⟩ := hS
      have hfin : cnt v (2 * (c * d)) / 8 = T := by rw [hce, HD.out, HT.out]; exact room v h1 h27
      rw [hfin] at e12 hG
      have hcwt : (tab T fun i => if i < T then nth cw i else 0) = cw := by
        have := tab_nth cw
        rw [HCL.out, ← HT.out] at this
        rw [← this]
        refine tab_congr (fun i hi => ?_)
        rw [if_pos hi, this]
      rw [hcwt] at hG
      have hVr := HV1.out.kp hkr (by
        intro k hk t arr hb
        simp only [List.mem_cons, List.not_mem_nil, or_false] at hk
        subst hk
        rw [← Blk.ty hG0 hb]; decide)
      have hTT : (((T : Nat) : Int) != ((T : Nat) : Int)) = false := by simp
      subst e12 e13 e14
      clear hce hxe hfin hcwt
      go_wp2_with fail
      refine (vertot_any V v _ hVr).mono ?_
      rintro e w9 ⟨rfl, rfl⟩
      rw [← HT.out]
      go_wp2_with fail
      go_ret2
      exact ⟨G, by rw [HCL.out, ← HT.out]; rfl, hG, hGw, HK1.out.trans hkr (by intro i hi hlt; simp at hi; omega)⟩
end
end Go.Proofs.YtcekbhhpcmhicaaGreatDoor
