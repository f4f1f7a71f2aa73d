/- All basic patterns; The bits of format and version; Blocks of data and check bytes: interleaveWithECBytes. -/
import Derived.Test.YtcekbhhpcmhicaaGreatDoorM02
import Derived.Test.YtcekbhhpcmhicaaGreatDoorM09
import Derived.Test.YtcekbhhpcmhicaaGreatDoorM11
import Derived.Test.YtcekbhhpcmhicaaGreatDoorM12
import Derived.Test.YtcekbhhpcmhicaaGreatDoorM14
namespace Go.Proofs.YtcekbhhpcmhicaaGreatDoor
open Go.RowKit Go.QW Go.QM Go.QV Go.QZ
section
variable {w : World} {A R V v : Nat} {f : Cells}
set_option maxHeartbeats 8000000 in
set_option maxRecDepth 100000 in
theorem basic_any (h : Mat w A R (17 + 4 * v) f) (_hV : Ver w V v) (he : ∀ y x, f y x = -1) (h1 : 1 ≤ v) (h2 : v ≤ 27) (hVo : ∀ w', Kp (rowsOf R (17 + 4 * v)) w w' → Ver w' V v) :
    Calls Tryz.prog 124 #[.pointer (some ⟨V, 0, none⟩), .pointer (some ⟨A, 0, none⟩)] w fun e w' => ∃ g, e = .returned .nilIface ∧ Mat w' A R (17 + 4 * v) g ∧
      (∀ y x, y < 17 + 4 * v → x < 17 + 4 * v → (g y x = -1 ↔ ¬ C8 (17 + 4 * v) y x ∧ ¬ (y = 9 + 4 * v ∧ x = 8) ∧ ¬ alB (17 + 4 * v) (aligns v) y x = true ∧ ¬ tim (17 + 4 * v) y x)) ∧
      (∀ y x, C8 (17 + 4 * v) y x → g y x = c8 (17 + 4 * v) f y x) ∧ Kp (rowsOf R (17 + 4 * v)) w w' := by
  have HE := Lib.hid he
  have HVO := Lib.hid hVo
  clear he hVo
  go_enter Tryz.func124, Tryz.ntmps124
  go_wp2_with fail
  refine (corners_any h (by omega) HE.out).mono ?_
  rintro e w1 ⟨rfl, hM1, k1⟩
  go_wp2_with fail
  have hout := c8_out (d := 17 + 4 * v) (y := 17 + 4 * v - 8) (x := 8) (by omega) f (by unfold C8; omega)
  have hb0 : Base0 v (upd (c8 (17 + 4 * v) f) (17 + 4 * v - 8) 8 1) := by
    intro y x hy hx
    unfold upd
    by_cases e : y = 17 + 4 * v - 8 ∧ x = 8
    · rw [if_pos e]
      exact ⟨fun h => by omega, fun h => absurd (by omega) h.2⟩
    · rw [if_neg e]
      by_cases hC : C8 (17 + 4 * v) y x
      · have := c8_in (d := 17 + 4 * v) (by omega) f hC
        exact ⟨fun h => by omega, fun h => absurd hC h.1⟩
      · rw [c8_out (by omega) f hC, HE.out]
        exact ⟨fun _ => ⟨hC, by omega⟩, fun _ => rfl⟩
  have hne : c8 (17 + 4 * v) f (17 + 4 * v - 8) 8 ≠ 0 := by rw [hout, HE.out]; decide
  have HB0 := Lib.hid hb0
  clear hb0 hout
  refine (dark_any hM1 (by omega) hne).mono ?_
  rintro e w2 ⟨rfl, hM2, k2⟩
  clear hne
  have k12 := k1.more k2
  go_wp2_with fail
  refine (align_any hM2 (HVO.out _ k12) HB0.out h1 h2).mono ?_
  rintro e w3 ⟨g3, rfl, hM3, he3, ho3, k3⟩
  have HE3 := Lib.hid he3
  have HO3 := Lib.hid ho3
  clear he3 ho3
  go_wp2_with fail
  refine (timing_any hM3 (by omega)).mono ?_
  rintro e w4 ⟨g4, rfl, hM4, hF4, k4⟩
  go_wp2_with fail
  go_ret
  refine ⟨g4, rfl, hM4, fun y x hy hx => ?_, fun y x hC => ?_, (k12.more k3).more k4⟩
  · rw [hF4.emp y x hy hx, HE3.out y x hy hx, HB0.out y x hy hx, and_assoc, and_assoc]
  · have e3 : g3 y x = c8 (17 + 4 * v) f y x := by
      rw [HO3.out y x hC]
      unfold upd
      rw [if_neg]
      rintro ⟨rfl, rfl⟩
      unfold C8 at hC; omega
    have := c8_in (d := 17 + 4 * v) (by omega) f hC
    rw [hF4.old y x (by rw [e3]; omega), e3]
end
end Go.Proofs.YtcekbhhpcmhicaaGreatDoor
namespace Go.Proofs.YtcekbhhpcmhicaaGreatDoor
open Go.RowKit Go.QW
/-- the 15 bits of a format: level and mask -/
def fmtT (t : Nat) : Nat := [21522, 20773, 24188, 23371, 17913, 16590, 20375, 19104, 30660, 29427, 32170, 30877, 26159, 25368, 27713, 26998, 5769, 5054, 7399, 6608, 1890, 597, 3340, 2107, 13663, 12392, 16177, 14854, 9396, 8579, 11994, 11245].getD t 0
/-- the 18 bits of a version from 7 on -/
def verT (v : Nat) : Nat := [31892, 34236, 39577, 42195, 48118, 51042, 55367, 58893, 63784, 68472, 70749, 76311, 79154, 84390, 87683, 92361, 96236, 102084, 102881, 110507, 110734, 117786, 119615, 126325, 127568, 133589, 136944, 141498, 145311, 150283, 152622, 158308, 161089, 167017].getD (v - 7) 0
theorem fmt_bch : ∀ t : Fin 32, bchRun 1335 11 20 (t.val * 1024) = some ((fmtT t.val ^^^ 21522) % 1024) := by decide +kernel
theorem ver_bch : ∀ v : Fin 41, 7 ≤ v.val → bchRun 7973 13 20 (v.val * 4096) = some (verT v.val % 4096) := by decide +kernel
theorem fmt_bits : ∀ t : Fin 32, xorB (bitsOf 5 t.val ++ bitsOf 10 ((fmtT t.val ^^^ 21522) % 1024)) (bitsOf 15 21522) = bitsOf 15 (fmtT t.val) := by decide +kernel
theorem ver_bits : ∀ v : Fin 41, 7 ≤ v.val → bitsOf 6 v.val ++ bitsOf 12 (verT v.val % 4096) = bitsOf 18 (verT v.val) := by decide +kernel
theorem or_lk : ∀ l : Fin 4, ∀ k : Fin 8, l.val * 8 ||| k.val = l.val * 8 + k.val := by decide +kernel
theorem Blk.ty {w : World} {k : Nat} {t t' : TypeId} {cs cs' : Array Value} (h : Blk w k t cs) (h' : Blk w k t' cs') : t = t' := Classical.byContradiction fun hne => h.ne_ h' hne rfl
theorem Bits.off {w : World} {A g c : Nat} {bs : List Bool} (h : Bits w A g c bs) {ts : List Nat} (h1 : 187 ∉ ts) (h2 : 252 ∉ ts) : Off w [A, g] ts := by
  obtain ⟨ws, b1, b2, -⟩ := h.ex
  intro k hk t arr hb
  simp only [List.mem_cons, List.not_mem_nil, or_false] at hk
  rcases hk with rfl | rfl
  · rw [← Blk.ty b1 hb]; exact h1
  · rw [← Blk.ty b2 hb]; exact h2
theorem Mat.off {w : World} {A R d : Nat} {f : Nat → Nat → Int} (h : Mat w A R d f) {ts : List Nat} (h1 : 64 ∉ ts) : Off w (rowsOf R d) ts := by
  intro k hk t arr hb
  rw [mem_rowsOf] at hk
  obtain ⟨y, rfl⟩ : ∃ y, k = R + 1 + y := ⟨k - (R + 1), by omega⟩
  rw [← Blk.ty (h.rows y (by omega)) hb]; exact h1
section
variable {w : World} {B g : Nat}
theorem valid_any (k : Nat) (hk : k < 8) :
    Calls Tryz.prog 69 #[.int .i64 k] w fun e w' => e = .returned (.bool true) ∧ w = w' := by
  have d1 : decide ((0 : Int) ≤ (k : Int)) = true := by simp
  have d2 : decide ((k : Int) < 8) = true := by simp; omega
  go_enter Tryz.func69, Tryz.ntmps69
  go_wp2
  go_ret
  exact ⟨rfl, rfl⟩
theorem lvbits_any (l : Nat) :
    Calls Tryz.prog 21 #[.int .i64 l] w fun e w' => e = .returned (.int .i64 l) ∧ w = w' := by
  go_enter Tryz.func21, Tryz.ntmps21
  go_wp2
  go_ret
  exact ⟨rfl, rfl⟩
set_option maxHeartbeats 4000000 in
set_option maxRecDepth 100000 in
theorem typeBits_any (l k : Nat) (hl : l < 4) (hk : k < 8) (h : BitsW w B g 1 []) :
    Calls Tryz.prog 164 #[.int .i64 l, .int .i64 k, .pointer (some ⟨B, 0, none⟩)] w fun e w' => e = .returned .nilIface ∧ BitsW w' B g 1 (bitsOf 15 (fmtT (l * 8 + k))) ∧ Kp [B, g] w w' := by
  have hor : bits .or .i64 ((l : Int) * 8) (k : Int) = ((l * 8 + k : Nat) : Int) := by
    have := i64_or (l * 8) k (by omega) (by omega)
    rw [or_lk ⟨l, hl⟩ ⟨k, hk⟩] at this
    exact this
  obtain ⟨t, ht⟩ : ∃ t, t = l * 8 + k := ⟨_, rfl⟩
  rw [← ht] at hor ⊢
  have ht32 : t < 32 := by omega
  have hbch := fmt_bch ⟨t, ht32⟩
  have hbits := fmt_bits ⟨t, ht32⟩
  simp only at hbch hbits
  obtain ⟨r, hr⟩ : ∃ r, r = (fmtT t ^^^ 21522) % 1024 := ⟨_, rfl⟩
  rw [← hr] at hbch hbits
  have hrl : r < 1024 := by omega
  have HBCH := Lib.hid hbch
  have HBITS := Lib.hid hbits
  clear hbch hbits ht hr
  go_enter Tryz.func164, Tryz.ntmps164
  go_wp2_with fail
  refine (valid_any k hk).mono ?_
  rintro e w1 ⟨rfl, rfl⟩
  go_wp2_with fail
  refine (lvbits_any l).mono ?_
  rintro e w1 ⟨rfl, rfl⟩
  go_wp2_with fail
  refine (appendBitsW_any B g 1 5 t [] w h (by simp) (by omega) (by omega) (by simp)).mono ?_
  rintro e w1 ⟨rfl, h1, k1⟩
  go_wp2_with fail
  refine (bch_any t 1335 11 r w1 (by decide +kernel) (by omega) (by omega) (by omega) HBCH.out).mono ?_
  rintro e w2 ⟨rfl, rfl⟩
  go_wp2_with fail
  refine (appendBitsW_any B g 1 10 r _ w1 h1 (by simp [bitsOf_length]) (by omega) (by omega) (by simp [bitsOf_length])).mono ?_
  rintro e w2 ⟨rfl, h2, k2⟩
  go_wp2_with fail
  refine (newbitsW_any w2).mono ?_
  rintro e w3 ⟨B2, g2, rfl, h3, hB2, hg2, hb3⟩
  have hs2 := h2.bits.lts
  have hs12 := k1.size
  have hs23 := k2.size
  have h2' : BitsW w3 B g 1 ([] ++ bitsOf 5 t ++ bitsOf 10 r) := h2.kp (Kp.of_below hb3 : Kp [] w2 w3) (by simp) (by simp)
  go_wp2_with fail
  refine (appendBitsW_any B2 g2 1 15 21522 [] w3 h3 (by simp) (by omega) (by omega) (by simp)).mono ?_
  rintro e w4 ⟨rfl, h4, k4⟩
  have h5 : BitsW w4 B g 1 ([] ++ bitsOf 5 t ++ bitsOf 10 r) := h2'.kp k4 (by simp; omega) (by simp; omega)
  go_wp2_with fail
  refine (xor_bits_any B g B2 g2 _ _ w4 h5 h4 (by omega) (by omega) (by simp [bitsOf_length])).mono ?_
  rintro e w5 ⟨rfl, h6, k6⟩
  rw [List.nil_append, List.nil_append, HBITS.out] at h6
  go_wp2_with fail
  refine (size_any B g 0 _ w5 h6.bits).mono ?_
  rintro e w6 ⟨rfl, rfl⟩
  rw [bitsOf_length]
  go_wp2_with fail
  go_ret
  refine ⟨rfl, h6, ?_⟩
  have kk : Kp [B, g] w w3 := (k1.more k2).more (Kp.of_below hb3)
  refine (kk.trans k4 ?_).trans k6 ?_
  · intro i hi hlt
    simp only [List.mem_cons, List.not_mem_nil, or_false] at hi
    omega
  · intro i hi _; simp only [List.mem_cons, List.not_mem_nil, or_false] at hi ⊢; exact .inr hi
set_option maxHeartbeats 4000000 in
set_option maxRecDepth 100000 in
theorem verBits_any (V v : Nat) (hV : Ver w V v) (h7 : 7 ≤ v) (h40 : v ≤ 40) (h : BitsW w B g 1 []) :
    Calls Tryz.prog 167 #[.pointer (some ⟨V, 0, none⟩), .pointer (some ⟨B, 0, none⟩)] w fun e w' => e = .returned .nilIface ∧ BitsW w' B g 1 (bitsOf 18 (verT v)) ∧ Kp [B, g] w w' := by
  have hbch := ver_bch ⟨v, by omega⟩ h7
  have hbits := ver_bits ⟨v, by omega⟩ h7
  simp only at hbch hbits
  obtain ⟨r, hr⟩ : ∃ r, r = verT v % 4096 := ⟨_, rfl⟩
  rw [← hr] at hbch hbits
  have hrl : r < 4096 := by omega
  have HBCH := Lib.hid hbch
  have HBITS := Lib.hid hbits
  have hV2 : ∀ w', Kp [B, g] w w' → Ver w' V v := by
    intro w' hk
    exact hV.kp hk (h.bits.off (by decide) (by decide))
  have HV2 := Lib.hid hV2
  clear hbch hbits hr hV2
  go_enter Tryz.func167, Tryz.ntmps167
  go_wp2_with fail
  refine (vernum_any V v w hV).mono ?_
  rintro e w1 ⟨rfl, rfl⟩
  go_wp2_with fail
  refine (appendBitsW_any B g 1 6 v [] w h (by simp) (by omega) (by omega) (by simp)).mono ?_
  rintro e w1 ⟨rfl, h1, k1⟩
  go_wp2_with fail
  refine (vernum_any V v w1 (HV2.out w1 k1)).mono ?_
  rintro e w1 ⟨rfl, rfl⟩
  go_wp2_with fail
  refine (bch_any v 7973 13 r _ (by decide +kernel) (by omega) (by omega) (by omega) HBCH.out).mono ?_
  rintro e w2 ⟨rfl, rfl⟩
  go_wp2_with fail
  refine (appendBitsW_any B g 1 12 r _ _ h1 (by simp [bitsOf_length]) (by omega) (by omega) (by simp [bitsOf_length])).mono ?_
  rintro e w2 ⟨rfl, h2, k2⟩
  rw [List.nil_append, HBITS.out] at h2
  go_wp2_with fail
  refine (size_any B g 0 _ w2 h2.bits).mono ?_
  rintro e w6 ⟨rfl, rfl⟩
  rw [bitsOf_length]
  go_wp2_with fail
  go_ret
  exact ⟨rfl, h2, k1.more k2⟩
end
end Go.Proofs.YtcekbhhpcmhicaaGreatDoor
namespace Go.Proofs.YtcekbhhpcmhicaaGreatDoor
open Go.RowKit Go.QW Go.QGF Go.QI

/-- block P is the pair of the bytes ds and es -/
def BP (w : World) (P : Nat) (ds es : List Nat) : Prop := ∃ D E, Blk w P 263 #[.slice (some ⟨D, 0, none⟩) ds.length ds.length, .slice (some ⟨E, 0, none⟩) es.length es.length] ∧ Blk w D 5 (ints .u8 ds) ∧ Blk w E 5 (ints .u8 es)
theorem BP.kp {w w' : World} {S : List Nat} {P : Nat} {ds es : List Nat} (h : BP w P ds es) (hk : Kp S w w') (ho : Off w S [263, 5]) : BP w' P ds es := by
  obtain ⟨D, E, h1, h2, h3⟩ := h
  exact ⟨D, E, h1.kp hk (fun hS => ho _ hS _ _ h1 (by simp)), h2.kp hk (fun hS => ho _ hS _ _ h2 (by simp)), h3.kp hk (fun hS => ho _ hS _ _ h3 (by simp))⟩
theorem BP.below {w w' : World} {P : Nat} {ds es : List Nat} (h : BP w P ds es) (hb : Below w.heap.size w w') : BP w' P ds es := h.kp (Kp.of_below hb : Kp [] w w') (by intro k hk; simp at hk)
theorem newbp_any (D E n m : Nat) (ds es : List Nat) (hn : n = ds.length) (hm : m = es.length) (w : World) (h1 : Blk w D 5 (ints .u8 ds)) (h2 : Blk w E 5 (ints .u8 es)) :
    Calls Tryz.prog 118 #[.slice (some ⟨D, 0, none⟩) n n, .slice (some ⟨E, 0, none⟩) m m] w fun e w' => ∃ P, e = .returned (.pointer (some ⟨P, 0, none⟩)) ∧ BP w' P ds es ∧ Below w.heap.size w w' := by
  subst hn hm
  go_enter Tryz.func118, Tryz.ntmps118
  go_wp2
  go_ret
  exact ⟨w.heap.size, rfl, ⟨D, E, Blk.new _ _ _, h1.alloc _, h2.alloc _⟩, (Below.refl _ _).alloc (Nat.le_refl _) _⟩
theorem bpdata_any {w : World} {P : Nat} {ds es : List Nat} (h : BP w P ds es) :
    Calls Tryz.prog 119 #[.pointer (some ⟨P, 0, none⟩)] w fun e w' => ∃ D, e = .returned (.slice (some ⟨D, 0, none⟩) ds.length ds.length) ∧ Blk w D 5 (ints .u8 ds) ∧ w = w' := by
  obtain ⟨D, E, h1, h2, h3⟩ := h
  have a0 := h1.cell 0
  simp only [List.getElem?_toArray, List.getElem?_cons_zero] at a0
  go_enter Tryz.func119, Tryz.ntmps119
  go_wp2
  go_ret
  exact ⟨D, rfl, h2, rfl⟩
theorem bpec_any {w : World} {P : Nat} {ds es : List Nat} (h : BP w P ds es) :
    Calls Tryz.prog 120 #[.pointer (some ⟨P, 0, none⟩)] w fun e w' => ∃ D, e = .returned (.slice (some ⟨D, 0, none⟩) es.length es.length) ∧ Blk w D 5 (ints .u8 es) ∧ w = w' := by
  obtain ⟨D, E, h1, h2, h3⟩ := h
  have a0 := h1.cell 1
  simp only [List.getElem?_toArray, List.getElem?_cons_zero, List.getElem?_cons_succ] at a0
  go_enter Tryz.func120, Tryz.ntmps120
  go_wp2
  go_ret
  exact ⟨E, rfl, h3, rfl⟩
/-- data bytes of block j -/
def datOf (R q m : Nat) (bs : List Bool) (j : Nat) : List Nat := tab (dl R q m j) (fun i => byteAt bs (8 * off R q m j + 8 * i))
theorem off_succ (R q m j : Nat) : off R q m (j + 1) = off R q m j + dl R q m j := by
  unfold off dl
  rw [Nat.succ_mul]
  split <;> omega
theorem off_all (R q m : Nat) (hm : m ≤ R) : off R q m R = q * R + m := by
  unfold off
  rw [Nat.mul_comm]; omega
theorem off_le {R q m j : Nat} (hm : m ≤ R) (hj : j ≤ R) : off R q m j ≤ q * R + m := by
  have : j * q ≤ R * q := Nat.mul_le_mul_right _ hj
  rw [Nat.mul_comm R q] at this
  unfold off; omega
theorem blkLen_dl {R q m j : Nat} (hR : 1 ≤ R) (hm : m < R) : blkLen (q * R + m) R j = dl R q m j := by
  have e1 : (q * R + m) / R = q := by rw [Nat.mul_comm, Nat.mul_add_div (by omega), Nat.div_eq_of_lt hm, Nat.add_zero]
  have e2 : (q * R + m) % R = m := by rw [Nat.add_comm, Nat.add_mul_mod_self_right, Nat.mod_eq_of_lt hm]
  unfold blkLen dl
  rw [e1, e2]
  by_cases h : j < R - m
  · rw [if_pos h, if_neg (by omega)]
  · rw [if_neg h, if_pos (by omega)]
/-- the longest block among the first i -/
def mxD (R q m i : Nat) : Nat := if i = 0 then 0 else dl R q m (i - 1)
theorem mxD_succ (R q m i : Nat) : mxD R q m (i + 1) = dl R q m i := by unfold mxD; rw [if_neg (by omega)]; rfl
theorem mxD_le (R q m i : Nat) : mxD R q m i ≤ dl R q m i := by
  unfold mxD dl
  repeat' split
  all_goals omega
/-- what the first loop has made -/
structure IlS (w wr : World) (R q m ec i : Nat) (bs : List Bool) (v : Value) (ps : List Nat) (es : Nat → List Nat) : Prop where
  own : wr.ownsRow 0 208 1 v i (ps.map fun p : Nat => Value.pointer (some ⟨p, 0, none⟩))
  len : ps.length = i
  bp : ∀ j, j < i → BP wr (nth ps j) (datOf R q m bs j) (es j)
  ec : ∀ j, j < i → (es j).length = ec ∧ Ok (es j) ∧ ∀ i, i < ec → ev (ex i) (datOf R q m bs j ++ es j) = 0
  below : Below w.heap.size w wr
  vown : ∀ k, v.ownBlock = some k → w.heap.size ≤ k
theorem IlS.step {w wr w4 w5 : World} {R q m ec i P : Nat} {bs : List Bool} {v v5 : Value} {ps ecs : List Nat} {es : Nat → List Nat} (hS : IlS w wr R q m ec i bs v ps es) (b24 : Below wr.heap.size wr w4) (hP : BP w4 P (datOf R q m bs i) ecs)
    (hk5 : Kp v.ownBlock.toList (w4.alloc (.cells #[.pointer (some ⟨P, 0, none⟩)] 208)) w5) (hown5 : w5.ownsRow 0 208 1 v5 (i + 1) ((ps.map fun p : Nat => Value.pointer (some ⟨p, 0, none⟩)) ++ [.pointer (some ⟨P, 0, none⟩)]))
    (hv5 : v5.ownBlock = v.ownBlock ∨ v5.ownBlock = some (w4.alloc (.cells #[.pointer (some ⟨P, 0, none⟩)] 208)).heap.size) (he : ecs.length = ec ∧ Ok ecs ∧ ∀ k, k < ec → ev (ex k) (datOf R q m bs i ++ ecs) = 0) :
    IlS w w5 R q m ec (i + 1) bs v5 (ps ++ [P]) (fun j => if j = i then ecs else es j) := by
  have hsw := hS.below.size
  have hs4 := b24.size
  have hown4 := (ownsRow_kp (S := []) hS.own (Kp.of_below b24) (by simp)).alloc (.cells #[.pointer (some ⟨P, 0, none⟩)] 208)
  have hoff : Off (w4.alloc (.cells #[.pointer (some ⟨P, 0, none⟩)] 208)) v.ownBlock.toList [263, 5] := by
    intro b hb t arr hbb hmem
    refine own_ne hown4 hbb ?_ hb
    rintro rfl
    revert hmem; decide
  have hal : ∀ P' ds es', BP w4 P' ds es' → BP w5 P' ds es' := fun P' ds es' h => (h.below ((Below.refl _ _).alloc (Nat.le_refl _) _)).kp hk5 hoff
  refine ⟨by rw [List.map_append]; exact hown5, by rw [List.length_append, hS.len]; rfl, fun j hj => ?_, fun j hj => ?_, ?_, fun k hk => ?_⟩
  · by_cases e : j = i
    · subst e
      rw [if_pos rfl]
      have : nth (ps ++ [P]) j = P := by
        have := nth_append_right (l := ps) (m := [P]) (i := 0)
        rw [hS.len] at this
        exact this
      rw [this]
      exact hal _ _ _ hP
    · rw [if_neg e, nth_append_left (by rw [hS.len]; omega)]
      exact hal _ _ _ ((hS.bp j (by omega)).below b24)
  · by_cases e : j = i
    · subst e; rw [if_pos rfl]; exact he
    · rw [if_neg e]; exact hS.ec j (by omega)
  · refine below_of_kp ((below_trans' hS.below b24 hsw).alloc (by omega) _) hk5 (by rw [World.size_alloc]; omega) (fun k hk => ?_)
    cases ho : v.ownBlock with
    | none => rw [ho] at hk; simp at hk
    | some b => rw [ho] at hk; simp at hk; subst hk; exact hS.vown _ ho
  · rcases hv5 with e | e
    · rw [e] at hk; exact hS.vown k hk
    · rw [e] at hk; injection hk with hk; rw [World.size_alloc] at hk; omega
theorem bp_info : (Tryz.prog.info? 208).map (fun i => (i.zero, i.size, i.bytes)) = some (some (.pointer none), 1, 8) := by kernel_rfl
set_option maxHeartbeats 8000000 in
set_option maxRecDepth 100000 in
theorem interleave_any (B g c T N R q m ec : Nat) (bs : List Bool) (w : World) (h : Bits w B g c bs) (hN : N = q * R + m) (hl : bs.length = 8 * N) (hT : T = N + ec * R) (hR : 1 ≤ R) (hR2 : R ≤ 100) (hm : m < R) (hq : 1 ≤ q) (hN2 : N ≤ 3000) (he : 1 ≤ ec) (he2 : ec ≤ 100) :
    Calls Tryz.prog 61 #[.pointer (some ⟨B, 0, none⟩), .int .i64 T, .int .i64 N, .int .i64 R] w fun e w' => ∃ (B2 g2 : Nat) (cw : List Nat) (es : Nat → List Nat), e = .returned (.tuple #[.pointer (some ⟨B2, 0, none⟩), .nilIface]) ∧ Bits w' B2 g2 0 (cw.flatMap (bitsOf 8)) ∧ cw.length = T ∧
      (∀ j, j < R → (es j).length = ec ∧ Ok (es j) ∧ ∀ i, i < ec → ev (ex i) (datOf R q m bs j ++ es j) = 0) ∧ (∀ j p, j < R → p < dl R q m j + ec → nth cw (rank R q m j p) = nth (datOf R q m bs j ++ es j) p) ∧ Below w.heap.size w w' ∧ w.heap.size ≤ B2 := by
  have hsz : ((8 * N + 7) / 8 : Nat) = N := by omega
  have hoffs : ∀ j, j ≤ R → off R q m j ≤ N := fun j hj => by rw [hN]; exact off_le (by omega) hj
  have HSZ := Lib.hid hsz
  have HOF := Lib.hid hoffs
  have HN := Lib.hid hN
  have HL := Lib.hid hl
  have HT := Lib.hid hT
  have hbl : bs.length ≤ 24000 := by omega
  have hqN : q ≤ N := by rw [hN]; have : q * 1 ≤ q * R := Nat.mul_le_mul_left _ hR; omega
  clear hsz hoffs hN hl hT
  obtain ⟨ib, hib, hz, hs, hbb⟩ := info_parts bp_info
  have hmk : ∀ w : World, (Instr.makeSlice 202 (.int .i64 0) (.int .i64 0)).run Tryz.prog w = .ok (.slice (some ⟨w.heap.size, 0, none⟩) 0 0) (w.alloc (.cells #[] 208)) := fun w => by
    have := run_make (P := Tryz.prog) w 202 208 ib _ Tryz.underlying202 hib hz .i64 .i64 0 0 (by omega) (by omega) (by rw [hbb]; omega) (by omega)
    rw [this, hs]
    rw [show madeCells (Value.pointer none).cells (Int.toNat 0 * 1) = #[] by kernel_rfl]
    rfl
  clear hib hz hs hbb
  go_enter Tryz.func61, Tryz.ntmps61
  go_wp2_with fail
  refine (sizeb_any B g c bs w h (by omega)).mono ?_
  rintro e w1 ⟨rfl, rfl⟩
  rw [HL.out, HSZ.out]
  go_wp2_with fail
  go_loopw [10, 11, 12, 13, 14] (fun t10 t11 t12 t13 t14 wr => ∃ (i e0 : Nat) (v : Value) (ps : List Nat) (es : Nat → List Nat), i ≤ R ∧ t14 = .int .i64 i ∧ t10 = .int .i64 ((off R q m i : Nat) : Int) ∧ t11 = .int .i64 ((mxD R q m i : Nat) : Int) ∧ t12 = .int .i64 e0 ∧ ((i < 1 ∧ e0 < 1) ∨ (1 ≤ i ∧ ec ≤ e0 ∧ e0 ≤ ec)) ∧ t13 = v ∧ IlS w wr R q m ec i bs v ps es) (fun _ _ _ _ t14 _ => R - (intOf t14).toNat)
  case atStart =>
    refine ⟨0, 0, _, [], fun _ => [], by omega, rfl, by simp [off], by simp [mxD], rfl, .inl ⟨by omega, by omega⟩, rfl, ⟨⟨rfl, .inr ⟨w.heap.size, 0, #[], rfl, Nat.zero_le _, heap_alloc_new w _, Nat.le_refl _, by simp [maxLen], rfl, rfl⟩⟩, rfl, fun j hj => absurd hj (by omega), fun j hj => absurd hj (by omega), (Below.refl _ _).alloc (Nat.le_refl _) _, fun k hk => ?_⟩⟩
    simp [Value.ownBlock] at hk; omega
  case round =>
    obtain ⟨i, e0, v, ps, es, hi, rfl, rfl, rfl, rfl, he0, hv13, hS⟩ := hrel
    have hv31 := hv13.symm
    subst hv31
    have hsw := hS.below.size
    by_cases hlt : i < R
    · have hda : decide ((i : Int) < (R : Int)) = true := by simp; omega
      have hBr := h.kp (Kp.of_below hS.below : Kp [] w wr) (by simp) (by simp)
      obtain ⟨o, ho⟩ : ∃ o, o = off R q m i := ⟨_, rfl⟩
      obtain ⟨n, hn⟩ : ∃ n, n = dl R q m i := ⟨_, rfl⟩
      obtain ⟨mx, hmx⟩ : ∃ mx, mx = mxD R q m i := ⟨_, rfl⟩
      have hos := off_succ R q m i
      have hob := HOF.out (i + 1) (by omega)
      have hmxl := mxD_le R q m i
      rw [← ho, ← hn] at hos
      rw [hos] at hob
      rw [← hmx, ← hn] at hmxl
      have hn1 : 1 ≤ n := by rcases dl_cases R q m i with ⟨_, e⟩ | ⟨_, e⟩ <;> omega
      have hbk := blkLen_dl (q := q) (j := i) hR hm
      rw [← HN.out, ← hn] at hbk
      rw [← ho, ← hmx]
      have HO := Lib.hid ho
      have HNN := Lib.hid hn
      have HMX := Lib.hid hmx
      have HOS := Lib.hid hos
      have HBK := Lib.hid hbk
      have hmk2 := make_flat Tryz.underlying30 byte_info (by decide) n (n : Int) rfl (by omega)
      clear ho hn hmx hos hbk
      go_wp2_with fail
      refine (blkid_any T N R ec i wr HT.out hR hR2 (by omega) he2 hlt).mono ?_
      rintro e w1 ⟨rfl, rfl⟩
      rw [HBK.out]
      go_wp2_with fail
      have ho8 : (8 : Int) * (o : Int) = ((8 * o : Nat) : Int) := by omega
      have HO8 := Lib.hid ho8
      clear ho8
      have hBa := hBr.kp ((Kp.refl [] wr).alloc (.cells (ints .u8 (List.replicate n 0)) 5)) (by simp) (by simp)
      rw [HO8.out]
      refine (toBytes_any B g c (8 * o) n wr.heap.size bs _ hBa (Blk.new wr _ _) (by rw [HL.out]; omega) (by omega)).mono ?_
      rintro e w2 ⟨rfl, hD, hk2⟩
      have hb2 : Below wr.heap.size wr w2 := below_of_kp ((Below.refl _ _).alloc (Nat.le_refl _) _) hk2 (by simp) (by simp)
      have hs2 := hb2.size
      have hdat : (tab n fun i => byteAt bs (8 * o + 8 * i)) = datOf R q m bs i := by unfold datOf; rw [HO.out, HNN.out]
      rw [hdat] at hD
      have hdl : (datOf R q m bs i).length = n := by rw [← hdat, tab_length]
      have HDL := Lib.hid hdl
      clear hdat hdl hk2 hmk2
      go_wp2_with fail
      refine (genEc_any wr.heap.size n ec n (datOf R q m bs i) w2 hD HDL.out (by intro x hx; unfold datOf tab at hx; rw [List.mem_map] at hx; obtain ⟨y, -, rfl⟩ := hx; exact byteAt_lt _ _) hn1 (by omega) he he2 (Nat.le_refl _)).mono ?_
      rintro e w3 ⟨E, ecs, rfl, hel, heo, hez, hE, hb3⟩
      have hs3 := hb3.size
      have hD3 := hD.below hb3 hD.lt
      have HEL := Lib.hid hel
      have HEZ := Lib.hid (And.intro heo hez)
      clear hel heo hez
      go_wp2_with fail
      refine (newbp_any wr.heap.size E n ec _ ecs (HDL.out).symm (HEL.out).symm w3 hD3 hE).mono ?_
      rintro e w4 ⟨P, rfl, hP, hb4⟩
      have hs4 := hb4.size
      have hb24 : Below wr.heap.size wr w4 := below_trans' (below_trans' hb2 hb3 hs2) hb4 (by omega)
      have hown := ownsRow_kp (S := []) hS.own (Kp.of_below hb24) (by simp)
      have HOWN := Lib.hid hown
      have HS := Lib.hid hS
      clear hown
      go_wp2_with (first
        | (at_builtin; refine wpList_append1 (.tmp 73) (.tmp 77) (t := 202) Tryz.underlying202 (e := 208) (z := .pointer none) (b := 8) (by kernel_rfl) rfl rfl rfl (by decide) (v := v) (n := i) (xs := ps.map fun p : Nat => Value.pointer (some ⟨p, 0, none⟩)) rfl (HOWN.out.alloc _) (ad := ⟨w4.heap.size, 0, none⟩) (c := 1) (u := .pointer (some ⟨P, 0, none⟩)) rfl ((Blk.new w4 _ _).cell 0) rfl (by omega) ?_; intro v5 w5 hown5 hk5 hv5))
      all_goals
        go_roundw
        case rel =>
          refine ⟨i + 1, _, v5, ps ++ [P], _, by omega, by go_num, ?_, ?_, rfl, .inr ⟨by omega, by omega, by omega⟩, rfl, HS.out.step hb24 hP hk5 hown5 hv5 ⟨HEL.out, HEZ.out.1, HEZ.out.2⟩⟩
          · exact congrArg (Value.int .i64) (by have := off_succ R q m i; have := HO.out; have := HNN.out; omega)
          · (rw [mxD_succ, ← HNN.out]) <;> exact congrArg (Value.int .i64) (by omega)
        case measure => simp [intOf]; omega
    · have hie : i = R := by omega
      have hda : decide ((i : Int) < (R : Int)) = false := by simp; omega
      have hne : ((N : Int) != ((off R q m i : Nat) : Int)) = false := by rw [hie, off_all R q m (by omega), ← HN.out]; simp
      have HIE := Lib.hid hie
      clear hie
      obtain ⟨wh, rfl⟩ : ∃ wh : World, wh = wr := ⟨_, rfl⟩
      go_wp2_with fail
      refine (newbits_any wh).mono ?_
      rintro e w1 ⟨B2, g2, rfl, hB2, hB2s, hg2s, hb1⟩
      go_wp2_with fail
      have hS' := hS
      rw [HIE.out] at hS'
      obtain ⟨gv, capv, hvf, hvl, -, -, hvc, -, -⟩ := ownsRow_form hS'.own (by omega)
      have hxs : ∀ j, j < R → (ps.map fun p : Nat => Value.pointer (some ⟨p, 0, none⟩))[j]? = some (Value.pointer (some ⟨nth ps j, 0, none⟩)) := fun j hj => by
        have : j < ps.length := by rw [hS'.len]; exact hj
        rw [List.getElem?_map, List.getElem?_eq_getElem this, nth_get this]; rfl
      have hcell : ∀ wr, Below wh.heap.size wh wr → ∀ j, j < R → wr.cell? ⟨gv, j, none⟩ = some (.pointer (some ⟨nth ps j, 0, none⟩)) := fun wr hb j hj => by
        rw [hb.cell (p := ⟨gv, j, none⟩) hvl, hvc j hj, hxs j hj]
      have hbp : ∀ wr, Below wh.heap.size wh wr → ∀ j, j < R → BP wr (nth ps j) (datOf R q m bs j) (es j) := fun wr hb j hj => (hS'.bp j hj).below hb
      have HCELL := Lib.hid hcell
      have HBP := Lib.hid hbp
      have HS2 := Lib.hid hS'
      have hvf' := hvf
      have HVF := Lib.hid hvf'
      clear hvf' hxs hvc hcell hbp hS' hS
      have hmx2 : mxD R q m R ≤ q + 1 ∧ q ≤ mxD R q m R := by
        unfold mxD; rw [if_neg (by omega)]
        rcases dl_cases R q m (R - 1) with ⟨_, e⟩ | ⟨_, e⟩ <;> omega
      obtain ⟨mR, hmR⟩ : ∃ mR, mR = mxD R q m R := ⟨_, rfl⟩
      rw [← hmR] at hmx2
      have HMR := Lib.hid hmR
      have hmi : mxD R q m i = mR := by rw [HIE.out, ← hmR]
      have hee : e0 = ec := by omega
      rw [hmi, hee, hvf]
      have hTb : T ≤ 13000 := by have := HT.out; have : ec * R ≤ 100 * 100 := Nat.mul_le_mul he2 hR2; omega
      clear hmR hmi hvf
      go_loopw [22] (fun t22 wr => ∃ (a g3 : Nat) (cw : List Nat), a ≤ mR ∧ t22 = .int .i64 a ∧ IlC R q m ec (fun j => datOf R q m bs j ++ es j) cw (at2 R q m a 0) ∧ (∃ cc, Bits wr B2 g3 cc (cw.flatMap (bitsOf 8))) ∧ wh.heap.size ≤ g3 ∧ Below wh.heap.size wh wr) (fun t22 _ => mR - (intOf t22).toNat)
      case atStart => exact ⟨0, g2, [], by omega, rfl, ⟨by rw [at2_zero hq]; rfl, fun j p _ _ h => by rw [at2_zero hq] at h; omega⟩, ⟨_, hB2⟩, hg2s, hb1⟩
      case round =>
        obtain ⟨a, g3, cw, ha, rfl, hC, hBx, hg3, hbx⟩ := hrel
        by_cases hlt : a < mR
        · have hdb : decide ((a : Int) < (mR : Int)) = true := by simp; omega
          go_wp2_with fail
          obtain ⟨wo, rfl⟩ : ∃ wo : World, wo = wr := ⟨_, rfl⟩
          go_loopw [106] (fun t106 wr => ∃ (j g3 : Nat) (cw : List Nat), j ≤ R ∧ t106 = .int .i64 j ∧ IlC R q m ec (fun j => datOf R q m bs j ++ es j) cw (at2 R q m a j) ∧ (∃ cc, Bits wr B2 g3 cc (cw.flatMap (bitsOf 8))) ∧ wh.heap.size ≤ g3 ∧ Below wh.heap.size wh wr) (fun t106 _ => R - (intOf t106).toNat)
          case atStart => exact ⟨0, g3, cw, by omega, rfl, hC, hBx, hg3, hbx⟩
          case round =>
            obtain ⟨j, g3, cw, hj, rfl, hC, ⟨cc, hBx⟩, hg3, hbx⟩ := hrel
            by_cases hlt2 : j < R
            · have hdc : decide ((j : Int) < (R : Int)) = true := by simp; omega
              have hcj := HCELL.out wr hbx j hlt2
              have hbpj := HBP.out wr hbx j hlt2
              have hsx := hbx.size
              obtain ⟨L, hL⟩ : ∃ L, L = (datOf R q m bs j).length := ⟨_, rfl⟩
              have hLd : L = dl R q m j := by rw [hL]; unfold datOf; rw [tab_length]
              have HL2 := Lib.hid hL
              have HLD := Lib.hid hLd
              have hLb : L ≤ q + 1 := by rcases dl_cases R q m j with ⟨_, e⟩ | ⟨_, e⟩ <;> omega
              clear hL hLd
              go_wp2_with fail
              refine (bpdata_any hbpj).mono ?_
              rintro e w2 ⟨D, rfl, hD, rfl⟩
              rw [← HL2.out]
              by_cases hla : a < L
              · have hdd : decide ((a : Int) < (L : Int)) = true := by simp; omega
                have hdlen := HL2.out
                have c0 := hD.cell a
                rw [ints_get (by rw [← hdlen]; exact hla)] at c0
                obtain ⟨x, hx⟩ : ∃ x, x = nth (datOf R q m bs j) a := ⟨_, rfl⟩
                have hxl : x < 256 := by rw [hx, nth_get (by rw [← hdlen]; exact hla)]; unfold datOf tab; simp only [List.getElem_map]; exact byteAt_lt _ _
                rw [← hx] at c0
                have HX := Lib.hid hx
                have hrk := at2_rank (R := R) (q := q) (m := m) (i := a) (j := j) (by rw [← HLD.out]; exact hla)
                have hpt := at2_put (R := R) (q := q) (m := m) (i := a) (j := j) (by rw [← HLD.out]; exact hla)
                have hrl := rank_lt (ec := ec) (q := q) (p := a) hm hlt2 (by rw [← HLD.out]; omega)
                have hC2 := hC.step hm hlt2 hrk
                rw [← hpt] at hC2
                have hxa : nth (datOf R q m bs j ++ es j) a = x := by rw [nth_append_left (by rw [← hdlen]; exact hla), hx]
                rw [hxa] at hC2
                have hcwl : (cw.flatMap (bitsOf 8)).length ≤ 104000 := by rw [flat8_length, hC.len, ← hrk]; have := HT.out; have := HN.out; omega
                have HC2 := Lib.hid hC2
                have HCW := Lib.hid hcwl
                clear hrk hpt hC2 hxa hcwl hx hdlen hrl
                go_wp2_with fail
                refine (appendBits_any B2 g3 cc 8 x _ wr hBx (by omega) (by omega) (by have := HCW.out; omega)).mono ?_
                rintro e w4 ⟨g4, rfl, hg4, hB4, hk4⟩
                go_wp2_with fail
                go_roundw
                case rel =>
                  refine ⟨j + 1, g4, cw ++ [x], by omega, by go_num, HC2.out, ⟨0, by rw [List.flatMap_append]; simpa using hB4⟩, by omega, below_of_kp hbx hk4 hsx (by intro k hk; simp only [List.mem_cons, List.not_mem_nil, or_false] at hk; omega)⟩
                case measure => simp [intOf]; omega
              · have hdd : decide ((a : Int) < (L : Int)) = false := by simp; omega
                have hsk := at2_skip (R := R) (q := q) (m := m) (i := a) (j := j) (by rw [← HLD.out]; omega) (by omega)
                have hC2 := hC
                rw [← hsk] at hC2
                have HC2 := Lib.hid hC2
                clear hsk hC2
                go_wp2_with fail
                go_roundw
                case rel => exact ⟨j + 1, g3, cw, by omega, by go_num, HC2.out, ⟨cc, hBx⟩, hg3, hbx⟩
                case measure => simp [intOf]; omega
            · have hje : j = R := by omega
              have hdc : decide ((j : Int) < (R : Int)) = false := by simp; omega
              have hC2 := hC
              rw [hje, at2_row hm (by omega)] at hC2
              have HC2 := Lib.hid hC2
              clear hje hC2
              go_wp2_with fail
              go_roundw
              case rel => exact ⟨a + 1, g3, cw, by omega, by go_num, HC2.out, ⟨cc, hBx⟩, hg3, hbx⟩
              case measure => simp [intOf]; omega
        · have hdb : decide ((a : Int) < (mR : Int)) = false := by simp; omega
          have hae : a = mR := by omega
          have hC2 := hC
          rw [hae, HMR.out] at hC2
          have hat : at2 R q m (mxD R q m R) 0 = q * R + m := by
            unfold mxD; rw [if_neg (by omega)]
            unfold at2
            rcases dl_cases R q m (R - 1) with ⟨e1, e⟩ | ⟨e1, e⟩
            · rw [e, if_neg (by omega), if_neg (by omega)]
            · rw [e, if_neg (by omega), if_pos rfl]; omega
          rw [hat, ← HN.out] at hC2
          clear hat hae hC
          go_wp2_with fail
          go_loopw [26] (fun t26 wx => ∃ (a g3 : Nat) (cw : List Nat), a ≤ ec ∧ t26 = .int .i64 a ∧ IlC R q m ec (fun j => datOf R q m bs j ++ es j) cw (N + (a * R + 0)) ∧ (∃ cc, Bits wx B2 g3 cc (cw.flatMap (bitsOf 8))) ∧ wh.heap.size ≤ g3 ∧ Below wh.heap.size wh wx) (fun t26 _ => ec - (intOf t26).toNat)
          case atStart => exact ⟨0, g3, cw, by omega, rfl, by rw [Nat.zero_mul]; exact hC2, hBx, hg3, hbx⟩
          case round =>
            clear hC2 hBx hg3 hbx hlt hdb
            obtain ⟨a, g3, cw, ha, rfl, hC, hBx, hg3, hbx⟩ := hrel
            by_cases hlt : a < ec
            · have hdb : decide ((a : Int) < (ec : Int)) = true := by simp; omega
              go_wp2_with fail
              obtain ⟨wo, rfl⟩ : ∃ wo : World, wo = wr := ⟨_, rfl⟩
              go_loopw [131] (fun t131 wx => ∃ (j g3 : Nat) (cw : List Nat), j ≤ R ∧ t131 = .int .i64 j ∧ IlC R q m ec (fun j => datOf R q m bs j ++ es j) cw (N + (a * R + j)) ∧ (∃ cc, Bits wx B2 g3 cc (cw.flatMap (bitsOf 8))) ∧ wh.heap.size ≤ g3 ∧ Below wh.heap.size wh wx) (fun t131 _ => R - (intOf t131).toNat)
              case atStart => exact ⟨0, g3, cw, by omega, rfl, hC, hBx, hg3, hbx⟩
              case round =>
                obtain ⟨j, g3, cw, hj, rfl, hC, ⟨cc, hBx⟩, hg3, hbx⟩ := hrel
                by_cases hlt2 : j < R
                · have hdc : decide ((j : Int) < (R : Int)) = true := by simp; omega
                  have hcj := HCELL.out wr hbx j hlt2
                  have hbpj := HBP.out wr hbx j hlt2
                  have hsx := hbx.size
                  have hecj := HS2.out.ec j hlt2
                  have HEL2 := Lib.hid hecj.1
                  have hokj := hecj.2.1
                  clear hecj
                  go_wp2_with fail
                  refine (bpec_any hbpj).mono ?_
                  rintro e w2 ⟨D, rfl, hD, rfl⟩
                  rw [HEL2.out]
                  have c0 := hD.cell a
                  rw [ints_get (by rw [HEL2.out]; exact hlt)] at c0
                  obtain ⟨x, hx⟩ : ∃ x, x = nth (es j) a := ⟨_, rfl⟩
                  have hxl : x < 256 := by rw [hx, nth_get (by rw [HEL2.out]; exact hlt)]; exact hokj _ (List.getElem_mem _)
                  rw [← hx] at c0
                  have HX := Lib.hid hx
                  have hrk := rank3 (R := R) (q := q) (m := m) (j := j) a
                  rw [← HN.out] at hrk
                  have hrl := rank_lt (ec := ec) (q := q) (p := dl R q m j + a) hm hlt2 (by omega)
                  have hC2 := hC.step hm hlt2 hrk
                  have hdl : (datOf R q m bs j).length = dl R q m j := by unfold datOf; rw [tab_length]
                  have hxa : nth (datOf R q m bs j ++ es j) (dl R q m j + a) = x := by rw [← hdl, nth_append_right, hx]
                  rw [hxa] at hC2
                  have hcwl : (cw.flatMap (bitsOf 8)).length ≤ 104000 := by rw [flat8_length, hC.len, ← hrk]; have := HT.out; have := HN.out; omega
                  have HC2 := Lib.hid hC2
                  have HCW := Lib.hid hcwl
                  clear hrk hC2 hxa hcwl hx hrl hdl
                  go_wp2_with fail
                  refine (appendBits_any B2 g3 cc 8 x _ wr hBx (by omega) (by omega) (by have := HCW.out; omega)).mono ?_
                  rintro e w4 ⟨g4, rfl, hg4, hB4, hk4⟩
                  go_wp2_with fail
                  go_roundw
                  case rel =>
                    refine ⟨j + 1, g4, cw ++ [x], by omega, by go_num, HC2.out, ⟨0, by rw [List.flatMap_append]; simpa using hB4⟩, by omega, below_of_kp hbx hk4 hsx (by intro k hk; simp only [List.mem_cons, List.not_mem_nil, or_false] at hk; omega)⟩
                  case measure => simp [intOf]; omega
                · have hje : j = R := by omega
                  have hdc : decide ((j : Int) < (R : Int)) = false := by simp; omega
                  have hC2 := hC
                  have hsm : a * R + R = (a + 1) * R + 0 := (Nat.succ_mul a R).symm
                  rw [hje, hsm] at hC2
                  have HC2 := Lib.hid hC2
                  clear hje hC2 hsm
                  go_wp2_with fail
                  go_roundw
                  case rel => exact ⟨a + 1, g3, cw, by omega, by go_num, HC2.out, ⟨cc, hBx⟩, hg3, hbx⟩
                  case measure => simp [intOf]; omega
            · have hae : a = ec := by omega
              have hdb : decide ((a : Int) < (ec : Int)) = false := by simp; omega
              obtain ⟨cc, hB4⟩ := hBx
              have hC2 := hC
              rw [hae, Nat.add_zero, ← HT.out] at hC2
              have hfl : (cw.flatMap (bitsOf 8)).length = 8 * T := by rw [flat8_length, hC2.len]
              have hsb : ((8 * T + 7) / 8 : Nat) = T := by omega
              have HFL := Lib.hid hfl
              have HSB := Lib.hid hsb
              have HC2 := Lib.hid hC2
              clear hae hC2 hC hfl hsb
              go_wp2_with fail
              refine (sizeb_any B2 g3 cc _ wr hB4 (by rw [HFL.out]; omega)).mono ?_
              rintro e w5 ⟨rfl, rfl⟩
              rw [HFL.out, HSB.out]
              go_wp2_with fail
              go_ret2
              have hbw := below_trans' HS2.out.below hbx HS2.out.below.size
              refine ⟨B2, g3, cw, es, rfl, ?_, HC2.out.len, HS2.out.ec, fun j p hj hp => HC2.out.at_ j p hj hp ?_, hbw, by have := HS2.out.below.size; omega⟩
              · obtain ⟨ws, y1, y2, y3, y4, y5⟩ := hB4.ex
                exact ⟨ws, y1, y2, y3, by omega, y5⟩
              · have := rank_lt (ec := ec) (q := q) hm hj hp
                have h1 := HT.out
                have h2 := HN.out
                omega
end Go.Proofs.YtcekbhhpcmhicaaGreatDoor
