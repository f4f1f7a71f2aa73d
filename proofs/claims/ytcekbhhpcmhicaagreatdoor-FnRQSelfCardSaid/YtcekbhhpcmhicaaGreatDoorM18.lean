/- A new square; the square is cleared; the matrix is built: NewByteMatrix, Clear, MatrixUtil_buildMatrix; A new square: NewByteMatrix; Penalties: some numbers within bounds. -/
import Derived.Test.YtcekbhhpcmhicaaGreatDoorM17
namespace Go.Proofs.YtcekbhhpcmhicaaGreatDoor
open Go.RowKit Go.QW Go.QM Go.QV Go.QZ
section
variable {w : World} {A R d : Nat} {f : Cells}
set_option maxHeartbeats 4000000 in
set_option maxRecDepth 100000 in
theorem clear_any (v : Int) (hv : -1 ≤ v ∧ v ≤ 1) (h : Mat w A R d f) :
    Calls Tryz.prog 159 #[.pointer (some ⟨A, 0, none⟩), .int .i8 v] w fun e w' => e = .returned (.tuple #[]) ∧ Mat w' A R d (fun _ _ => v) ∧ Kp (rowsOf R d) w w' := by
  have hd := h.le
  have a0 := h.hA.cell 0
  simp only [List.getElem?_toArray, List.getElem?_cons_zero] at a0
  go_enter Tryz.func159, Tryz.ntmps159
  go_wp2_with fail
  clear a0
  go_loopw [11] (fun t11 wr => ∃ k : Nat, k ≤ d ∧ t11 = .int .i64 k ∧ Mat wr A R d (sqk d (fun _ _ => v) 0 0 k 0 f) ∧ Kp (rowsOf R d) w wr) (fun t11 _ => d - (intOf t11).toNat)
  case atStart => exact ⟨0, by omega, rfl, h.congr (fun y x _ _ => sqk_zero _ _ _ _ _ _ _), Kp.refl _ _⟩
  case round =>
    obtain ⟨k, hk, rfl, hM, hkp⟩ := hrel
    by_cases hlt : k < d
    · have hda : decide ((k : Int) < (d : Int)) = true := by simp; omega
      have a0 := hM.hA.cell 0
      simp only [List.getElem?_toArray, List.getElem?_cons_zero] at a0
      have r0 := hM.hR.cell k
      rw [rowPtrs_get hlt] at r0
      go_wp2_with fail
      obtain ⟨wo, rfl⟩ : ∃ wo : World, wo = wr := ⟨_, rfl⟩
      clear a0 r0
      go_loopw [22] (fun t22 wr => ∃ j : Nat, j ≤ d ∧ t22 = .int .i64 j ∧ Mat wr A R d (sqk d (fun _ _ => v) 0 0 k j f) ∧ Kp (rowsOf R d) w wr) (fun t22 _ => d - (intOf t22).toNat)
      case atStart => exact ⟨0, by omega, rfl, hM, hkp⟩
      case round =>
        obtain ⟨j, hj, rfl, hM, hkp⟩ := hrel
        by_cases hlt2 : j < d
        · have hdb : decide ((j : Int) < (d : Int)) = true := by simp; omega
          have a0 := hM.hA.cell 0
          simp only [List.getElem?_toArray, List.getElem?_cons_zero] at a0
          have r0 := hM.hR.cell k
          rw [rowPtrs_get hlt] at r0
          have hrow := hM.rows k hlt
          have c0 := hrow.cell j
          rw [i8s_get hlt2] at c0
          have f0 := hrow.frozen j
          go_wp2_with fail
          go_roundw
          case rel => exact ⟨j + 1, by omega, by go_num, (hM.put j k hlt v hv).congr (fun y x _ _ => by have := sqk_put d (fun _ _ => v) 0 0 k j f hlt2 y x; rw [Nat.zero_add, Nat.zero_add] at this; exact this), hkp.setCell (fun _ => mem_rowsOf.2 (by simp only; omega)) _⟩
          case measure => simp [intOf]; omega
        · have hje : j = d := by omega
          have hM' := hM
          rw [hje] at hM'
          have hdb : decide ((j : Int) < (d : Int)) = false := by simp; omega
          clear hje
          go_wp2_with fail
          go_roundw
          case rel => exact ⟨k + 1, by omega, by go_num, hM'.congr (fun y x _ _ => sqk_row _ _ _ _ _ _ y x), hkp⟩
          case measure => simp [intOf]; omega
    · have hke : k = d := by omega
      have hM' := hM
      rw [hke] at hM'
      have hda : decide ((k : Int) < (d : Int)) = false := by simp; omega
      clear hke
      go_wp2_with fail
      go_end0
      refine ⟨rfl, hM'.congr (fun y x hy hx => ?_), hkp⟩
      rw [sqk_all]
      unfold sq
      rw [if_pos (by omega)]
set_option maxHeartbeats 4000000 in
set_option maxRecDepth 100000 in
theorem clearM_any (h : Mat w A R d f) :
    Calls Tryz.prog 123 #[.pointer (some ⟨A, 0, none⟩)] w fun e w' => e = .returned (.tuple #[]) ∧ Mat w' A R d (fun _ _ => -1) ∧ Kp (rowsOf R d) w w' := by
  go_enter Tryz.func123, Tryz.ntmps123
  go_wp2_with fail
  refine (clear_any (-1) (by decide) h).mono ?_
  rintro e w1 ⟨rfl, hM, hk⟩
  go_wp2_with fail
  go_end0
  exact ⟨rfl, hM, hk⟩
/-- the cells of a symbol: version v, format T (level and mask), bits S under mask k -/
structure Sym (v T k : Nat) (S : List Bool) (f : Cells) : Prop where
  dat : ∀ y x, y < 17 + 4 * v → x < 17 + 4 * v → fp v y x = false → f y x = b01 ((S.getD (cnt v (idx (17 + 4 * v) y x)) false) ^^ mbit k y x)
  fmt : ∀ y x, y < 17 + 4 * v → x < 17 + 4 * v → tpos (17 + 4 * v) y x < 15 → f y x = b01 (T.testBit (tpos (17 + 4 * v) y x))
  ver : 7 ≤ v → ∀ y x, y < 17 + 4 * v → x < 17 + 4 * v → vpos (17 + 4 * v) y x < 18 → f y x = b01 ((verT v).testBit (vpos (17 + 4 * v) y x))
  cor : ∀ y x, C8 (17 + 4 * v) y x → tpos (17 + 4 * v) y x = 15 → f y x = c8 (17 + 4 * v) (fun _ _ => -1) y x
theorem vt_apart {d y x : Nat} (hd : 45 ≤ d) (h : vpos d y x < 18) : tpos d y x = 15 ∧ ¬ C8 d y x := by
  unfold vpos at h
  unfold tpos C8
  split at h
  · refine ⟨?_, by omega⟩
    rw [if_neg (by omega), if_neg (by omega), if_neg (by omega), if_neg (by omega), if_neg (by omega), if_neg (by omega), if_neg (by omega)]
  · split at h
    · refine ⟨?_, by omega⟩
      rw [if_neg (by omega), if_neg (by omega), if_neg (by omega), if_neg (by omega), if_neg (by omega), if_neg (by omega), if_neg (by omega)]
    · omega
set_option maxHeartbeats 8000000 in
set_option maxRecDepth 100000 in
theorem build_any {V v B g cc l k : Nat} {S : List Bool} (h : Mat w A R (17 + 4 * v) f) (hS : Bits w B g cc S) (hV : Ver w V v) (h1 : 1 ≤ v) (h2 : v ≤ 27) (hl : l < 4) (hk : k < 8) (hroom : S.length ≤ cnt v (2 * ((8 + 2 * v) * (17 + 4 * v)))) (hSl : S.length ≤ 40000) :
    Calls Tryz.prog 72 #[.pointer (some ⟨B, 0, none⟩), .int .i64 l, .pointer (some ⟨V, 0, none⟩), .int .i64 k, .pointer (some ⟨A, 0, none⟩)] w fun e w' => ∃ f', e = .returned .nilIface ∧ Mat w' A R (17 + 4 * v) f' ∧ Sym v (fmtT (l * 8 + k)) k S f' ∧ (∀ y x, y < 17 + 4 * v → x < 17 + 4 * v → 0 ≤ f' y x) ∧ Kp (rowsOf R (17 + 4 * v)) w w' := by
  obtain ⟨hBo, hgo⟩ := hS.norow h
  have hVo : Off w (rowsOf R (17 + 4 * v)) [3, 141, 201, 211] := h.off (by decide)
  have HR := Lib.hid hroom
  clear hroom
  go_enter Tryz.func72, Tryz.ntmps72
  go_wp2_with fail
  refine (clearM_any h).mono ?_
  rintro e w1 ⟨rfl, hM1, k1⟩
  go_wp2_with fail
  refine (basic_any hM1 (hV.kp k1 hVo) (fun _ _ => rfl) h1 h2 (fun w' kk => hV.kp (k1.more kk) hVo)).mono ?_
  rintro e w2 ⟨f2, rfl, hM2, he2, hc2, k2⟩
  have HE2 := Lib.hid he2
  have HC2 := Lib.hid hc2
  clear he2 hc2
  go_wp2_with fail
  refine (typeInfo_any l k hl hk hM2 (by omega)).mono ?_
  rintro e w3 ⟨rfl, hM3, k3⟩
  go_wp2_with fail
  have k123 := (k1.more k2).more k3
  refine (verInfo_any (hV.kp k123 hVo) hM3 (by omega) (by omega)).mono ?_
  rintro e w4 ⟨rfl, hM4, k4⟩
  have k1234 := k123.more k4
  go_wp2_with fail
  obtain ⟨T, hT⟩ : ∃ T, T = fmtT (l * 8 + k) := ⟨_, rfl⟩
  rw [← hT] at hM4
  obtain ⟨f4, hf4⟩ : ∃ f4, f4 = (if 7 ≤ v then vinfo (17 + 4 * v) (verT v) 18 (tinfo (17 + 4 * v) T 15 f2) else tinfo (17 + 4 * v) T 15 f2) := ⟨_, rfl⟩
  rw [← hf4] at hM4
  have hb : ∀ b : Bool, (if b then (1 : Int) else 0) = b01 b := fun b => rfl
  have hfv : 7 ≤ v → ∀ y x, vpos (17 + 4 * v) y x < 18 → f4 y x = b01 ((verT v).testBit (vpos (17 + 4 * v) y x)) := by
    intro h7 y x hv
    rw [hf4, if_pos h7]; unfold vinfo; rw [if_pos hv]; rfl
  have hft : ∀ y x, ¬ (7 ≤ v ∧ vpos (17 + 4 * v) y x < 18) → tpos (17 + 4 * v) y x < 15 → f4 y x = b01 (T.testBit (tpos (17 + 4 * v) y x)) := by
    intro y x hn ht
    rw [hf4]
    by_cases h7 : 7 ≤ v
    · rw [if_pos h7]; unfold vinfo; rw [if_neg (fun q => hn ⟨h7, q⟩)]; unfold tinfo; rw [if_pos ht]; rfl
    · rw [if_neg h7]; unfold tinfo; rw [if_pos ht]; rfl
  have hfo : ∀ y x, ¬ (7 ≤ v ∧ vpos (17 + 4 * v) y x < 18) → ¬ tpos (17 + 4 * v) y x < 15 → f4 y x = f2 y x := by
    intro y x hn ht
    rw [hf4]
    by_cases h7 : 7 ≤ v
    · rw [if_pos h7]; unfold vinfo; rw [if_neg (fun q => hn ⟨h7, q⟩)]; unfold tinfo; rw [if_neg ht]
    · rw [if_neg h7]; unfold tinfo; rw [if_neg ht]
  have hfe : ∀ y x, y < 17 + 4 * v → x < 17 + 4 * v → (f4 y x = -1 ↔ fp v y x = false) := by
    intro y x hy hx
    have hfp := fp_iff v y x h1 hy hx
    rw [← Bool.not_eq_true, hfp]
    by_cases hn : 7 ≤ v ∧ vpos (17 + 4 * v) y x < 18
    · rw [hfv hn.1 y x hn.2]
      have := b01_bd ((verT v).testBit (vpos (17 + 4 * v) y x))
      exact ⟨fun e => by omega, fun e => absurd (.inr (.inr (.inr (.inr (.inr hn))))) e⟩
    · by_cases ht : tpos (17 + 4 * v) y x < 15
      · rw [hft y x hn ht]
        have := b01_bd (T.testBit (tpos (17 + 4 * v) y x))
        exact ⟨fun e => by omega, fun e => absurd (.inr (.inr (.inr (.inr (.inl ht))))) e⟩
      · rw [hfo y x hn ht, HE2.out y x hy hx]
        constructor
        · rintro ⟨q1, q2, q3, q4⟩ (q | q | q | q | q | q)
          · exact q1 q
          · exact q2 q
          · exact q3 q
          · exact q4 q
          · exact ht q
          · exact hn q
        · intro q
          exact ⟨fun e => q (.inl e), fun e => q (.inr (.inl e)), fun e => q (.inr (.inr (.inl e))), fun e => q (.inr (.inr (.inr (.inl e))))⟩
  have HFE := Lib.hid hfe
  have HFV := Lib.hid hfv
  have HFT := Lib.hid hft
  have HFO := Lib.hid hfo
  have HT := Lib.hid hT
  clear hfe hfv hft hfo hf4 hb hT
  refine (embData_any rfl hM4 (hS.kp k1234 hBo hgo) h1 (by omega) hk HFE.out HR.out hSl).mono ?_
  rintro e w5 ⟨rfl, hM5, k5⟩
  go_wp2_with fail
  go_ret
  rw [← HT.out]
  refine ⟨_, rfl, hM5, ⟨fun y x hy hx hf => ?_, fun y x hy hx ht => ?_, fun h7 y x hy hx hv => ?_, fun y x hC ht => ?_⟩, fun y x hy hx => ?_, k1234.more k5⟩
  · unfold datC
    rw [if_neg (by rw [hf]; decide), if_pos]
    exact Nat.lt_of_lt_of_le (idx_lt (by omega) (by omega) hy hx (by rintro rfl; rw [fp_six] at hf; cases hf)) (by rw [show (17 + 4 * v - 1) / 2 = 8 + 2 * v by omega]; exact Nat.le_refl _)
  · unfold datC
    rw [if_pos ((fp_iff v y x h1 hy hx).2 (.inr (.inr (.inr (.inr (.inl ht))))))]
    refine HFT.out y x ?_ ht
    rintro ⟨h7, hv⟩
    have := (vt_apart (by omega) hv).1
    omega
  · unfold datC
    rw [if_pos ((fp_iff v y x h1 hy hx).2 (.inr (.inr (.inr (.inr (.inr ⟨h7, hv⟩))))))]
    exact HFV.out h7 y x hv
  · have hy : y < 17 + 4 * v ∧ x < 17 + 4 * v := by unfold C8 at hC; omega
    unfold datC
    rw [if_pos ((fp_iff v y x h1 hy.1 hy.2).2 (.inl hC))]
    rw [HFO.out y x ?_ (by omega)]
    · exact HC2.out y x hC
    · rintro ⟨h7, hv⟩
      exact (vt_apart (by omega) hv).2 hC
  · unfold datC
    by_cases hf : fp v y x = true
    · rw [if_pos hf]
      have hne : f4 y x ≠ -1 := fun e => by rw [(HFE.out y x hy hx).1 e] at hf; cases hf
      have := (hM4.bd y x hy hx).1
      omega
    · rw [if_neg hf, if_pos]
      · exact (b01_bd _).1
      · exact Nat.lt_of_lt_of_le (idx_lt (by omega) (by omega) hy hx (by rintro rfl; exact hf (fp_six v y))) (by rw [show (17 + 4 * v - 1) / 2 = 8 + 2 * v by omega]; exact Nat.le_refl _)
end
end Go.Proofs.YtcekbhhpcmhicaaGreatDoor
namespace Go.Proofs.YtcekbhhpcmhicaaGreatDoor
open Go.RowKit Go.QW Go.QM Go.QV Go.QZ
theorem info_rows : (Tryz.prog.info? 145).map (fun i => (i.zero, i.size, i.bytes)) = some (some (.slice none 0 0), 1, 24) := by kernel_rfl
theorem info_i8 : (Tryz.prog.info? 64).map (fun i => (i.zero, i.size, i.bytes)) = some (some (.int .i8 0), 1, 1) := by kernel_rfl
/-- rows made so far, nil behind -/
def partRows (R d i : Nat) : Array Value := ((List.range d).map fun y => if y < i then Value.slice (some ⟨R + 1 + y, 0, none⟩) d d else .slice none 0 0).toArray
theorem partRows_get {R d i y : Nat} (h : y < d) : (partRows R d i)[y]? = some (if y < i then Value.slice (some ⟨R + 1 + y, 0, none⟩) d d else .slice none 0 0) := by
  unfold partRows
  rw [List.getElem?_toArray, List.getElem?_map, List.getElem?_range h]; rfl
theorem partRows_set (R d i : Nat) (_h : i < d) : (partRows R d i).setIfInBounds i (.slice (some ⟨R + 1 + i, 0, none⟩) d d) = partRows R d (i + 1) := by
  apply Array.ext
  · simp [partRows]
  · intro y h1 h2
    have hy : y < d := by simpa [partRows] using h2
    have e2 := partRows_get (R := R) (i := i + 1) hy
    have e1 := partRows_get (R := R) (i := i) hy
    rw [Array.getElem?_eq_getElem (by simpa [partRows] using hy)] at e1 e2
    injection e1 with e1
    injection e2 with e2
    rw [Array.getElem_setIfInBounds (by simpa [partRows] using hy), e2]
    by_cases e : i = y
    · subst e; rw [if_pos rfl, if_pos (by omega)]
    · rw [if_neg e, e1]
      by_cases l : y < i
      · rw [if_pos l, if_pos (by omega)]
      · rw [if_neg l, if_neg (by omega)]
theorem partRows_zero (R d : Nat) : madeCells (Value.slice none 0 0).cells d = partRows R d 0 := by
  unfold madeCells partRows
  apply Array.ext
  · simp
  · intro i h1 h2
    simp [Value.cells, Nat.mod_one]
theorem partRows_all (R d : Nat) : partRows R d d = rowPtrs R d := by
  apply Array.ext
  · simp [partRows, rowPtrs]
  · intro y h1 h2
    have hy : y < d := by simpa [rowPtrs] using h2
    have e1 := partRows_get (R := R) (i := d) hy
    have e2 := rowPtrs_get (R := R) hy
    rw [Array.getElem?_eq_getElem h1] at e1
    rw [Array.getElem?_eq_getElem h2] at e2
    injection e1 with e1
    injection e2 with e2
    rw [e1, e2, if_pos hy]
set_option maxHeartbeats 4000000 in
set_option maxRecDepth 100000 in
theorem newMat_any (d : Nat) (hd1 : 1 ≤ d) (hd : d ≤ 200) (w : World) :
    Calls Tryz.prog 68 #[.int .i64 d, .int .i64 d] w fun e w' => ∃ A R f, e = .returned (.pointer (some ⟨A, 0, none⟩)) ∧ Mat w' A R d f ∧ w.heap.size ≤ R ∧ w.heap.size ≤ A ∧ Below w.heap.size w w' := by
  obtain ⟨i1, hi1, hz1, hs1, hb1⟩ := info_parts info_rows
  obtain ⟨i2, hi2, hz2, hs2, hb2⟩ := info_parts info_i8
  have hm1 : ∀ w : World, (Instr.makeSlice 142 (.int .i64 (d : Int)) (.int .i64 (d : Int))).run Tryz.prog w = .ok (.slice (some ⟨w.heap.size, 0, none⟩) d d) (w.alloc (.cells (partRows w.heap.size d 0) 145)) := fun w => by
    have := run_make (P := Tryz.prog) w 142 145 i1 _ Tryz.underlying142 hi1 hz1 .i64 .i64 d d (by omega) (by omega) (by rw [hb1]; omega) (by omega)
    rw [this, hs1, Int.toNat_natCast, Nat.mul_one, partRows_zero]
  have hm2 : ∀ w : World, (Instr.makeSlice 145 (.int .i64 (d : Int)) (.int .i64 (d : Int))).run Tryz.prog w = .ok (.slice (some ⟨w.heap.size, 0, none⟩) d d) (w.alloc (.cells (i8s d (fun _ => 0)) 64)) := fun w => by
    have := run_make (P := Tryz.prog) w 145 64 i2 _ Tryz.underlying145 hi2 hz2 .i64 .i64 d d (by omega) (by omega) (by rw [hb2]; omega) (by omega)
    rw [this, hs2, Int.toNat_natCast, Nat.mul_one, i8s_zero]
  go_enter Tryz.func68, Tryz.ntmps68
  go_wp2_with fail
  go_loopw [6] (fun t6 wr => ∃ i : Nat, i ≤ d ∧ t6 = .int .i64 i ∧ Blk wr w.heap.size 145 (partRows w.heap.size d i) ∧ (∀ y, y < i → Blk wr (w.heap.size + 1 + y) 64 (i8s d (fun _ => 0))) ∧ w.heap.size + 1 + i ≤ wr.heap.size ∧ wr.heap.size ≤ w.heap.size + 1 + i ∧ Below w.heap.size w wr) (fun t6 _ => d - (intOf t6).toNat)
  case atStart => exact ⟨0, by omega, rfl, Blk.new _ _ _, fun y hy => absurd hy (by omega), by simp, by simp, (Below.refl _ _).alloc (Nat.le_refl _) _⟩
  case round =>
    obtain ⟨i, hi, rfl, hB, hrows, hz1', hz2', hw⟩ := hrel
    have HROWS := Lib.hid hrows
    clear hrows
    by_cases hlt : i < d
    · have hda : decide ((i : Int) < (d : Int)) = true := by simp; omega
      have hBl := hB.lt
      have hB2 := hB.alloc (.cells (i8s d (fun _ => 0)) 64)
      have c0 := hB2.cell i
      rw [partRows_get hlt] at c0
      have f0 := hB2.frozen i
      go_wp2_with fail
      go_roundw
      case rel =>
        have hse : wr.heap.size = w.heap.size + 1 + i := by omega
        have hsz : (wr.setCell ⟨w.heap.size, i, none⟩ (.slice (some ⟨wr.heap.size, 0, none⟩) d d)).heap.size = wr.heap.size := by simp [World.setCell]
        refine ⟨i + 1, by omega, by go_num, ?_, ?_, by rw [World.size_alloc, hsz]; omega, by rw [World.size_alloc, hsz]; omega, (hw.setCell (by simp) _).alloc (by rw [hsz]; omega) _⟩
        · have := hB.set_ i (.slice (some ⟨wr.heap.size, 0, none⟩) d d)
          rw [hse, partRows_set _ _ _ hlt, ← hse] at this
          exact this.alloc _
        · intro y hy
          by_cases e : y = i
          · subst e
            have := Blk.new (wr.setCell ⟨w.heap.size, y, none⟩ (.slice (some ⟨wr.heap.size, 0, none⟩) d d)) 64 (i8s d (fun _ => 0))
            rw [hsz] at this
            rw [← hse]
            exact this
          · exact ((HROWS.out y (by omega)).far (by simp only; omega) _).alloc _
      case measure => simp [intOf]; omega
    · have hie : i = d := by omega
      have hda : decide ((i : Int) < (d : Int)) = false := by simp; omega
      have hB' := hB
      rw [hie, partRows_all] at hB'
      have HIE := Lib.hid hie
      clear hie
      go_wp2_with fail
      go_ret
      refine ⟨wr.heap.size, w.heap.size, fun _ _ => 0, rfl, ⟨Blk.new _ _ _, hB'.alloc _, fun y hy => (HROWS.out y (by have := HIE.out; omega)).alloc _, hd, fun _ _ _ _ => by omega⟩, Nat.le_refl _, by omega, hw.alloc (by omega) _⟩
end Go.Proofs.YtcekbhhpcmhicaaGreatDoor
namespace Go.Proofs.YtcekbhhpcmhicaaGreatDoor
open Go.RowKit Go.QW Go.QM Go.QV Go.QZ
theorem pen4 (x : Int) (dd : Nat) (h0 : 0 ≤ x) (h1 : x ≤ 800000) (hd : 1 ≤ dd) : 0 ≤ wrap64 (x / (dd : Int) * 10) ∧ wrap64 (x / (dd : Int) * 10) ≤ 9000000 := by
  have e0 : 0 ≤ x / (dd : Int) := Int.ediv_nonneg h0 (by omega)
  have e1 : x / (dd : Int) ≤ x := Int.ediv_le_self _ h0
  generalize x / (dd : Int) = z at e0 e1 ⊢
  rw [IntWalk.wrap64_in (z * 10) ⟨by omega, by omega⟩]
  omega
section
variable {w : World} {A R d : Nat} {f : Cells}
set_option maxHeartbeats 8000000 in
set_option maxRecDepth 100000 in
theorem rule1h_any (h : Mat w A R d f) (hd : 21 ≤ d) :
    Calls Tryz.prog 194 #[.pointer (some ⟨A, 0, none⟩), .bool true] w fun e w' => ∃ p : Nat, e = .returned (.int .i64 p) ∧ p ≤ 40000 ∧ w = w' := by
  have hd2 := h.le
  go_enter Tryz.func194, Tryz.ntmps194
  go_wp2_with fail
  refine (mw_any h).mono ?_
  rintro e w2' ⟨rfl, rfl⟩
  go_wp2_with fail
  refine (mh_any h).mono ?_
  rintro e w2' ⟨rfl, rfl⟩
  go_wp2_with fail
  refine (marray_any h).mono ?_
  rintro e w2' ⟨rfl, rfl⟩
  go_wp2_with fail
  go_loop [5, 9] (fun t5 t9 => ∃ p i : Nat, i ≤ d ∧ p ≤ 200 * i ∧ t5 = .int .i64 p ∧ t9 = .int .i64 i) (fun _ t9 => d - (intOf t9).toNat)
  case atStart => exact ⟨0, 0, by omega, by omega, rfl, rfl⟩
  case round =>
    obtain ⟨p, i, hi, hp, rfl, rfl⟩ := hrel
    by_cases hlt : i < d
    · have hda : decide ((i : Int) < (d : Int)) = true := by simp; omega
      go_wp2_with fail
      obtain ⟨p0, rfl⟩ : ∃ p0, p0 = p := ⟨_, rfl⟩
      go_loop [5, 10, 11, 12] (fun t5 t10 t11 t12 => ∃ p n j : Nat, ∃ q : Int, j ≤ d ∧ p + n ≤ 200 * i + j ∧ (-1 ≤ q ∧ q ≤ 1) ∧ t5 = .int .i64 p ∧ t10 = .int .i64 n ∧ t11 = .int .i64 q ∧ t12 = .int .i64 j) (fun _ _ _ t12 => d - (intOf t12).toNat)
      case atStart => exact ⟨p0, 0, 0, -1, by omega, by omega, by decide, rfl, rfl, rfl, rfl⟩
      case round =>
        obtain ⟨p, n, j, q, hj, hpn, hq, rfl, rfl, rfl, rfl⟩ := hrel
        by_cases hlt2 : j < d
        · have hdb : decide ((j : Int) < (d : Int)) = true := by simp; omega
          have r0 := h.hR.cell i
          rw [rowPtrs_get hlt] at r0
          have c0 := (h.rows i hlt).cell j
          rw [i8s_get hlt2] at c0
          obtain ⟨z, hz⟩ : ∃ z, z = f i j := ⟨_, rfl⟩
          have hzb := h.bd i j hlt hlt2
          rw [← hz] at c0 hzb
          clear hz
          by_cases hzq : z = q
          · have hb : (z == q) = true := by rw [hzq]; exact beq_self_eq_true q
            clear hzq
            go_wp2_with fail
            go_round
            case rel => exact ⟨p, n + 1, j + 1, q, by omega, by omega, hq, rfl, by go_num, rfl, by go_num⟩
            case measure => simp [intOf]; omega
          · have hb : (z == q) = false := by rw [beq_eq_false_iff_ne]; exact hzq
            clear hzq
            by_cases h5 : 5 ≤ n
            · have hn5 : decide ((5 : Int) ≤ (n : Int)) = true := by simp; omega
              go_wp2_with fail
              go_round
              case rel => exact ⟨p + (n - 2), 1, j + 1, z, by omega, by omega, hzb, congrArg (Value.int .i64) (by omega), rfl, rfl, by go_num⟩
              case measure => simp [intOf]; omega
            · have hn5 : decide ((5 : Int) ≤ (n : Int)) = false := by simp; omega
              go_wp2_with fail
              go_round
              case rel => exact ⟨p, 1, j + 1, z, by omega, by omega, hzb, rfl, rfl, rfl, by go_num⟩
              case measure => simp [intOf]; omega
        · have hdb : decide ((j : Int) < (d : Int)) = false := by simp; omega
          by_cases h5 : 5 ≤ n
          · have hn5 : decide ((5 : Int) ≤ (n : Int)) = true := by simp; omega
            go_wp2_with fail
            go_round
            case rel => exact ⟨p + (n - 2), i + 1, by omega, by omega, congrArg (Value.int .i64) (by omega), by go_num⟩
            case measure => simp [intOf]; omega
          · have hn5 : decide ((5 : Int) ≤ (n : Int)) = false := by simp; omega
            go_wp2_with fail
            go_round
            case rel => exact ⟨p, i + 1, by omega, by omega, rfl, by go_num⟩
            case measure => simp [intOf]; omega
    · have hda : decide ((i : Int) < (d : Int)) = false := by simp; omega
      go_wp2_with fail
      go_ret
      exact ⟨p, rfl, by omega, rfl⟩
set_option maxHeartbeats 8000000 in
set_option maxRecDepth 100000 in
theorem rule1v_any (h : Mat w A R d f) (hd : 21 ≤ d) :
    Calls Tryz.prog 194 #[.pointer (some ⟨A, 0, none⟩), .bool false] w fun e w' => ∃ p : Nat, e = .returned (.int .i64 p) ∧ p ≤ 40000 ∧ w = w' := by
  have hd2 := h.le
  go_enter Tryz.func194, Tryz.ntmps194
  go_wp2_with fail
  refine (mw_any h).mono ?_
  rintro e w2' ⟨rfl, rfl⟩
  go_wp2_with fail
  refine (mh_any h).mono ?_
  rintro e w2' ⟨rfl, rfl⟩
  go_wp2_with fail
  refine (marray_any h).mono ?_
  rintro e w2' ⟨rfl, rfl⟩
  go_wp2_with fail
  go_loop [5, 9] (fun t5 t9 => ∃ p i : Nat, i ≤ d ∧ p ≤ 200 * i ∧ t5 = .int .i64 p ∧ t9 = .int .i64 i) (fun _ t9 => d - (intOf t9).toNat)
  case atStart => exact ⟨0, 0, by omega, by omega, rfl, rfl⟩
  case round =>
    obtain ⟨p, i, hi, hp, rfl, rfl⟩ := hrel
    by_cases hlt : i < d
    · have hda : decide ((i : Int) < (d : Int)) = true := by simp; omega
      go_wp2_with fail
      obtain ⟨p0, rfl⟩ : ∃ p0, p0 = p := ⟨_, rfl⟩
      go_loop [5, 10, 11, 12] (fun t5 t10 t11 t12 => ∃ p n j : Nat, ∃ q : Int, j ≤ d ∧ p + n ≤ 200 * i + j ∧ (-1 ≤ q ∧ q ≤ 1) ∧ t5 = .int .i64 p ∧ t10 = .int .i64 n ∧ t11 = .int .i64 q ∧ t12 = .int .i64 j) (fun _ _ _ t12 => d - (intOf t12).toNat)
      case atStart => exact ⟨p0, 0, 0, -1, by omega, by omega, by decide, rfl, rfl, rfl, rfl⟩
      case round =>
        obtain ⟨p, n, j, q, hj, hpn, hq, rfl, rfl, rfl, rfl⟩ := hrel
        by_cases hlt2 : j < d
        · have hdb : decide ((j : Int) < (d : Int)) = true := by simp; omega
          have r0 := h.hR.cell j
          rw [rowPtrs_get hlt2] at r0
          have c0 := (h.rows j hlt2).cell i
          rw [i8s_get hlt] at c0
          obtain ⟨z, hz⟩ : ∃ z, z = f j i := ⟨_, rfl⟩
          have hzb := h.bd j i hlt2 hlt
          rw [← hz] at c0 hzb
          clear hz
          by_cases hzq : z = q
          · have hb : (z == q) = true := by rw [hzq]; exact beq_self_eq_true q
            clear hzq
            go_wp2_with fail
            go_round
            case rel => exact ⟨p, n + 1, j + 1, q, by omega, by omega, hq, rfl, by go_num, rfl, by go_num⟩
            case measure => simp [intOf]; omega
          · have hb : (z == q) = false := by rw [beq_eq_false_iff_ne]; exact hzq
            clear hzq
            by_cases h5 : 5 ≤ n
            · have hn5 : decide ((5 : Int) ≤ (n : Int)) = true := by simp; omega
              go_wp2_with fail
              go_round
              case rel => exact ⟨p + (n - 2), 1, j + 1, z, by omega, by omega, hzb, congrArg (Value.int .i64) (by omega), rfl, rfl, by go_num⟩
              case measure => simp [intOf]; omega
            · have hn5 : decide ((5 : Int) ≤ (n : Int)) = false := by simp; omega
              go_wp2_with fail
              go_round
              case rel => exact ⟨p, 1, j + 1, z, by omega, by omega, hzb, rfl, rfl, rfl, by go_num⟩
              case measure => simp [intOf]; omega
        · have hdb : decide ((j : Int) < (d : Int)) = false := by simp; omega
          by_cases h5 : 5 ≤ n
          · have hn5 : decide ((5 : Int) ≤ (n : Int)) = true := by simp; omega
            go_wp2_with fail
            go_round
            case rel => exact ⟨p + (n - 2), i + 1, by omega, by omega, congrArg (Value.int .i64) (by omega), by go_num⟩
            case measure => simp [intOf]; omega
          · have hn5 : decide ((5 : Int) ≤ (n : Int)) = false := by simp; omega
            go_wp2_with fail
            go_round
            case rel => exact ⟨p, i + 1, by omega, by omega, rfl, by go_num⟩
            case measure => simp [intOf]; omega
    · have hda : decide ((i : Int) < (d : Int)) = false := by simp; omega
      go_wp2_with fail
      go_ret
      exact ⟨p, rfl, by omega, rfl⟩
theorem rule1_any (h : Mat w A R d f) (hd : 21 ≤ d) :
    Calls Tryz.prog 155 #[.pointer (some ⟨A, 0, none⟩)] w fun e w' => ∃ p : Nat, e = .returned (.int .i64 p) ∧ p ≤ 80000 ∧ w = w' := by
  go_enter Tryz.func155, Tryz.ntmps155
  go_wp2_with fail
  refine (rule1h_any h hd).mono ?_
  rintro e w2' ⟨p, rfl, hp, rfl⟩
  go_wp2_with fail
  refine (rule1v_any h hd).mono ?_
  rintro e w2' ⟨q, rfl, hq, rfl⟩
  go_wp2_with fail
  go_ret
  exact ⟨p + q, ret_int (by omega), by omega, rfl⟩
set_option maxHeartbeats 8000000 in
set_option maxRecDepth 100000 in
theorem rule2_any (h : Mat w A R d f) (hd : 21 ≤ d) :
    Calls Tryz.prog 156 #[.pointer (some ⟨A, 0, none⟩)] w fun e w' => ∃ p : Nat, e = .returned (.int .i64 p) ∧ p ≤ 120000 ∧ w = w' := by
  have hd2 := h.le
  go_enter Tryz.func156, Tryz.ntmps156
  go_wp2_with fail
  refine (marray_any h).mono ?_
  rintro e w2' ⟨rfl, rfl⟩
  go_wp2_with fail
  refine (mw_any h).mono ?_
  rintro e w2' ⟨rfl, rfl⟩
  go_wp2_with fail
  refine (mh_any h).mono ?_
  rintro e w2' ⟨rfl, rfl⟩
  go_wp2_with fail
  go_loop [3, 7] (fun t3 t7 => ∃ p i : Nat, i ≤ d - 1 ∧ p ≤ 200 * i ∧ t3 = .int .i64 p ∧ t7 = .int .i64 i) (fun _ t7 => d - (intOf t7).toNat)
  case atStart => exact ⟨0, 0, by omega, by omega, rfl, rfl⟩
  case round =>
    obtain ⟨p, i, hi, hp, rfl, rfl⟩ := hrel
    by_cases hlt : i < d - 1
    · have hda : decide ((i : Int) < (d : Int) - 1) = true := by simp; omega
      have r0 := h.hR.cell i
      rw [rowPtrs_get (by omega)] at r0
      have r1 := h.hR.cell (i + 1)
      rw [rowPtrs_get (by omega)] at r1
      go_wp2_with fail
      obtain ⟨p0, rfl⟩ : ∃ p0, p0 = p := ⟨_, rfl⟩
      go_loop [3, 9] (fun t3 t9 => ∃ p j : Nat, j ≤ d - 1 ∧ p ≤ 200 * i + j ∧ t3 = .int .i64 p ∧ t9 = .int .i64 j) (fun _ t9 => d - (intOf t9).toNat)
      case atStart => exact ⟨p0, 0, by omega, by omega, rfl, rfl⟩
      case round =>
        obtain ⟨p, j, hj, hpn, rfl, rfl⟩ := hrel
        by_cases hlt2 : j < d - 1
        · have hdb : decide ((j : Int) < (d : Int) - 1) = true := by simp; omega
          have c00 := (h.rows i (by omega)).cell j
          rw [i8s_get (by omega)] at c00
          have c01 := (h.rows i (by omega)).cell (j + 1)
          rw [i8s_get (by omega)] at c01
          have c10 := (h.rows (i + 1) (by omega)).cell j
          rw [i8s_get (by omega)] at c10
          have c11 := (h.rows (i + 1) (by omega)).cell (j + 1)
          rw [i8s_get (by omega)] at c11
          obtain ⟨a, ha⟩ : ∃ a, a = f i j := ⟨_, rfl⟩
          obtain ⟨b, hb⟩ : ∃ b, b = f i (j + 1) := ⟨_, rfl⟩
          obtain ⟨c, hc⟩ : ∃ c, c = f (i + 1) j := ⟨_, rfl⟩
          obtain ⟨e, he⟩ : ∃ e, e = f (i + 1) (j + 1) := ⟨_, rfl⟩
          rw [← ha] at c00
          rw [← hb] at c01
          rw [← hc] at c10
          rw [← he] at c11
          clear ha hb hc he
          cases t1 : (a == b) with
          | false =>
            go_wp2_with fail
            go_round
            case rel => exact ⟨p, j + 1, by omega, by omega, rfl, by go_num⟩
            case measure => simp [intOf]; omega
          | true =>
            cases t2 : (a == c) with
            | false =>
              go_wp2_with fail
              go_round
              case rel => exact ⟨p, j + 1, by omega, by omega, rfl, by go_num⟩
              case measure => simp [intOf]; omega
            | true =>
              cases t3 : (a == e) with
              | false =>
                go_wp2_with fail
                go_round
                case rel => exact ⟨p, j + 1, by omega, by omega, rfl, by go_num⟩
                case measure => simp [intOf]; omega
              | true =>
                go_wp2_with fail
                go_round
                case rel => exact ⟨p + 1, j + 1, by omega, by omega, by go_num, by go_num⟩
                case measure => simp [intOf]; omega
        · have hdb : decide ((j : Int) < (d : Int) - 1) = false := by simp; omega
          go_wp2_with fail
          go_round
          case rel => exact ⟨p, i + 1, by omega, by omega, rfl, by go_num⟩
          case measure => simp [intOf]; omega
    · have hda : decide ((i : Int) < (d : Int) - 1) = false := by simp; omega
      go_wp2_with fail
      go_ret
      exact ⟨3 * p, ret_int (by omega), by omega, rfl⟩
set_option maxHeartbeats 8000000 in
set_option maxRecDepth 100000 in
theorem rule4_any (h : Mat w A R d f) (hd : 21 ≤ d) :
    Calls Tryz.prog 158 #[.pointer (some ⟨A, 0, none⟩)] w fun e w' => ∃ p : Int, e = .returned (.int .i64 p) ∧ 0 ≤ p ∧ p ≤ 9000000 ∧ w = w' := by
  have hd2 := h.le
  obtain ⟨dd, hdd⟩ : ∃ dd, dd = d * d := ⟨_, rfl⟩
  have hdd1 : dd ≤ 40000 := by rw [hdd]; exact Nat.le_trans (Nat.mul_le_mul hd2 hd2) (by omega)
  have hdd2 : 441 ≤ dd := by rw [hdd]; exact Nat.le_trans (by omega) (Nat.mul_le_mul hd hd)
  have hmul : wrap64 ((d : Int) * (d : Int)) = ((dd : Nat) : Int) := by rw [← Int.natCast_mul, ← hdd]; unfold wrap64; omega
  clear hdd
  go_enter Tryz.func158, Tryz.ntmps158
  go_wp2_with fail
  refine (marray_any h).mono ?_
  rintro e w2' ⟨rfl, rfl⟩
  go_wp2_with fail
  refine (mw_any h).mono ?_
  rintro e w2' ⟨rfl, rfl⟩
  go_wp2_with fail
  refine (mh_any h).mono ?_
  rintro e w2' ⟨rfl, rfl⟩
  go_wp2_with fail
  go_loop [3, 7] (fun t3 t7 => ∃ p i : Nat, i ≤ d ∧ p ≤ 200 * i ∧ t3 = .int .i64 p ∧ t7 = .int .i64 i) (fun _ t7 => d - (intOf t7).toNat)
  case atStart => exact ⟨0, 0, by omega, by omega, rfl, rfl⟩
  case round =>
    obtain ⟨p, i, hi, hp, rfl, rfl⟩ := hrel
    by_cases hlt : i < d
    · have hda : decide ((i : Int) < (d : Int)) = true := by simp; omega
      have r0 := h.hR.cell i
      rw [rowPtrs_get (by omega)] at r0
      go_wp2_with fail
      obtain ⟨p0, rfl⟩ : ∃ p0, p0 = p := ⟨_, rfl⟩
      go_loop [3, 9] (fun t3 t9 => ∃ p j : Nat, j ≤ d ∧ p ≤ 200 * i + j ∧ t3 = .int .i64 p ∧ t9 = .int .i64 j) (fun _ t9 => d - (intOf t9).toNat)
      case atStart => exact ⟨p0, 0, by omega, by omega, rfl, rfl⟩
      case round =>
        obtain ⟨p, j, hj, hpn, rfl, rfl⟩ := hrel
        by_cases hlt2 : j < d
        · have hdb : decide ((j : Int) < (d : Int)) = true := by simp; omega
          have c00 := (h.rows i (by omega)).cell j
          rw [i8s_get (by omega)] at c00
          obtain ⟨a, ha⟩ : ∃ a, a = f i j := ⟨_, rfl⟩
          rw [← ha] at c00
          clear ha
          cases t1 : (a == 1) with
          | false =>
            go_wp2_with fail
            go_round
            case rel => exact ⟨p, j + 1, by omega, by omega, rfl, by go_num⟩
            case measure => simp [intOf]; omega
          | true =>
            go_wp2_with fail
            go_round
            case rel => exact ⟨p + 1, j + 1, by omega, by omega, by go_num, by go_num⟩
            case measure => simp [intOf]; omega
        · have hdb : decide ((j : Int) < (d : Int)) = false := by simp; omega
          go_wp2_with fail
          go_round
          case rel => exact ⟨p, i + 1, by omega, by omega, rfl, by go_num⟩
          case measure => simp [intOf]; omega
    · have hda : decide ((i : Int) < (d : Int)) = false := by simp; omega
      by_cases hneg : (p : Int) * 2 - (dd : Int) < 0
      · have hdn : decide ((p : Int) * 2 - (dd : Int) < 0) = true := by simp; omega
        go_wp2_with fail
        refine (mh_any h).mono ?_
        rintro e w2' ⟨rfl, rfl⟩
        go_wp2_with fail
        refine (mw_any h).mono ?_
        rintro e w2' ⟨rfl, rfl⟩
        go_wp2_with fail
        go_ret
        rw [hmul]
        have := pen4 (-((p : Int) * 2 - (dd : Int)) * 10) dd (by omega) (by omega) (by omega)
        exact ⟨_, rfl, this.1, this.2, rfl⟩
      · have hdn : decide ((p : Int) * 2 - (dd : Int) < 0) = false := by simp; omega
        go_wp2_with fail
        refine (mh_any h).mono ?_
        rintro e w2' ⟨rfl, rfl⟩
        go_wp2_with fail
        refine (mw_any h).mono ?_
        rintro e w2' ⟨rfl, rfl⟩
        go_wp2_with fail
        go_ret
        have := pen4 (((p : Int) * 2 - (dd : Int)) * 10) dd (by omega) (by omega) (by omega)
        exact ⟨_, rfl, this.1, this.2, rfl⟩
end
end Go.Proofs.YtcekbhhpcmhicaaGreatDoor
