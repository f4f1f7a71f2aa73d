/- The bits are filled up: terminateBits; How many data and check bytes a block has: getNumDataBytesAndNumECBytesForBlockID; A polynomial is evaluated: EvaluateAt, at numbers other than nought. -/
import Derived.Test.YtcekbhhpcmhicaaGreatDoorM06
import Derived.Test.YtcekbhhpcmhicaaGreatDoorM10
namespace Go.Proofs.YtcekbhhpcmhicaaGreatDoor
open Go.RowKit Go.QW Go.QGF Go.QV

def term1 (N : Nat) (bs : List Bool) : List Bool := bs ++ List.replicate (min 4 (8 * N - bs.length)) false
def term2 (bs : List Bool) : List Bool := bs ++ List.replicate ((8 - bs.length % 8) % 8) false
def padsOf (k : Nat) : List Bool := (List.range k).flatMap fun i => bitsOf 8 (if i % 2 = 0 then 236 else 17)
def term3 (N : Nat) (bs : List Bool) : List Bool := bs ++ padsOf (N - (bs.length + 7) / 8)
theorem padsOf_succ (k : Nat) : padsOf (k + 1) = padsOf k ++ bitsOf 8 (if k % 2 = 0 then 236 else 17) := by
  unfold padsOf
  rw [List.range_succ, List.flatMap_append]
  simp
theorem padsOf_length (k : Nat) : (padsOf k).length = 8 * k := by
  induction k with
  | zero => rfl
  | succ k ih => rw [padsOf_succ, List.length_append, ih, bitsOf_length]; omega
theorem rep_snoc (bs : List Bool) (i : Nat) : bs ++ List.replicate (i + 1) false = bs ++ List.replicate i false ++ [false] := by
  rw [List.append_assoc, List.replicate_succ']
theorem term1_length (N : Nat) (bs : List Bool) : (term1 N bs).length = bs.length + min 4 (8 * N - bs.length) := by simp [term1]
theorem term2_length (bs : List Bool) : (term2 bs).length = bs.length + (8 - bs.length % 8) % 8 := by simp [term2]
theorem term3_length (N : Nat) (bs : List Bool) : (term3 N bs).length = bs.length + 8 * (N - (bs.length + 7) / 8) := by
  unfold term3; rw [List.length_append, padsOf_length]

set_option maxHeartbeats 4000000 in
set_option maxRecDepth 100000 in
theorem term_any (N A g c : Nat) (bs : List Bool) (w : World) (h : Bits w A g c bs) (hN : N ≤ 4000) (hl : bs.length ≤ 8 * N) :
    Calls Tryz.prog 60 #[.int .i64 N, .pointer (some ⟨A, 0, none⟩)] w fun e w' => ∃ g', e = .returned .nilIface ∧ (g' = g ∨ w.heap.size ≤ g') ∧ Bits w' A g' 0 (term3 N (term2 (term1 N bs))) ∧ Kp [A, g] w w' := by
  have hgt : decide ((N : Int) * 8 < (bs.length : Int)) = false := by simp; omega
  go_enter Tryz.func60, Tryz.ntmps60
  go_wp2_with fail
  refine (size_any A g c bs w h).mono ?_
  rintro e w1 ⟨rfl, rfl⟩
  go_wp2_with fail
  clear hgt
  go_loopw [6] (fun t wr => ∃ i g', i ≤ min 4 (8 * N - bs.length) ∧ t = .int .i64 (i : Nat) ∧ (g' = g ∨ w.heap.size ≤ g') ∧ (∃ c, Bits wr A g' c (bs ++ List.replicate i false)) ∧ Kp [A, g] w wr) (fun t _ => 4 - (intOf t).toNat)
  case atStart => exact ⟨0, g, by omega, rfl, .inl rfl, ⟨c, by simpa using h⟩, Kp.refl _ _⟩
  case round =>
    obtain ⟨i, g', hi, rfl, hg', ⟨c', hB⟩, hk⟩ := hrel
    have hsz := hk.size
    have hlen : (bs ++ List.replicate i false).length = bs.length + i := by simp
    by_cases hlt : i < min 4 (8 * N - bs.length)
    · have d1 : decide ((i : Int) < 4) = true := by simp; omega
      have d2 : decide (((bs ++ List.replicate i false).length : Int) < (N : Int) * 8) = true := by rw [hlen]; simp; omega
      have HL := Lib.hid hlen
      clear hlen
      go_wp2_with fail
      refine (size_any A g' c' _ wr hB).mono ?_
      rintro e w1 ⟨rfl, rfl⟩
      go_wp2_with fail
      refine (appendBit_any A g' c' _ false wr hB (by rw [HL.out]; omega)).mono ?_
      rintro e w2 ⟨g2, rfl, hg2, hB2, hk2⟩
      go_wp2_with fail
      go_roundw
      case rel =>
        refine ⟨i + 1, g2, by omega, by go_num, ?_, ⟨0, ?_⟩, Kp.keepOwn (_S := []) hk hk2 hg'⟩
        · rcases hg2 with rfl | h
          · exact hg'
          · exact .inr (by omega)
        · rw [rep_snoc]; exact hB2
      case measure => simp [intOf]; omega
    · have hie : i = min 4 (8 * N - bs.length) := by omega
      subst hie
      have hb1 : bs ++ List.replicate (min 4 (8 * N - bs.length)) false = term1 N bs := rfl
      have hl1 := term1_length N bs
      rw [hb1] at hB hlen
      have hcases : (min 4 (8 * N - bs.length) = 4 ∧ decide (((min 4 (8 * N - bs.length) : Nat) : Int) < 4) = false) ∨ (decide (((min 4 (8 * N - bs.length) : Nat) : Int) < 4) = true ∧ decide (((term1 N bs).length : Int) < (N : Int) * 8) = false) := by
        simp only [decide_eq_true_eq, decide_eq_false_iff_not]
        omega
      have hl1' : (term1 N bs).length ≤ 8 * N := by omega
      obtain ⟨b1, hb1e⟩ : ∃ b1, b1 = term1 N bs := ⟨_, rfl⟩
      rw [← hb1e] at hB hcases hl1'
      obtain ⟨mn, hmn⟩ : ∃ mn, mn = min 4 (8 * N - bs.length) := ⟨_, rfl⟩
      rw [← hmn] at hcases ⊢
      have HB1 := Lib.hid hb1e
      have hand : bits .and .i64 (b1.length : Int) 7 = ((b1.length % 8 : Nat) : Int) := by
        have := i64_and b1.length 7 (by omega) (by omega)
        rw [show b1.length &&& 7 = b1.length % 8 from Nat.and_two_pow_sub_one_eq_mod (n := 3) _] at this
        exact this
      have hmn4 : mn ≤ 4 := by omega
      clear hlen hl1 hb1e hb1 hlt hi hmn
      obtain ⟨r, hr⟩ : ∃ r, r = b1.length % 8 := ⟨_, rfl⟩
      rw [← hr] at hand
      have hr8 : r < 8 := by omega
      have HR := Lib.hid hr
      clear hr
      have hrc : (r = 0 ∧ decide ((0 : Int) < (r : Int)) = false) ∨ (0 < r ∧ decide ((0 : Int) < (r : Int)) = true) := by
        simp only [decide_eq_true_eq, decide_eq_false_iff_not]
        omega
      rcases hcases with ⟨hm4, d1⟩ | ⟨d1, d2⟩
      · subst hm4
        go_wp2_with fail
        refine (size_any A g' c' _ wr hB).mono ?_
        rintro e w1 ⟨rfl, rfl⟩
        rcases hrc with ⟨h0, d3⟩ | ⟨h0, d3⟩
        · subst h0
          have hb2e : b1 = term2 b1 := by unfold term2; rw [← HR.out]; simp
          have HB2E := Lib.hid hb2e
          have HB2P : b1.length ≤ 8 * N ∧ b1.length % 8 = 0 := ⟨hl1', HR.out.symm⟩
          have HHB2P := Lib.hid HB2P
          clear hb2e HB2P
          go_wp2_with fail
          refine (sizeb_any A g' _ b1 wr hB (by have := HHB2P.out.1; omega)).mono ?_
          rintro e w1 ⟨rfl, rfl⟩
          have hB2 := hB
          have hlen2 : b1.length ≤ 8 * N ∧ b1.length % 8 = 0 := HHB2P.out
          obtain ⟨b, hb⟩ : ∃ b, b = b1 := ⟨_, rfl⟩
          rw [← hb] at hB2 hlen2
          have HB := Lib.hid hb
          obtain ⟨p, hp⟩ : ∃ p, p = (b.length + 7) / 8 := ⟨_, rfl⟩
          rw [← hb, ← hp]
          obtain ⟨k, hk'⟩ : ∃ k, k = N - p := ⟨_, rfl⟩
          have hsub : (N : Int) - (p : Int) = (k : Int) := by omega
          have hpl : p ≤ 4000 := by omega
          have hfin : b.length + 8 * k = 8 * N := by omega
          have HK := Lib.hid (show k = N - (b.length + 7) / 8 by rw [hk', hp])
          have hbl : b.length ≤ 32000 := by omega
          have hkl : k ≤ 4000 := by omega
          clear hb hp hk' hlen2
          go_wp2_with fail
          go_loopw [10, 11] (fun t _ wr2 => ∃ j g2, j ≤ k ∧ t = .int .i64 (j : Nat) ∧ (g2 = g ∨ w.heap.size ≤ g2) ∧ (∃ c, Bits wr2 A g2 c (b ++ padsOf j)) ∧ Kp [A, g] w wr2) (fun t _ _ => k - (intOf t).toNat)
          case atStart => exact ⟨0, g', by omega, rfl, hg', ⟨_, by simpa [padsOf] using hB2⟩, hk⟩
          case round =>
            obtain ⟨j, g3, hj, rfl, hg3, ⟨c3, hB3⟩, hk3⟩ := hrel
            have hsz3 := hk3.size
            have hlen3 : (b ++ padsOf j).length = b.length + 8 * j := by rw [List.length_append, padsOf_length]
            by_cases hlt : j < k
            · have hand2 : bits .and .i64 (j : Int) 1 = ((j % 2 : Nat) : Int) := by
                have := i64_and j 1 (by omega) (by omega)
                rw [show j &&& 1 = j % 2 from Nat.and_two_pow_sub_one_eq_mod (n := 1) _] at this
                exact this
              have hsucc := padsOf_succ j
              have HS := Lib.hid hsucc
              have HL3 := Lib.hid hlen3
              clear hsucc hlen3
              have hpar : (j % 2 = 0 ∨ j % 2 = 1) := by omega
              rcases hpar with hp0 | hp0
              · rw [hp0] at hand2
                have HP0 := Lib.hid hp0
                clear hp0
                go_wp2_with fail
                refine (appendBits_any A g3 c3 8 236 _ _ hB3 (by omega) (by omega) (by rw [HL3.out]; omega)).mono ?_
                rintro e w4 ⟨g4, rfl, hg4, hB4, hk4⟩
                go_wp2_with fail
                go_roundw
                case rel =>
                  refine ⟨j + 1, g4, by omega, by go_num, ?_, ⟨0, ?_⟩, Kp.keepOwn (_S := []) hk3 hk4 hg3⟩
                  · rcases hg4 with rfl | h
                    · exact hg3
                    · exact .inr (by omega)
                  · rw [HS.out, if_pos HP0.out, ← List.append_assoc]; exact hB4
                case measure => simp [intOf]; omega
              · rw [hp0] at hand2
                have HP0 := Lib.hid hp0
                clear hp0
                go_wp2_with fail
                refine (appendBits_any A g3 c3 8 17 _ _ hB3 (by omega) (by omega) (by rw [HL3.out]; omega)).mono ?_
                rintro e w4 ⟨g4, rfl, hg4, hB4, hk4⟩
                go_wp2_with fail
                go_roundw
                case rel =>
                  refine ⟨j + 1, g4, by omega, by go_num, ?_, ⟨0, ?_⟩, Kp.keepOwn (_S := []) hk3 hk4 hg3⟩
                  · rcases hg4 with rfl | h
                    · exact hg3
                    · exact .inr (by omega)
                  · rw [HS.out, if_neg (by rw [HP0.out]; decide), ← List.append_assoc]; exact hB4
                case measure => simp [intOf]; omega
            · have hjk : j = k := by omega
              subst hjk
              have hne : (((b ++ padsOf j).length : Int) != (N : Int) * 8) = false := by
                rw [bne_eq_false_iff_eq, hlen3]; omega
              clear hlen3
              obtain ⟨q, hq⟩ : ∃ q, q = b ++ padsOf j := ⟨_, rfl⟩
              rw [← hq] at hB3 hne
              have HQ := Lib.hid hq
              clear hq
              go_wp2_with fail
              refine (size_any A g3 c3 _ _ hB3).mono ?_
              rintro e w1 ⟨rfl, rfl⟩
              go_wp2_with fail
              go_ret
              have hT : term3 N (term2 (term1 N bs)) = b ++ padsOf j := by
                unfold term3
                rw [← HB1.out, ← HB2E.out, ← HB.out, HK.out]
              refine ⟨g3, rfl, hg3, ?_, hk3⟩
              rw [hT, ← HQ.out]
              obtain ⟨ws, y1, y2, y3, y4, y5⟩ := hB3.ex
              exact ⟨ws, y1, y2, y3, by omega, y5⟩
        · go_wp2_with fail
          obtain ⟨wo, rfl⟩ : ∃ wo : World, wo = wr := ⟨_, rfl⟩
          go_loopw [8] (fun t wr1 => ∃ j i g2, j = r + i ∧ j ≤ 8 ∧ t = .int .i64 (j : Nat) ∧ (g2 = g ∨ w.heap.size ≤ g2) ∧ (∃ c, Bits wr1 A g2 c (b1 ++ List.replicate i false)) ∧ Kp [A, g] w wr1) (fun t _ => 8 - (intOf t).toNat)
          case atStart => exact ⟨r, 0, g', rfl, by omega, rfl, hg', ⟨_, by simpa using hB⟩, hk⟩
          case round =>
            obtain ⟨j, i, g2, hji, hj8, rfl, hg2, ⟨c2, hB2⟩, hk2⟩ := hrel
            have hsz2 := hk2.size
            have hlen2 : (b1 ++ List.replicate i false).length = b1.length + i := by simp
            by_cases hlt2 : j < 8
            · have HJ := Lib.hid hji
              have HL2 := Lib.hid (show (b1 ++ List.replicate i false).length ≤ 33000 by omega)
              clear hji hlen2
              go_wp2_with fail
              refine (appendBit_any A g2 c2 _ false _ hB2 (by have := HL2.out; omega)).mono ?_
              rintro e w4 ⟨g4, rfl, hg4, hB4, hk4⟩
              go_wp2_with fail
              go_roundw
              case rel =>
                refine ⟨j + 1, i + 1, g4, by have := HJ.out; omega, by omega, by go_num, ?_, ⟨0, ?_⟩, Kp.keepOwn (_S := []) hk2 hk4 hg2⟩
                · rcases hg4 with rfl | h
                  · exact hg2
                  · exact .inr (by omega)
                · rw [rep_snoc]; exact hB4
              case measure => simp [intOf]; omega
            · have hje : j = 8 := by omega
              subst hje
              have hb2e : b1 ++ List.replicate i false = term2 b1 := by unfold term2; rw [← HR.out, show i = (8 - r) % 8 by omega]
              have HB2E := Lib.hid hb2e
              have HB2P : (b1 ++ List.replicate i false).length ≤ 8 * N ∧ (b1 ++ List.replicate i false).length % 8 = 0 := by
                have := HR.out
                rw [hlen2]; omega
              have HHB2P := Lib.hid HB2P
              clear hb2e HB2P hlen2 hji
              go_wp2_with fail
              refine (sizeb_any A g2 _ (b1 ++ List.replicate i false) _ hB2 (by have := HHB2P.out.1; omega)).mono ?_
              rintro e w1 ⟨rfl, rfl⟩
              have hB2 := hB2
              have hlen2 : (b1 ++ List.replicate i false).length ≤ 8 * N ∧ (b1 ++ List.replicate i false).length % 8 = 0 := HHB2P.out
              obtain ⟨b, hb⟩ : ∃ b, b = (b1 ++ List.replicate i false) := ⟨_, rfl⟩
              rw [← hb] at hB2 hlen2
              have HB := Lib.hid hb
              obtain ⟨p, hp⟩ : ∃ p, p = (b.length + 7) / 8 := ⟨_, rfl⟩
              rw [← hb, ← hp]
              obtain ⟨k, hk'⟩ : ∃ k, k = N - p := ⟨_, rfl⟩
              have hsub : (N : Int) - (p : Int) = (k : Int) := by omega
              have hpl : p ≤ 4000 := by omega
              have hfin : b.length + 8 * k = 8 * N := by omega
              have HK := Lib.hid (show k = N - (b.length + 7) / 8 by rw [hk', hp])
              have hbl : b.length ≤ 32000 := by omega
              have hkl : k ≤ 4000 := by omega
              clear hb hp hk' hlen2
              go_wp2_with fail
              go_loopw [10, 11] (fun t _ wr2 => ∃ j g2, j ≤ k ∧ t = .int .i64 (j : Nat) ∧ (g2 = g ∨ w.heap.size ≤ g2) ∧ (∃ c, Bits wr2 A g2 c (b ++ padsOf j)) ∧ Kp [A, g] w wr2) (fun t _ _ => k - (intOf t).toNat)
              case atStart => exact ⟨0, g2, by omega, rfl, hg2, ⟨_, by simpa [padsOf] using hB2⟩, hk2⟩
              case round =>
                obtain ⟨j, g3, hj, rfl, hg3, ⟨c3, hB3⟩, hk3⟩ := hrel
                have hsz3 := hk3.size
                have hlen3 : (b ++ padsOf j).length = b.length + 8 * j := by rw [List.length_append, padsOf_length]
                by_cases hlt : j < k
                · have hand2 : bits .and .i64 (j : Int) 1 = ((j % 2 : Nat) : Int) := by
                    have := i64_and j 1 (by omega) (by omega)
                    rw [show j &&& 1 = j % 2 from Nat.and_two_pow_sub_one_eq_mod (n := 1) _] at this
                    exact this
                  have hsucc := padsOf_succ j
                  have HS := Lib.hid hsucc
                  have HL3 := Lib.hid hlen3
                  clear hsucc hlen3
                  have hpar : (j % 2 = 0 ∨ j % 2 = 1) := by omega
                  rcases hpar with hp0 | hp0
                  · rw [hp0] at hand2
                    have HP0 := Lib.hid hp0
                    clear hp0
                    go_wp2_with fail
                    refine (appendBits_any A g3 c3 8 236 _ _ hB3 (by omega) (by omega) (by rw [HL3.out]; omega)).mono ?_
                    rintro e w4 ⟨g4, rfl, hg4, hB4, hk4⟩
                    go_wp2_with fail
                    go_roundw
                    case rel =>
                      refine ⟨j + 1, g4, by omega, by go_num, ?_, ⟨0, ?_⟩, Kp.keepOwn (_S := []) hk3 hk4 hg3⟩
                      · rcases hg4 with rfl | h
                        · exact hg3
                        · exact .inr (by omega)
                      · rw [HS.out, if_pos HP0.out, ← List.append_assoc]; exact hB4
                    case measure => simp [intOf]; omega
                  · rw [hp0] at hand2
                    have HP0 := Lib.hid hp0
                    clear hp0
                    go_wp2_with fail
                    refine (appendBits_any A g3 c3 8 17 _ _ hB3 (by omega) (by omega) (by rw [HL3.out]; omega)).mono ?_
                    rintro e w4 ⟨g4, rfl, hg4, hB4, hk4⟩
                    go_wp2_with fail
                    go_roundw
                    case rel =>
                      refine ⟨j + 1, g4, by omega, by go_num, ?_, ⟨0, ?_⟩, Kp.keepOwn (_S := []) hk3 hk4 hg3⟩
                      · rcases hg4 with rfl | h
                        · exact hg3
                        · exact .inr (by omega)
                      · rw [HS.out, if_neg (by rw [HP0.out]; decide), ← List.append_assoc]; exact hB4
                    case measure => simp [intOf]; omega
                · have hjk : j = k := by omega
                  subst hjk
                  have hne : (((b ++ padsOf j).length : Int) != (N : Int) * 8) = false := by
                    rw [bne_eq_false_iff_eq, hlen3]; omega
                  clear hlen3
                  obtain ⟨q, hq⟩ : ∃ q, q = b ++ padsOf j := ⟨_, rfl⟩
                  rw [← hq] at hB3 hne
                  have HQ := Lib.hid hq
                  clear hq
                  go_wp2_with fail
                  refine (size_any A g3 c3 _ _ hB3).mono ?_
                  rintro e w1 ⟨rfl, rfl⟩
                  go_wp2_with fail
                  go_ret
                  have hT : term3 N (term2 (term1 N bs)) = b ++ padsOf j := by
                    unfold term3
                    rw [← HB1.out, ← HB2E.out, ← HB.out, HK.out]
                  refine ⟨g3, rfl, hg3, ?_, hk3⟩
                  rw [hT, ← HQ.out]
                  obtain ⟨ws, y1, y2, y3, y4, y5⟩ := hB3.ex
                  exact ⟨ws, y1, y2, y3, by omega, y5⟩
      · go_wp2_with fail
        refine (size_any A g' c' _ wr hB).mono ?_
        rintro e w1 ⟨rfl, rfl⟩
        go_wp2_with fail
        refine (size_any A g' c' _ wr hB).mono ?_
        rintro e w1 ⟨rfl, rfl⟩
        rcases hrc with ⟨h0, d3⟩ | ⟨h0, d3⟩
        · subst h0
          have hb2e : b1 = term2 b1 := by unfold term2; rw [← HR.out]; simp
          have HB2E := Lib.hid hb2e
          have HB2P : b1.length ≤ 8 * N ∧ b1.length % 8 = 0 := ⟨hl1', HR.out.symm⟩
          have HHB2P := Lib.hid HB2P
          clear hb2e HB2P
          go_wp2_with fail
          refine (sizeb_any A g' _ b1 wr hB (by have := HHB2P.out.1; omega)).mono ?_
          rintro e w1 ⟨rfl, rfl⟩
          have hB2 := hB
          have hlen2 : b1.length ≤ 8 * N ∧ b1.length % 8 = 0 := HHB2P.out
          obtain ⟨b, hb⟩ : ∃ b, b = b1 := ⟨_, rfl⟩
          rw [← hb] at hB2 hlen2
          have HB := Lib.hid hb
          obtain ⟨p, hp⟩ : ∃ p, p = (b.length + 7) / 8 := ⟨_, rfl⟩
          rw [← hb, ← hp]
          obtain ⟨k, hk'⟩ : ∃ k, k = N - p := ⟨_, rfl⟩
          have hsub : (N : Int) - (p : Int) = (k : Int) := by omega
          have hpl : p ≤ 4000 := by omega
          have hfin : b.length + 8 * k = 8 * N := by omega
          have HK := Lib.hid (show k = N - (b.length + 7) / 8 by rw [hk', hp])
          have hbl : b.length ≤ 32000 := by omega
          have hkl : k ≤ 4000 := by omega
          clear hb hp hk' hlen2
          go_wp2_with fail
          go_loopw [10, 11] (fun t _ wr2 => ∃ j g2, j ≤ k ∧ t = .int .i64 (j : Nat) ∧ (g2 = g ∨ w.heap.size ≤ g2) ∧ (∃ c, Bits wr2 A g2 c (b ++ padsOf j)) ∧ Kp [A, g] w wr2) (fun t _ _ => k - (intOf t).toNat)
          case atStart => exact ⟨0, g', by omega, rfl, hg', ⟨_, by simpa [padsOf] using hB2⟩, hk⟩
          case round =>
            obtain ⟨j, g3, hj, rfl, hg3, ⟨c3, hB3⟩, hk3⟩ := hrel
            have hsz3 := hk3.size
            have hlen3 : (b ++ padsOf j).length = b.length + 8 * j := by rw [List.length_append, padsOf_length]
            by_cases hlt : j < k
            · have hand2 : bits .and .i64 (j : Int) 1 = ((j % 2 : Nat) : Int) := by
                have := i64_and j 1 (by omega) (by omega)
                rw [show j &&& 1 = j % 2 from Nat.and_two_pow_sub_one_eq_mod (n := 1) _] at this
                exact this
              have hsucc := padsOf_succ j
              have HS := Lib.hid hsucc
              have HL3 := Lib.hid hlen3
              clear hsucc hlen3
              have hpar : (j % 2 = 0 ∨ j % 2 = 1) := by omega
              rcases hpar with hp0 | hp0
              · rw [hp0] at hand2
                have HP0 := Lib.hid hp0
                clear hp0
                go_wp2_with fail
                refine (appendBits_any A g3 c3 8 236 _ _ hB3 (by omega) (by omega) (by rw [HL3.out]; omega)).mono ?_
                rintro e w4 ⟨g4, rfl, hg4, hB4, hk4⟩
                go_wp2_with fail
                go_roundw
                case rel =>
                  refine ⟨j + 1, g4, by omega, by go_num, ?_, ⟨0, ?_⟩, Kp.keepOwn (_S := []) hk3 hk4 hg3⟩
                  · rcases hg4 with rfl | h
                    · exact hg3
                    · exact .inr (by omega)
                  · rw [HS.out, if_pos HP0.out, ← List.append_assoc]; exact hB4
                case measure => simp [intOf]; omega
              · rw [hp0] at hand2
                have HP0 := Lib.hid hp0
                clear hp0
                go_wp2_with fail
                refine (appendBits_any A g3 c3 8 17 _ _ hB3 (by omega) (by omega) (by rw [HL3.out]; omega)).mono ?_
                rintro e w4 ⟨g4, rfl, hg4, hB4, hk4⟩
                go_wp2_with fail
                go_roundw
                case rel =>
                  refine ⟨j + 1, g4, by omega, by go_num, ?_, ⟨0, ?_⟩, Kp.keepOwn (_S := []) hk3 hk4 hg3⟩
                  · rcases hg4 with rfl | h
                    · exact hg3
                    · exact .inr (by omega)
                  · rw [HS.out, if_neg (by rw [HP0.out]; decide), ← List.append_assoc]; exact hB4
                case measure => simp [intOf]; omega
            · have hjk : j = k := by omega
              subst hjk
              have hne : (((b ++ padsOf j).length : Int) != (N : Int) * 8) = false := by
                rw [bne_eq_false_iff_eq, hlen3]; omega
              clear hlen3
              obtain ⟨q, hq⟩ : ∃ q, q = b ++ padsOf j := ⟨_, rfl⟩
              rw [← hq] at hB3 hne
              have HQ := Lib.hid hq
              clear hq
              go_wp2_with fail
              refine (size_any A g3 c3 _ _ hB3).mono ?_
              rintro e w1 ⟨rfl, rfl⟩
              go_wp2_with fail
              go_ret
              have hT : term3 N (term2 (term1 N bs)) = b ++ padsOf j := by
                unfold term3
                rw [← HB1.out, ← HB2E.out, ← HB.out, HK.out]
              refine ⟨g3, rfl, hg3, ?_, hk3⟩
              rw [hT, ← HQ.out]
              obtain ⟨ws, y1, y2, y3, y4, y5⟩ := hB3.ex
              exact ⟨ws, y1, y2, y3, by omega, y5⟩
        · go_wp2_with fail
          obtain ⟨wo, rfl⟩ : ∃ wo : World, wo = wr := ⟨_, rfl⟩
          go_loopw [8] (fun t wr1 => ∃ j i g2, j = r + i ∧ j ≤ 8 ∧ t = .int .i64 (j : Nat) ∧ (g2 = g ∨ w.heap.size ≤ g2) ∧ (∃ c, Bits wr1 A g2 c (b1 ++ List.replicate i false)) ∧ Kp [A, g] w wr1) (fun t _ => 8 - (intOf t).toNat)
          case atStart => exact ⟨r, 0, g', rfl, by omega, rfl, hg', ⟨_, by simpa using hB⟩, hk⟩
          case round =>
            obtain ⟨j, i, g2, hji, hj8, rfl, hg2, ⟨c2, hB2⟩, hk2⟩ := hrel
            have hsz2 := hk2.size
            have hlen2 : (b1 ++ List.replicate i false).length = b1.length + i := by simp
            by_cases hlt2 : j < 8
            · have HJ := Lib.hid hji
              have HL2 := Lib.hid (show (b1 ++ List.replicate i false).length ≤ 33000 by omega)
              clear hji hlen2
              go_wp2_with fail
              refine (appendBit_any A g2 c2 _ false _ hB2 (by have := HL2.out; omega)).mono ?_
              rintro e w4 ⟨g4, rfl, hg4, hB4, hk4⟩
              go_wp2_with fail
              go_roundw
              case rel =>
                refine ⟨j + 1, i + 1, g4, by have := HJ.out; omega, by omega, by go_num, ?_, ⟨0, ?_⟩, Kp.keepOwn (_S := []) hk2 hk4 hg2⟩
                · rcases hg4 with rfl | h
                  · exact hg2
                  · exact .inr (by omega)
                · rw [rep_snoc]; exact hB4
              case measure => simp [intOf]; omega
            · have hje : j = 8 := by omega
              subst hje
              have hb2e : b1 ++ List.replicate i false = term2 b1 := by unfold term2; rw [← HR.out, show i = (8 - r) % 8 by omega]
              have HB2E := Lib.hid hb2e
              have HB2P : (b1 ++ List.replicate i false).length ≤ 8 * N ∧ (b1 ++ List.replicate i false).length % 8 = 0 := by
                have := HR.out
                rw [hlen2]; omega
              have HHB2P := Lib.hid HB2P
              clear hb2e HB2P hlen2 hji
              go_wp2_with fail
              refine (sizeb_any A g2 _ (b1 ++ List.replicate i false) _ hB2 (by have := HHB2P.out.1; omega)).mono ?_
              rintro e w1 ⟨rfl, rfl⟩
              have hB2 := hB2
              have hlen2 : (b1 ++ List.replicate i false).length ≤ 8 * N ∧ (b1 ++ List.replicate i false).length % 8 = 0 := HHB2P.out
              obtain ⟨b, hb⟩ : ∃ b, b = (b1 ++ List.replicate i false) := ⟨_, rfl⟩
              rw [← hb] at hB2 hlen2
              have HB := Lib.hid hb
              obtain ⟨p, hp⟩ : ∃ p, p = (b.length + 7) / 8 := ⟨_, rfl⟩
              rw [← hb, ← hp]
              obtain ⟨k, hk'⟩ : ∃ k, k = N - p := ⟨_, rfl⟩
              have hsub : (N : Int) - (p : Int) = (k : Int) := by omega
              have hpl : p ≤ 4000 := by omega
              have hfin : b.length + 8 * k = 8 * N := by omega
              have HK := Lib.hid (show k = N - (b.length + 7) / 8 by rw [hk', hp])
              have hbl : b.length ≤ 32000 := by omega
              have hkl : k ≤ 4000 := by omega
              clear hb hp hk' hlen2
              go_wp2_with fail
              go_loopw [10, 11] (fun t _ wr2 => ∃ j g2, j ≤ k ∧ t = .int .i64 (j : Nat) ∧ (g2 = g ∨ w.heap.size ≤ g2) ∧ (∃ c, Bits wr2 A g2 c (b ++ padsOf j)) ∧ Kp [A, g] w wr2) (fun t _ _ => k - (intOf t).toNat)
              case atStart => exact ⟨0, g2, by omega, rfl, hg2, ⟨_, by simpa [padsOf] using hB2⟩, hk2⟩
              case round =>
                obtain ⟨j, g3, hj, rfl, hg3, ⟨c3, hB3⟩, hk3⟩ := hrel
                have hsz3 := hk3.size
                have hlen3 : (b ++ padsOf j).length = b.length + 8 * j := by rw [List.length_append, padsOf_length]
                by_cases hlt : j < k
                · have hand2 : bits .and .i64 (j : Int) 1 = ((j % 2 : Nat) : Int) := by
                    have := i64_and j 1 (by omega) (by omega)
                    rw [show j &&& 1 = j % 2 from Nat.and_two_pow_sub_one_eq_mod (n := 1) _] at this
                    exact this
                  have hsucc := padsOf_succ j
                  have HS := Lib.hid hsucc
                  have HL3 := Lib.hid hlen3
                  clear hsucc hlen3
                  have hpar : (j % 2 = 0 ∨ j % 2 = 1) := by omega
                  rcases hpar with hp0 | hp0
                  · rw [hp0] at hand2
                    have HP0 := Lib.hid hp0
                    clear hp0
                    go_wp2_with fail
                    refine (appendBits_any A g3 c3 8 236 _ _ hB3 (by omega) (by omega) (by rw [HL3.out]; omega)).mono ?_
                    rintro e w4 ⟨g4, rfl, hg4, hB4, hk4⟩
                    go_wp2_with fail
                    go_roundw
                    case rel =>
                      refine ⟨j + 1, g4, by omega, by go_num, ?_, ⟨0, ?_⟩, Kp.keepOwn (_S := []) hk3 hk4 hg3⟩
                      · rcases hg4 with rfl | h
                        · exact hg3
                        · exact .inr (by omega)
                      · rw [HS.out, if_pos HP0.out, ← List.append_assoc]; exact hB4
                    case measure => simp [intOf]; omega
                  · rw [hp0] at hand2
                    have HP0 := Lib.hid hp0
                    clear hp0
                    go_wp2_with fail
                    refine (appendBits_any A g3 c3 8 17 _ _ hB3 (by omega) (by omega) (by rw [HL3.out]; omega)).mono ?_
                    rintro e w4 ⟨g4, rfl, hg4, hB4, hk4⟩
                    go_wp2_with fail
                    go_roundw
                    case rel =>
                      refine ⟨j + 1, g4, by omega, by go_num, ?_, ⟨0, ?_⟩, Kp.keepOwn (_S := []) hk3 hk4 hg3⟩
                      · rcases hg4 with rfl | h
                        · exact hg3
                        · exact .inr (by omega)
                      · rw [HS.out, if_neg (by rw [HP0.out]; decide), ← List.append_assoc]; exact hB4
                    case measure => simp [intOf]; omega
                · have hjk : j = k := by omega
                  subst hjk
                  have hne : (((b ++ padsOf j).length : Int) != (N : Int) * 8) = false := by
                    rw [bne_eq_false_iff_eq, hlen3]; omega
                  clear hlen3
                  obtain ⟨q, hq⟩ : ∃ q, q = b ++ padsOf j := ⟨_, rfl⟩
                  rw [← hq] at hB3 hne
                  have HQ := Lib.hid hq
                  clear hq
                  go_wp2_with fail
                  refine (size_any A g3 c3 _ _ hB3).mono ?_
                  rintro e w1 ⟨rfl, rfl⟩
                  go_wp2_with fail
                  go_ret
                  have hT : term3 N (term2 (term1 N bs)) = b ++ padsOf j := by
                    unfold term3
                    rw [← HB1.out, ← HB2E.out, ← HB.out, HK.out]
                  refine ⟨g3, rfl, hg3, ?_, hk3⟩
                  rw [hT, ← HQ.out]
                  obtain ⟨ws, y1, y2, y3, y4, y5⟩ := hB3.ex
                  exact ⟨ws, y1, y2, y3, by omega, y5⟩
end Go.Proofs.YtcekbhhpcmhicaaGreatDoor
namespace Go.Proofs.YtcekbhhpcmhicaaGreatDoor
open Go.RowKit Go.QW Go.QGF Go.QV

/-- data bytes of block id, of R blocks over D data bytes -/
def blkLen (D R id : Nat) : Nat := if id < R - D % R then D / R else D / R + 1
theorem w64_nat (n : Nat) (h : n ≤ 1000000) : wrap64 (n : Int) = (n : Int) := by
  unfold wrap64
  omega
set_option maxHeartbeats 2000000 in
set_option maxRecDepth 100000 in
theorem blkid_any (T D R ec id : Nat) (w : World) (hT : T = D + ec * R) (h1 : 1 ≤ R) (h2 : R ≤ 100) (h3 : D ≤ 4000) (h4 : ec ≤ 100) (hid : id < R) :
    Calls Tryz.prog 115 #[.int .i64 T, .int .i64 D, .int .i64 R, .int .i64 id] w fun e w' => e = .returned (.tuple #[.int .i64 (blkLen D R id : Nat), .int .i64 ec, .nilIface]) ∧ w = w' := by
  have hq1 : T / R = D / R + ec := by rw [hT, Nat.add_mul_div_right _ _ (by omega)]
  have hm1 : T % R = D % R := by rw [hT, Nat.add_mul_mod_self_right]
  have hTb : T ≤ 14000 := by have : ec * R ≤ 100 * 100 := Nat.mul_le_mul h4 h2; omega
  have hml : D % R < R := Nat.mod_lt _ (by omega)
  have hdm : R * (D / R) + D % R = D := Nat.div_add_mod D R
  have hql : D / R ≤ D := Nat.div_le_self _ _
  have e1 : Int.tmod (T : Int) (R : Int) = ((D % R : Nat) : Int) := by rw [Int.tmod_eq_emod_of_nonneg (by omega), ← Int.natCast_emod, hm1]
  have e2 : Int.tdiv (T : Int) (R : Int) = ((D / R + ec : Nat) : Int) := by rw [Int.tdiv_eq_ediv_of_nonneg (by omega), ← Int.natCast_ediv, hq1]
  have e3 : Int.tdiv (D : Int) (R : Int) = ((D / R : Nat) : Int) := by rw [Int.tdiv_eq_ediv_of_nonneg (by omega), ← Int.natCast_ediv]
  have e1' : (T : Int) % (R : Int) = ((D % R : Nat) : Int) := by rw [← Int.natCast_emod, hm1]
  have e2' : (T : Int) / (R : Int) = ((D / R + ec : Nat) : Int) := by rw [← Int.natCast_ediv, hq1]
  have e3' : (D : Int) / (R : Int) = ((D / R : Nat) : Int) := by rw [← Int.natCast_ediv]
  have hR0 : ((R : Int) == 0) = false := by rw [beq_eq_false_iff_ne]; omega
  have hge : decide ((R : Int) ≤ (id : Int)) = false := by simp; omega
  obtain ⟨q, hq⟩ : ∃ q, q = D / R := ⟨_, rfl⟩
  obtain ⟨m, hm⟩ : ∃ m, m = D % R := ⟨_, rfl⟩
  have hbl : blkLen D R id = if id < R - m then q else q + 1 := by unfold blkLen; rw [hq, hm]
  rw [← hq] at e2 e3 e2' e3' hdm hql
  rw [← hm] at e1 e1' hml hdm
  have HBL := Lib.hid hbl
  have hsum : T = (q + ec) * (R - m) + (q + 1 + ec) * m := by
    obtain ⟨s, hs⟩ : ∃ s, R = s + m := ⟨R - m, by omega⟩
    subst hs
    rw [Nat.add_sub_cancel, hT, ← hdm]
    simp only [Nat.add_mul, Nat.mul_add, Nat.one_mul]
    rw [Nat.mul_comm s q, Nat.mul_comm m q]
    omega
  have c1 : ((q : Int) + (ec : Int) - (q : Int) != (q : Int) + (ec : Int) + 1 - ((q : Int) + 1)) = false := by
    rw [bne_eq_false_iff_eq]; omega
  have c2 : ((T : Int) != wrap64 (wrap64 (((q : Int) + ((q : Int) + (ec : Int) - (q : Int))) * ((R : Int) - (m : Int))) + wrap64 (((q : Int) + 1 + ((q : Int) + (ec : Int) + 1 - ((q : Int) + 1))) * (m : Int)))) = false := by
    rw [bne_eq_false_iff_eq]
    rw [show (q : Int) + ((q : Int) + (ec : Int) - (q : Int)) = ((q + ec : Nat) : Int) by omega, show (R : Int) - (m : Int) = ((R - m : Nat) : Int) by omega, show (q : Int) + 1 + ((q : Int) + (ec : Int) + 1 - ((q : Int) + 1)) = ((q + 1 + ec : Nat) : Int) by omega, ← Int.natCast_mul, ← Int.natCast_mul]
    generalize (q + ec) * (R - m) = x at hsum ⊢
    generalize (q + 1 + ec) * m = y at hsum ⊢
    have hx : x ≤ 14000 := by omega
    have hy : y ≤ 14000 := by omega
    rw [w64_nat x (by omega), w64_nat y (by omega), ← Int.natCast_add, w64_nat (x + y) (by omega), hsum]
  have hc3 : (id < R - m ∧ decide ((id : Int) < (R : Int) - (m : Int)) = true) ∨ (¬ id < R - m ∧ decide ((id : Int) < (R : Int) - (m : Int)) = false) := by
    simp only [decide_eq_true_eq, decide_eq_false_iff_not]
    omega
  have hfin : (q : Int) + (ec : Int) - (q : Int) = (ec : Int) := by omega
  have hfin2 : (q : Int) + (ec : Int) + 1 - ((q : Int) + 1) = (ec : Int) := by omega
  have HF := Lib.hid (And.intro hfin hfin2)
  clear hbl hq hm hdm hq1 hm1 hT hsum hfin hfin2
  rcases hc3 with ⟨h5, d5⟩ | ⟨h5, d5⟩
  · go_enter Tryz.func115, Tryz.ntmps115
    go_wp2_with fail
    go_ret3
    rw [HBL.out, if_pos h5]
    refine ⟨?_, rfl⟩
    show Ending.returned (.tuple #[.int .i64 (q : Int), .int .i64 ((q : Int) + (ec : Int) - (q : Int)), .nilIface]) = _
    rw [HF.out.1]
  · go_enter Tryz.func115, Tryz.ntmps115
    go_wp2_with fail
    go_ret3
    rw [HBL.out, if_neg h5]
    refine ⟨?_, rfl⟩
    show Ending.returned (.tuple #[.int .i64 ((q : Int) + 1), .int .i64 ((q : Int) + (ec : Int) + 1 - ((q : Int) + 1)), .nilIface]) = _
    rw [HF.out.2]
    rfl
end Go.Proofs.YtcekbhhpcmhicaaGreatDoor
namespace Go.Proofs.YtcekbhhpcmhicaaGreatDoor
open Go.RowKit Go.QW Go.QGF

theorem World.drewN_drewN' (w : World) (n m : Nat) : (w.drewN n).drewN m = w.drewN (n + m) := by simp [World.drewN, Nat.add_assoc]
theorem take_snoc' (l : List Nat) (i : Nat) (h : i < l.length) : l.take (i + 1) = l.take i ++ [nth l i] := by
  rw [List.take_add_one, List.getElem?_eq_getElem h, nth_get h]; rfl
set_option maxHeartbeats 2000000 in
set_option maxRecDepth 100000 in
theorem eval2_any (F p a : Nat) (cs : List Nat) (w : World) (hF : Field w F) (hp : Poly w F p cs) (ok : Ok cs) (hl : 1 ≤ cs.length) (hl2 : cs.length ≤ 10000) (ha : 2 ≤ a) (ha2 : a < 256) :
    Calls Tryz.prog 272 #[.pointer (some ⟨p, 0, none⟩), .int .i64 a] w fun e w' => e = .returned (.int .i64 (ev a cs : Nat)) ∧ ∃ n, w' = w.drewN n := by
  obtain ⟨g, off, cap, hb, hr, hcap, hcap2⟩ := hp.rd
  have b0 := hb.cell 0
  have b1 := hb.cell 1
  have c0 := hr.at_ hl
  rw [Nat.add_zero] at c0
  simp only [List.getElem?_toArray, List.getElem?_cons_zero, List.getElem?_cons_succ] at b0 b1
  have e0 : ((a : Int) == 0) = false := by rw [beq_eq_false_iff_ne]; omega
  have e1 : ((a : Int) == 1) = false := by rw [beq_eq_false_iff_ne]; omega
  have hlI : (0 : Int) < (cs.length : Int) := by omega
  have hst : ev a (cs.take 1) = nth cs 0 := by
    rw [take_snoc' cs 0 (by omega), List.take_zero, List.nil_append]
    simp [ev, gm_zero]
  have HST := Lib.hid hst
  clear hst
  go_enter Tryz.func272, Tryz.ntmps272
  go_wp2_with fail
  go_loopw [8, 10] (fun t8 t wr => ∃ k n : Nat, 1 ≤ k ∧ k ≤ cs.length ∧ t = .int .i64 (k : Nat) ∧ t8 = .int .i64 (ev a (cs.take k) : Nat) ∧ wr = w.drewN n) (fun _ t _ => cs.length - (intOf t).toNat)
  case atStart => exact ⟨1, 0, by omega, hl, rfl, by rw [HST.out], rfl⟩
  case round =>
    obtain ⟨k, n, hk1, hk2, rfl, rfl, hwr⟩ := hrel
    have hFr : Field wr F := by rw [hwr]; exact hF.heap rfl
    have b0' : wr.cell? ⟨p, 0, none⟩ = some (.pointer (some ⟨F, 0, none⟩)) := by rw [hwr]; exact b0
    have b1' : wr.cell? ⟨p, 1, none⟩ = some (.slice (some ⟨g, off, none⟩) cs.length cap) := by rw [hwr]; exact b1
    by_cases hlt : k < cs.length
    · have hsn := ev_snoc a (cs.take k) (nth cs k)
      rw [← take_snoc' cs k hlt] at hsn
      have hel : ev a (cs.take k) < 256 := ev_lt (fun x hx => ok x (List.mem_of_mem_take hx))
      have hck : wr.cell? ⟨g, off + k, none⟩ = some (.int .i64 (nth cs k : Nat)) := by rw [hwr]; exact hr.at_ hlt
      have HW := Lib.hid hwr
      clear hwr
      have h256 : nth cs k < 256 := by rw [nth_eq]; exact ok.getD k
      obtain ⟨y, hy⟩ : ∃ y, y = ev a (cs.take k) := ⟨_, rfl⟩
      rw [← hy] at hsn hel ⊢
      have hgl : gm a y < 256 := gm_lt _ _
      have HS := Lib.hid hsn
      clear hsn hy
      go_wp2_with fail
      go_quiet (first | (go_at_call 229; exact mul_quiet F _ _ _ _ hFr (by omega) (by omega) (by omega) (by omega)) | (go_at_call 267; exact xor_quiet _ _ _ _ (by omega) (Int.ofNat_lt.2 (Nat.lt_trans (gm_lt _ _) (by decide))) (by omega) (by omega)))
      go_wp2_with fail
      go_roundw
      case rel =>
        refine ⟨k + 1, n + nq, by omega, by omega, by go_num, ?_, by rw [HW.out]; exact World.drewN_drewN' w n nq⟩
        rw [HS.out, Int.toNat_natCast, Int.toNat_natCast]
      case measure => simp [intOf]; omega
    · have hke : k = cs.length := by omega
      subst hke
      rw [List.take_length]
      go_wp2_with fail
      go_ret
      exact ⟨rfl, n, rfl⟩
set_option maxHeartbeats 2000000 in
set_option maxRecDepth 100000 in
theorem eval1_any (F p : Nat) (cs : List Nat) (w : World) (hp : Poly w F p cs) (ok : Ok cs) (hl : 1 ≤ cs.length) (hl2 : cs.length ≤ 10000) :
    Calls Tryz.prog 272 #[.pointer (some ⟨p, 0, none⟩), .int .i64 1] w fun e w' => e = .returned (.int .i64 (ev 1 cs : Nat)) ∧ ∃ n, w' = w.drewN n := by
  obtain ⟨g, off, cap, hb, hr, hcap, hcap2⟩ := hp.rd
  have b1 := hb.cell 1
  simp only [List.getElem?_toArray, List.getElem?_cons_zero, List.getElem?_cons_succ] at b1
  go_enter Tryz.func272, Tryz.ntmps272
  go_wp2_with fail
  go_loopw [5, 7, 22] (fun t5 _ t wr => ∃ k : Nat, k ≤ cs.length ∧ t = .int .i64 (k : Nat) ∧ t5 = .int .i64 (ev 1 (cs.take k) : Nat) ∧ wr = w) (fun _ _ t _ => cs.length - (intOf t).toNat)
  case atStart => exact ⟨0, by omega, rfl, rfl, rfl⟩
  case round =>
    obtain ⟨k, hk2, rfl, rfl, hww⟩ := hrel
    subst hww
    by_cases hlt : k < cs.length
    · have hsn := ev_snoc 1 (cs.take k) (nth cs k)
      rw [← take_snoc' cs k hlt] at hsn
      have hel : ev 1 (cs.take k) < 256 := ev_lt (fun x hx => ok x (List.mem_of_mem_take hx))
      rw [one_gm hel] at hsn
      have hck := hr.at_ hlt
      have h256 : nth cs k < 256 := by rw [nth_eq]; exact ok.getD k
      obtain ⟨y, hy⟩ : ∃ y, y = ev 1 (cs.take k) := ⟨_, rfl⟩
      rw [← hy] at hsn hel ⊢
      have HS := Lib.hid hsn
      clear hsn hy
      go_wp2_with fail
      refine (xor_any _ _ _ (by omega) (by omega) (by omega) (by omega)).mono ?_
      rintro e w1 ⟨rfl, rfl⟩
      go_wp2_with fail
      go_roundw
      case rel =>
        refine ⟨k + 1, by omega, by go_num, ?_, by trivial⟩
        rw [HS.out]
      case measure => simp [intOf]; omega
    · have hke : k = cs.length := by omega
      subst hke
      rw [List.take_length]
      go_wp2_with fail
      go_ret
      exact ⟨rfl, 0, rfl⟩
theorem eval_any (F p a : Nat) (cs : List Nat) (w : World) (hF : Field w F) (hp : Poly w F p cs) (ok : Ok cs) (hl : 1 ≤ cs.length) (hl2 : cs.length ≤ 10000) (ha : 1 ≤ a) (ha2 : a < 256) :
    Calls Tryz.prog 272 #[.pointer (some ⟨p, 0, none⟩), .int .i64 a] w fun e w' => e = .returned (.int .i64 (ev a cs : Nat)) ∧ ∃ n, w' = w.drewN n := by
  by_cases h : a = 1
  · subst h; exact eval1_any F p cs w hp ok hl hl2
  · exact eval2_any F p a cs w hF hp ok hl hl2 (by omega) ha2
end Go.Proofs.YtcekbhhpcmhicaaGreatDoor
