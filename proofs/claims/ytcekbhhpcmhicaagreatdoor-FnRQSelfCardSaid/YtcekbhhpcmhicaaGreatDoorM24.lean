/- BitSource: bits read off bytes; The decoder's reading of the bits of format and version. Printed by fmi.py. -/
import Derived.Test.YtcekbhhpcmhicaaGreatDoorM04
import Derived.Test.YtcekbhhpcmhicaaGreatDoorM14
import Derived.Test.YtcekbhhpcmhicaaGreatDoorM15
import Derived.Test.YtcekbhhpcmhicaaGreatDoorM23
import Derived.Deep.DeepCutAuto
import Derived.Deep.LoopGhost
namespace Go.Proofs.YtcekbhhpcmhicaaGreatDoor
open Go.RowKit Go.QW
/-- the source S over the bytes L, its next bit being bit p -/
structure Bs (w : World) (S g : Nat) (L : List Nat) (p : Nat) : Prop where
  src : Blk w S 395 #[.slice (some ⟨g, 0, none⟩) L.length L.length, .int .i64 ((p / 8 : Nat) : Int), .int .i64 ((p % 8 : Nat) : Int)]
  byt : Blk w g 5 (ints .u8 L)
  lt : ∀ i, nth L i < 256
  len : L.length ≤ 4000
  le : p ≤ 8 * L.length
theorem Bs.kp {w w' : World} {T : List Nat} {S g p : Nat} {L : List Nat} (h : Bs w S g L p) (hk : Kp T w w') (h1 : S ∉ T) (h2 : g ∉ T) : Bs w' S g L p := ⟨h.src.kp hk h1, h.byt.kp hk h2, h.lt, h.len, h.le⟩
section
variable {w : World} {S g p : Nat} {L : List Nat}
theorem newbs_any (hb : Blk w g 5 (ints .u8 L)) (hl : ∀ i, nth L i < 256) (hlen : L.length ≤ 4000) (n : Nat) (hn : n = L.length) :
    Calls Tryz.prog 242 #[.slice (some ⟨g, 0, none⟩) n n] w fun e w' => ∃ S, e = .returned (.pointer (some ⟨S, 0, none⟩)) ∧ Bs w' S g L 0 ∧ Below w.heap.size w w' ∧ w.heap.size ≤ S := by
  subst hn
  go_enter Tryz.func242, Tryz.ntmps242
  go_wp2
  go_ret
  exact ⟨w.heap.size, rfl, ⟨Blk.new w _ _, hb.alloc _, hl, hlen, by omega⟩, (Below.refl _ _).alloc (Nat.le_refl _) _, Nat.le_refl _⟩
set_option maxHeartbeats 4000000 in
theorem avail_any (h : Bs w S g L p) :
    Calls Tryz.prog 243 #[.pointer (some ⟨S, 0, none⟩)] w fun e w' => e = .returned (.int .i64 ((8 * L.length - p : Nat) : Int)) ∧ ∃ nr, w' = w.drewN nr := by
  have a0 := h.src.cell 0
  have a1 := h.src.cell 1
  have a2 := h.src.cell 2
  simp only [List.getElem?_toArray, List.getElem?_cons_zero, List.getElem?_cons_succ] at a0 a1 a2
  have hl := h.len
  have hp := h.le
  obtain ⟨N, hN⟩ : ∃ N, N = L.length := ⟨_, rfl⟩
  rw [← hN] at a0 hl hp ⊢
  obtain ⟨q, hq⟩ : ∃ q, q = p / 8 := ⟨_, rfl⟩
  obtain ⟨o, ho⟩ : ∃ o, o = p % 8 := ⟨_, rfl⟩
  rw [← hq] at a1
  rw [← ho] at a2
  have hb : 8 * q + o = p := by omega
  have ho8 : o < 8 := by omega
  have e1 : IntKind.i64.wrap ((N : Int) - (q : Int)) = (N : Int) - (q : Int) := by rw [IntKind.wrap_i64]; omega
  have e2 : IntKind.i64.wrap (8 * ((N : Int) - (q : Int))) = 8 * ((N : Int) - (q : Int)) := by rw [IntKind.wrap_i64]; omega
  have e3 : IntKind.i64.wrap (8 * ((N : Int) - (q : Int)) - (o : Int)) = ((8 * N - p : Nat) : Int) := by rw [IntKind.wrap_i64]; omega
  clear hN hq ho h
  have HB := Lib.hid hb
  clear hb hl hp
  go_enter Tryz.func243, Tryz.ntmps243
  go_wp2_with fail
  go_quiet (fail)
  go_wp2_with fail
  go_ret
  exact ⟨rfl, _, rfl⟩
theorem u8_and (a b : Nat) (ha : a < 256) (hb : b < 256) : bits .and .u8 (a : Int) (b : Int) = ((a &&& b : Nat) : Int) := by
  have hx : a &&& b < 2 ^ 8 := Nat.and_lt_two_pow _ (by omega)
  have e : ∀ c : Nat, c < 256 → (BitVec.ofInt 8 (c : Int)).toNat = c := fun c hc => by rw [BitVec.ofInt_natCast, BitVec.toNat_ofNat]; exact Nat.mod_eq_of_lt (by omega)
  show IntKind.u8.wrap ((BitVec.ofInt 8 (a : Int) &&& BitVec.ofInt 8 (b : Int)).toNat : Int) = _
  rw [BitVec.toNat_and, e a ha, e b hb, IntKind.wrap_u8]; omega
/-- the mask of n bits from bit o on -/
def mkN (o n : Nat) : Nat := (255 >>> (8 - n)) <<< (8 - o - n)
theorem mkN_all : ∀ o : Fin 8, ∀ n : Fin 9, o.val + n.val ≤ 8 → mkN o.val n.val < 256 ∧ ((255 : Int) / 2 ^ (8 - n.val) * 2 ^ (8 - o.val - n.val) % 256 = ((mkN o.val n.val : Nat) : Int)) := by decide +kernel
theorem mkN_of (o n : Nat) (h : o < 8) (hn : o + n ≤ 8) : mkN o n < 256 ∧ ((255 : Int) / 2 ^ (8 - n) * 2 ^ (8 - o - n) % 256 = ((mkN o n : Nat) : Int)) := mkN_all ⟨o, h⟩ ⟨n, by omega⟩ hn
theorem part_val (L : List Nat) (p n : Nat) (hl : ∀ i, nth L i < 256) (h : p % 8 + n ≤ 8) : (nth L (p / 8) &&& mkN (p % 8) n) / 2 ^ (8 - p % 8 - n) = valAt L p n := by
  rw [valAt_in L p n h, ← part_eq _ _ _ (hl _) h]
  unfold partB mkN
  rw [Nat.shiftRight_eq_div_pow _ (8 - p % 8 - n)]
/-- k bits are read: what is left, what they say, where the source stands -/
def RbAt (w : World) (S g : Nat) (L : List Nat) (p n : Nat) (s1 s6 : Value) (wx : World) : Prop :=
  ∃ k : Nat, k ≤ n ∧ s1 = .int .i64 ((n - k : Nat) : Int) ∧ s6 = .int .i64 ((valAt L p k : Nat) : Int) ∧ Bs wx S g L (p + k) ∧ (k = n ∨ (p + k) % 8 = 0) ∧ Kp [S] w wx
set_option maxHeartbeats 8000000 in
set_option maxRecDepth 100000 in
theorem readbits_any (n : Nat) (h : Bs w S g L p) (hn : 1 ≤ n) (hn2 : n ≤ 16) (hr : p + n ≤ 8 * L.length) :
    Calls Tryz.prog 244 #[.pointer (some ⟨S, 0, none⟩), .int .i64 n] w fun e w' => e = .returned (.tuple #[.int .i64 ((valAt L p n : Nat) : Int), .nilIface]) ∧ Bs w' S g L (p + n) ∧ Kp [S] w w' := by
  have d1 : decide ((n : Int) < 1) = false := by simp; omega
  have d2 : decide ((32 : Int) < (n : Int)) = false := by simp; omega
  have d3 : decide (8 * L.length - p < n) = false := by simp; omega
  have d4 : decide (((8 * L.length - p : Nat) : Int) < (n : Int)) = false := by simp; omega
  go_enter Tryz.func244, Tryz.ntmps244
  go_wp2_with fail
  refine (avail_any h).mono ?_
  rintro e w1 ⟨rfl, nr, hw1⟩
  have hk1 : Kp [S] w w1 := by rw [hw1]; exact (Kp.refl _ w).drewN nr
  have hk0 : Kp [] w w1 := by rw [hw1]; exact (Kp.refl _ w).drewN nr
  have h1 := h.kp hk0 (by simp) (by simp)
  clear hw1 hk0
  clear h
  have hlen := h1.len
  have a0 := h1.src.cell 0
  have a1 := h1.src.cell 1
  have a2 := h1.src.cell 2
  have fr1 := h1.src.frozen 1
  have fr2 := h1.src.frozen 2
  simp only [List.getElem?_toArray, List.getElem?_cons_zero, List.getElem?_cons_succ] at a0 a1 a2
  obtain ⟨N, hN⟩ : ∃ N, N = L.length := ⟨_, rfl⟩
  obtain ⟨q, hq⟩ : ∃ q, q = p / 8 := ⟨_, rfl⟩
  obtain ⟨o, ho⟩ : ∃ o, o = p % 8 := ⟨_, rfl⟩
  have hqb := hq
  have hob := ho
  rw [← hN] at a0 hr d3 d4 hlen ⊢
  rw [← hq] at a1
  rw [← ho] at a2
  have ho8 : o < 8 := by omega
  have hqN : o = 0 ∨ q < N := by omega
  have HO := Lib.hid ho
  have HQ := Lib.hid hq
  have HN := Lib.hid hN
  clear hN hq ho hqb hob
  go_upto_if 30 with fail
  go_cut [1, 6] (fun s1 s6 wx => RbAt w S g L p n s1 s6 wx)
  case first =>
    by_cases h0 : o = 0
    · have dz : decide (0 < o) = false := by simp; omega
      have H0 := Lib.hid h0
      have hle : o ≤ 0 := by omega
      clear h0 hqN
      go_wp2_with fail
      go_meet
      exact ⟨0, by omega, rfl, rfl, h1, .inr (by have e0 := HO.out; have e1 := H0.out; omega), hk1⟩
    · have dz : decide (0 < o) = true := by simp; omega
      have hqN' : q < N := by omega
      have cb := h1.byt.cell q
      rw [ints_get (by rw [← HN.out]; exact hqN')] at cb
      have hb256 := h1.lt q
      obtain ⟨b, hb⟩ : ∃ b, b = nth L q := ⟨_, rfl⟩
      rw [← hb] at cb hb256
      have HB := Lib.hid hb
      have ho1 : 1 ≤ o := by omega
      clear hb hqN h0
      by_cases hlt : n < 8 - o
      · have dl : decide ((n : Int) < 8 - (o : Int)) = true := by simp; omega
        have hob : 1 ≤ (o : Int) ∧ (o : Int) ≤ 7 := by omega
        have hnb : 1 ≤ (n : Int) ∧ (n : Int) ≤ 16 := by omega
        obtain ⟨m1, m2⟩ := mkN_of o n ho8 (by omega)
        have hpv := part_val L p n h1.lt (by rw [← HO.out]; omega)
        rw [← HO.out, ← HQ.out, ← HB.out] at hpv
        obtain ⟨mk, hmk⟩ : ∃ mk, mk = mkN o n := ⟨_, rfl⟩
        rw [← hmk] at m1 m2 hpv
        have hand := u8_and b mk hb256 m1
        obtain ⟨y, hy⟩ : ∃ y, y = b &&& mk := ⟨_, rfl⟩
        have hyl : y < 256 := by rw [hy]; exact Nat.lt_of_le_of_lt Nat.and_le_left hb256
        rw [← hy] at hand hpv
        have HPV := Lib.hid hpv
        have h8 : ((o : Int) + (n : Int) == 8) = false := by rw [beq_eq_false_iff_ne]; omega
        clear hmk hy hpv
        go_wp2_with fail
        go_quiet (fail)
        have hkd0 : Kp [] w1 (w1.drewN nq) := (Kp.refl _ w1).drewN nq
        have hkd : Kp [S] w1 (w1.drewN nq) := (Kp.refl _ w1).drewN nq
        obtain ⟨w2, hw2⟩ : ∃ w2, w2 = w1.drewN nq := ⟨_, rfl⟩
        rw [← hw2] at hkd0 hkd ⊢
        have h2 := h1.kp hkd0 (by simp) (by simp)
        have hk2 : Kp [S] w w2 := hk1.more hkd
        clear hw2 a0 a1 a2 fr1 fr2 cb hkd hkd0
        have a0 := h2.src.cell 0
        have a1 := h2.src.cell 1
        have a2 := h2.src.cell 2
        have fr1 := h2.src.frozen 1
        have fr2 := h2.src.frozen 2
        have hst := h2.src.set_ 2 (.int .i64 ((o + n : Nat) : Int))
        simp only [List.getElem?_toArray, List.getElem?_cons_zero, List.getElem?_cons_succ] at a0 a1 a2
        rw [← HN.out] at a0
        rw [← HQ.out] at a1 hst
        rw [← HO.out] at a2 hst
        have HST := Lib.hid hst
        clear hst
        go_wp2_with fail
        go_meet
        refine ⟨n, by omega, by rw [Nat.sub_self]; exact congrArg (Value.int .i64) (by omega), ?_, ⟨?_, h2.byt.far (by
          have e := h2.src.ne_ h2.byt (by decide)
          simp only; omega) _, h2.lt, h2.len, by rw [← HN.out]; omega⟩, .inl rfl, hk2.setCell (by simp) _⟩
        · rw [← HPV.out]; rfl
        · have e1 := HO.out
          have e2 := HQ.out
          rw [show (p + n) / 8 = q by omega, show (p + n) % 8 = o + n by omega]
          exact HST.out
      · have dl : decide ((n : Int) < 8 - (o : Int)) = false := by simp; omega
        have hob : 1 ≤ (o : Int) ∧ (o : Int) ≤ 7 := by omega
        have hnb : 1 ≤ (n : Int) ∧ (n : Int) ≤ 16 := by omega
        obtain ⟨m1, m2⟩ := mkN_of o (8 - o) ho8 (by omega)
        have hpv := part_val L p (8 - o) h1.lt (by rw [← HO.out]; omega)
        rw [← HO.out, ← HQ.out, ← HB.out] at hpv
        obtain ⟨mk, hmk⟩ : ∃ mk, mk = mkN o (8 - o) := ⟨_, rfl⟩
        rw [← hmk] at m1 m2 hpv
        rw [show 8 - o - (8 - o) = 0 by omega] at m2 hpv
        rw [Int.pow_zero, Int.mul_one] at m2
        rw [Nat.pow_zero, Nat.div_one] at hpv
        have hand := u8_and b mk hb256 m1
        obtain ⟨y, hy⟩ : ∃ y, y = b &&& mk := ⟨_, rfl⟩
        have hyl : y < 256 := by rw [hy]; exact Nat.lt_of_le_of_lt Nat.and_le_left hb256
        rw [← hy] at hand hpv
        have HPV := Lib.hid hpv
        have h8 : ((o : Int) + (8 - (o : Int)) == 8) = true := by rw [beq_iff_eq]; omega
        have h9 : (o : Int) + (8 - (o : Int)) = 8 := by omega
        clear hmk hy hpv
        go_wp2_with fail
        go_quiet (fail)
        have hkd0 : Kp [] w1 (w1.drewN nq) := (Kp.refl _ w1).drewN nq
        have hkd : Kp [S] w1 (w1.drewN nq) := (Kp.refl _ w1).drewN nq
        obtain ⟨w2, hw2⟩ : ∃ w2, w2 = w1.drewN nq := ⟨_, rfl⟩
        rw [← hw2] at hkd0 hkd ⊢
        have h2 := h1.kp hkd0 (by simp) (by simp)
        have hk2 : Kp [S] w w2 := hk1.more hkd
        clear hw2 a0 a1 a2 fr1 fr2 cb hkd hkd0
        have a0 := h2.src.cell 0
        have a1 := h2.src.cell 1
        have a2 := h2.src.cell 2
        have fr1 := h2.src.frozen 1
        have fr2 := h2.src.frozen 2
        simp only [List.getElem?_toArray, List.getElem?_cons_zero, List.getElem?_cons_succ] at a0 a1 a2
        rw [← HN.out] at a0
        rw [← HQ.out] at a1
        rw [← HO.out] at a2
        have hq4 : q ≤ 4000 := by omega
        go_wp2_with fail
        go_meet
        have e1 := HO.out
        have e2 := HQ.out
        have hsg := h2.src.ne_ h2.byt (by decide)
        refine ⟨8 - o, by omega, congrArg (Value.int .i64) (by omega), by rw [← HPV.out], ⟨?_, ((h2.byt.far (p := ⟨S, 2, none⟩) (Ne.symm hsg) _).far (p := ⟨S, 2, none⟩) (Ne.symm hsg) _).far (p := ⟨S, 1, none⟩) (Ne.symm hsg) _, h2.lt, h2.len, by rw [← HN.out]; omega⟩, .inr (by omega), ((hk2.setCell (p := ⟨S, 2, none⟩) (by simp) _).setCell (p := ⟨S, 2, none⟩) (by simp) _).setCell (by simp) _⟩
        rw [show (p + (8 - o)) / 8 = q + 1 by omega, show (p + (8 - o)) % 8 = 0 by omega]
        exact ((h2.src.set_ 2 (.int .i64 8)).set_ 2 (.int .i64 0)).set_ 1 (.int .i64 ((q : Int) + 1))
  case rest =>
    obtain ⟨k, hk, rfl, rfl, hB, hal, hkk⟩ := hcut
    clear a0 a1 a2 fr1 fr2 h1 hk1
    rcases Nat.lt_or_ge k n with hkn | hkn
    · have hal8 : (p + k) % 8 = 0 := by omega
      have dz : decide (0 < n - k) = true := by simp; omega
      have hnk : 1 ≤ n - k := by omega
      have hk0 : (p + k) % 8 = 0 := hal8
      clear hal hal8
      have HKN := Lib.hid hk
      clear hk
      go_wp2_with fail
      go_loopw [1, 6] (fun s1 s6 wr => ∃ j : Nat, j ≤ n ∧ s1 = .int .i64 ((n - j : Nat) : Int) ∧ s6 = .int .i64 ((valAt L p j : Nat) : Int) ∧ Bs wr S g L (p + j) ∧ (p + j) % 8 = 0 ∧ Kp [S] w wr) (fun s1 _ _ => (intOf s1).toNat)
      case atStart => exact ⟨k, HKN.out, rfl, rfl, hB, hk0, hkk⟩
      case round =>
        obtain ⟨j, hjn, rfl, rfl, hB, hj8, hkk⟩ := hrel
        obtain ⟨m, hm⟩ : ∃ m, m = n - j := ⟨_, rfl⟩
        rw [← hm]
        have hmb : m ≤ 16 := by omega
        have hVl := valAt_lt L p j
        obtain ⟨V, hV⟩ : ∃ V, V = valAt L p j := ⟨_, rfl⟩
        rw [← hV] at hVl ⊢
        have a0 := hB.src.cell 0
        have a1 := hB.src.cell 1
        have a2 := hB.src.cell 2
        have fr1 := hB.src.frozen 1
        have fr2 := hB.src.frozen 2
        simp only [List.getElem?_toArray, List.getElem?_cons_zero, List.getElem?_cons_succ] at a0 a1 a2
        rw [← HN.out] at a0
        obtain ⟨q, hq⟩ : ∃ q, q = (p + j) / 8 := ⟨_, rfl⟩
        rw [← hq] at a1
        rw [hj8] at a2
        have hqN : m = 0 ∨ q < N := by omega
        have hb256 := hB.lt q
        have HV := Lib.hid hV
        have HQ := Lib.hid hq
        have HM := Lib.hid hm
        have HJ8 := Lib.hid hj8
        have HJN := Lib.hid hjn
        clear hV hq hm hj8 hjn
        by_cases h8 : 8 ≤ m
        · have dg : decide ((8 : Int) ≤ (m : Int)) = true := by simp; omega
          have hqN' : q < N := by omega
          have cb := hB.byt.cell q
          rw [ints_get (by rw [← HN.out]; exact hqN')] at cb
          obtain ⟨b, hb⟩ : ∃ b, b = nth L q := ⟨_, rfl⟩
          rw [← hb] at cb hb256
          have HB := Lib.hid hb
          have hV256 : V < 256 := by
            have e1 := HM.out
            have e2 := Nat.pow_le_pow_right (show 0 < 2 by omega) (show j ≤ 8 by omega)
            omega
          have hand : bits .and .u8 (b : Int) 255 = (b : Int) := by
            have := u8_and b 255 hb256 (by omega)
            rw [show b &&& 255 = b from (Nat.and_two_pow_sub_one_eq_mod b 8).trans (Nat.mod_eq_of_lt hb256)] at this
            exact this
          have hor : bits .or .i64 ((V : Int) * 256) (b : Int) = ((V * 256 + b : Nat) : Int) := by
            have := i64_or (V * 256) b (by omega) (by omega)
            rw [show V * 256 ||| b = V * 256 + b by
              have := Nat.two_pow_add_eq_or_of_lt (i := 8) (b := b) (by omega) V
              rw [Nat.mul_comm V 256]; exact this.symm] at this
            rw [← this]; rfl
          have sh1 : IntKind.i64.wrap ((V : Int) * 256) = (V : Int) * 256 := by rw [IntKind.wrap_i64]; omega
          have sh2 : wrap64 ((V : Int) * 256) = (V : Int) * 256 := by unfold wrap64; omega
          clear hb hqN hVl
          go_wp2_with fail
          go_quiet (fail)
          have hkd0 : Kp [] wr (wr.drewN nq) := (Kp.refl _ wr).drewN nq
          have hkd : Kp [S] wr (wr.drewN nq) := (Kp.refl _ wr).drewN nq
          obtain ⟨w2, hw2⟩ : ∃ w2, w2 = wr.drewN nq := ⟨_, rfl⟩
          rw [← hw2] at hkd0 hkd ⊢
          have h2 := hB.kp hkd0 (by simp) (by simp)
          have hk2 : Kp [S] w w2 := hkk.more hkd
          clear hw2 a0 a1 a2 fr1 fr2 cb hkd hkd0 hor hand sh1 sh2
          have a0 := h2.src.cell 0
          have a1 := h2.src.cell 1
          have a2 := h2.src.cell 2
          have fr1 := h2.src.frozen 1
          have fr2 := h2.src.frozen 2
          simp only [List.getElem?_toArray, List.getElem?_cons_zero, List.getElem?_cons_succ] at a0 a1 a2
          rw [← HN.out] at a0
          rw [← HQ.out] at a1
          rw [HJ8.out] at a2
          have hq4 : q ≤ 4000 := by omega
          go_wp2_with fail
          go_roundw
          case rel =>
            have e1 := HM.out
            have e2 := HQ.out
            have e3 := HJ8.out
            have hsg := h2.src.ne_ h2.byt (by decide)
            refine ⟨j + 8, by omega, congrArg (Value.int .i64) (by omega), ?_, ⟨?_, h2.byt.far (p := ⟨S, 1, none⟩) (Ne.symm hsg) _, h2.lt, h2.len, by rw [← HN.out]; omega⟩, by omega, hk2.setCell (p := ⟨S, 1, none⟩) (by simp) _⟩
            · have := valAt_add L p j 8
              have hby : valAt L (p + j) 8 = b := by
                rw [show p + j = 8 * q by omega, HB.out]
                exact valAt_byte L q (by rw [← HB.out]; exact hb256)
              rw [hby, ← HV.out] at this
              rw [this]; rfl
            · rw [show (p + (j + 8)) / 8 = q + 1 by omega, show (p + (j + 8)) % 8 = 0 by omega]
              have := h2.src.set_ 1 (.int .i64 ((q : Int) + 1))
              rw [HJ8.out] at this
              exact this
          case measure => simp [intOf]; omega
        · have dg : decide ((8 : Int) ≤ (m : Int)) = false := by simp; omega
          by_cases h0 : m = 0
          · subst h0
            clear hqN
            go_wp2_with fail
            go_ret2
            have e1 := HM.out
            have e2 := HJN.out
            have e3 : j = n := by omega
            subst e3
            exact ⟨by rw [HV.out]; rfl, hB, hkk⟩
          · have dp : decide (0 < m) = true := by simp; omega
            have dpi : decide ((0 : Int) < (m : Int)) = true := by simp; omega
            have hqN' : q < N := by omega
            have cb := hB.byt.cell q
            rw [ints_get (by rw [← HN.out]; exact hqN')] at cb
            obtain ⟨b, hb⟩ : ∃ b, b = nth L q := ⟨_, rfl⟩
            rw [← hb] at cb hb256
            have HB := Lib.hid hb
            have hm1 : 1 ≤ m := by omega
            have hmb2 : 1 ≤ (m : Int) ∧ (m : Int) ≤ 7 := by omega
            obtain ⟨m1, m2⟩ := mkN_of 0 m (by omega) (by omega)
            rw [Nat.sub_zero] at m2
            have hpv := part_val L (p + j) m hB.lt (by rw [HJ8.out]; omega)
            rw [HJ8.out, ← HQ.out, ← HB.out, Nat.sub_zero] at hpv
            obtain ⟨mk, hmk⟩ : ∃ mk, mk = mkN 0 m := ⟨_, rfl⟩
            rw [← hmk] at m1 m2 hpv
            have hand := u8_and b mk hb256 m1
            obtain ⟨y, hy⟩ : ∃ y, y = b &&& mk := ⟨_, rfl⟩
            have hyl : y < 256 := by rw [hy]; exact Nat.lt_of_le_of_lt Nat.and_le_left hb256
            rw [← hy] at hand hpv
            have hz := valAt_lt L (p + j) m
            have hVl2 : V ≤ 65535 := by
              have e1 := HM.out
              have e2 := Nat.pow_le_pow_right (show 0 < 2 by omega) (show j ≤ 16 by omega)
              omega
            have hP : V * 2 ^ m < 16777216 := by
              have e2 := Nat.pow_le_pow_right (show 0 < 2 by omega) (show m ≤ 7 by omega)
              have := Nat.mul_le_mul hVl2 e2
              omega
            have ez : (y : Int) / 2 ^ (8 - m) = ((valAt L (p + j) m : Nat) : Int) := by rw [← hpv]; rfl
            have hor : bits .or .i64 ((V : Int) * 2 ^ m) ((valAt L (p + j) m : Nat) : Int) = ((V * 2 ^ m + valAt L (p + j) m : Nat) : Int) := by
              have hz2 : 2 ^ m ≤ 128 := Nat.pow_le_pow_right (show 0 < 2 by omega) (show m ≤ 7 by omega)
              have := i64_or (V * 2 ^ m) (valAt L (p + j) m) (by omega) (by omega)
              rw [show V * 2 ^ m ||| valAt L (p + j) m = V * 2 ^ m + valAt L (p + j) m by
                have := Nat.two_pow_add_eq_or_of_lt (i := m) (b := valAt L (p + j) m) hz V
                rw [Nat.mul_comm V]; exact this.symm] at this
              rw [← this]; rfl
            have hPi : 0 ≤ (V : Int) * 2 ^ m ∧ (V : Int) * 2 ^ m < 16777216 := by
              have e : (V : Int) * 2 ^ m = ((V * 2 ^ m : Nat) : Int) := by rw [Int.natCast_mul, Int.natCast_pow]; rfl
              rw [e]; omega
            have sh1 : IntKind.i64.wrap ((V : Int) * 2 ^ m) = (V : Int) * 2 ^ m := by rw [IntKind.wrap_i64]; omega
            have sh2 : wrap64 ((V : Int) * 2 ^ m) = (V : Int) * 2 ^ m := by unfold wrap64; omega
            obtain ⟨z, hze⟩ : ∃ z, z = valAt L (p + j) m := ⟨_, rfl⟩
            rw [← hze] at ez hor hz
            have hz7 : z < 256 := by
              have hz2 : 2 ^ m ≤ 128 := Nat.pow_le_pow_right (show 0 < 2 by omega) (show m ≤ 7 by omega)
              omega
            have HZ := Lib.hid hze
            clear hb hqN hmk hy hpv hP hz hVl hze hPi
            go_wp2_with fail
            go_quiet (fail)
            have hkd0 : Kp [] wr (wr.drewN nq) := (Kp.refl _ wr).drewN nq
            have hkd : Kp [S] wr (wr.drewN nq) := (Kp.refl _ wr).drewN nq
            obtain ⟨w2, hw2⟩ : ∃ w2, w2 = wr.drewN nq := ⟨_, rfl⟩
            rw [← hw2] at hkd0 hkd ⊢
            have h2 := hB.kp hkd0 (by simp) (by simp)
            have hk2 : Kp [S] w w2 := hkk.more hkd
            clear hw2 a0 a1 a2 fr1 fr2 cb hkd hkd0 hor hand sh1 sh2 ez
            have a0 := h2.src.cell 0
            have a1 := h2.src.cell 1
            have a2 := h2.src.cell 2
            have fr1 := h2.src.frozen 1
            have fr2 := h2.src.frozen 2
            simp only [List.getElem?_toArray, List.getElem?_cons_zero, List.getElem?_cons_succ] at a0 a1 a2
            rw [← HN.out] at a0
            rw [← HQ.out] at a1
            rw [HJ8.out] at a2
            go_wp2_with fail
            go_ret2
            have e1 := HM.out
            have e2 := HQ.out
            have e3 := HJ8.out
            have hsg := h2.src.ne_ h2.byt (by decide)
            have ej : p + n = p + j + m := by have := HJN.out; omega
            refine ⟨?_, ⟨?_, h2.byt.far (p := ⟨S, 2, none⟩) (Ne.symm hsg) _, h2.lt, h2.len, by rw [← HN.out]; omega⟩, hk2.setCell (p := ⟨S, 2, none⟩) (by simp) _⟩
            · have := valAt_add L p j m
              rw [← HZ.out, ← HV.out, show j + m = n by have := HJN.out; omega] at this
              rw [this, Int.natCast_add, Int.natCast_mul, Int.natCast_pow]
              rfl
            · rw [show (p + n) / 8 = q by omega, show (p + n) % 8 = m by omega]
              have := h2.src.set_ 2 (.int .i64 (m : Int))
              rw [← HQ.out] at this
              exact this
    · obtain rfl : k = n := by omega
      clear hk hkn hal
      rw [Nat.sub_self]
      go_wp2_with fail
      go_ret2
      exact ⟨rfl, hB, hkk⟩
end
end Go.Proofs.YtcekbhhpcmhicaaGreatDoor
namespace Go.Proofs.YtcekbhhpcmhicaaGreatDoor
open Go.RowKit Go.QW Go.QM Go.QV
/-- an answer that is some whole number -/
def SomeI (w : World) (e : Ending) (w' : World) : Prop := ∃ n : Int, e = .returned (.int .i64 n) ∧ w = w'
theorem someI_mk (n : Int) (w : World) : SomeI w (.returned (.int .i64 n)) w := ⟨n, rfl, rfl⟩
set_option maxHeartbeats 4000000 in
theorem ones64_any (x : Int) (w : World) : Calls Tryz.prog 291 #[.int .u64 x] w (SomeI w) := by
  go_enter Tryz.func291, Tryz.ntmps291
  go_wp2_with fail
  go_ret
  exact someI_mk _ _
theorem ones_any (x : Int) (w : World) : Calls Tryz.prog 279 #[.int .u64 x] w (SomeI w) := by
  go_enter Tryz.func279, Tryz.ntmps279
  go_wp2_with fail
  refine (ones64_any _ _).mono ?_
  rintro e w2 ⟨n, rfl, rfl⟩
  go_wp2_with fail
  go_ret
  exact someI_mk _ _
theorem nbd_any (a b : Int) (w : World) : Calls Tryz.prog 264 #[.int .u64 a, .int .u64 b] w (SomeI w) := by
  go_enter Tryz.func264, Tryz.ntmps264
  go_wp2_with fail
  refine (ones_any _ _).mono ?_
  rintro e w2 ⟨n, rfl, rfl⟩
  go_wp2_with fail
  go_ret
  exact someI_mk _ _
/-- n rows of m values of type t, their slices of type ts -/
def TabT (t : TypeId) (w : World) (b n m : Nat) (r : Nat → Array Value) : Prop := ∀ y, y < n → ∃ g, w.cell? ⟨b, y, none⟩ = some (.slice (some ⟨g, 0, none⟩) m m) ∧ b < w.heap.size ∧ Blk w g t (r y)
def tabObjsT (t ts : TypeId) (B n m : Nat) (r : Nat → Array Value) : List Obj := (List.range n).map (fun y => Obj.cells (r y) t) ++ [.cells ((List.range n).map fun y => Value.slice (some ⟨B + y, 0, none⟩) m m).toArray ts]
theorem tabT_fin (t ts : TypeId) (w : World) (n m : Nat) (r : Nat → Array Value) : TabT t ((tabObjsT t ts w.heap.size n m r).foldl World.alloc w) (w.heap.size + n) n m r := by
  intro y hy
  have hb := allocs_blk (tabObjsT t ts w.heap.size n m r) w n _ ts (by
    unfold tabObjsT
    rw [List.getElem?_append_right (by simp)]
    simp only [List.length_map, List.length_range, Nat.sub_self, List.getElem?_cons_zero]
    rfl)
  refine ⟨w.heap.size + y, ?_, hb.lt, ?_⟩
  · rw [hb.cell, List.getElem?_toArray, List.getElem?_map, List.getElem?_range hy]; rfl
  · refine allocs_blk (tabObjsT t ts w.heap.size n m r) w y _ t ?_
    unfold tabObjsT
    rw [List.getElem?_append_left (by simpa using hy), List.getElem?_map, List.getElem?_range hy]; rfl
def fmRow (i : Nat) : Array Value := #[.int .u64 (fmtT i : Nat), .int .u64 (i : Nat)]
set_option maxHeartbeats 8000000 in
set_option maxRecDepth 100000 in
theorem fmtab_any (w : World) :
    Calls Tryz.prog 280 #[] w fun e w' => ∃ b, e = .returned (.slice (some ⟨b, 0, none⟩) 32 32) ∧ TabT 198 w' b 32 2 fmRow ∧ Below w.heap.size w w' := by
  have key := tabT_fin 198 403 w 32 2 fmRow
  have keyb := allocs_below (tabObjsT 198 403 w.heap.size 32 2 fmRow) w
  have ho : tabObjsT 198 403 w.heap.size 32 2 fmRow = [.cells #[.int .u64 21522, .int .u64 0] 198,
      .cells #[.int .u64 20773, .int .u64 1] 198,
      .cells #[.int .u64 24188, .int .u64 2] 198,
      .cells #[.int .u64 23371, .int .u64 3] 198,
      .cells #[.int .u64 17913, .int .u64 4] 198,
      .cells #[.int .u64 16590, .int .u64 5] 198,
      .cells #[.int .u64 20375, .int .u64 6] 198,
      .cells #[.int .u64 19104, .int .u64 7] 198,
      .cells #[.int .u64 30660, .int .u64 8] 198,
      .cells #[.int .u64 29427, .int .u64 9] 198,
      .cells #[.int .u64 32170, .int .u64 10] 198,
      .cells #[.int .u64 30877, .int .u64 11] 198,
      .cells #[.int .u64 26159, .int .u64 12] 198,
      .cells #[.int .u64 25368, .int .u64 13] 198,
      .cells #[.int .u64 27713, .int .u64 14] 198,
      .cells #[.int .u64 26998, .int .u64 15] 198,
      .cells #[.int .u64 5769, .int .u64 16] 198,
      .cells #[.int .u64 5054, .int .u64 17] 198,
      .cells #[.int .u64 7399, .int .u64 18] 198,
      .cells #[.int .u64 6608, .int .u64 19] 198,
      .cells #[.int .u64 1890, .int .u64 20] 198,
      .cells #[.int .u64 597, .int .u64 21] 198,
      .cells #[.int .u64 3340, .int .u64 22] 198,
      .cells #[.int .u64 2107, .int .u64 23] 198,
      .cells #[.int .u64 13663, .int .u64 24] 198,
      .cells #[.int .u64 12392, .int .u64 25] 198,
      .cells #[.int .u64 16177, .int .u64 26] 198,
      .cells #[.int .u64 14854, .int .u64 27] 198,
      .cells #[.int .u64 9396, .int .u64 28] 198,
      .cells #[.int .u64 8579, .int .u64 29] 198,
      .cells #[.int .u64 11994, .int .u64 30] 198,
      .cells #[.int .u64 11245, .int .u64 31] 198,
      .cells #[.slice (some ⟨w.heap.size, 0, none⟩) 2 2, .slice (some ⟨w.heap.size + 1, 0, none⟩) 2 2, .slice (some ⟨w.heap.size + 1 + 1, 0, none⟩) 2 2, .slice (some ⟨w.heap.size + 1 + 1 + 1, 0, none⟩) 2 2, .slice (some ⟨w.heap.size + 1 + 1 + 1 + 1, 0, none⟩) 2 2, .slice (some ⟨w.heap.size + 1 + 1 + 1 + 1 + 1, 0, none⟩) 2 2, .slice (some ⟨w.heap.size + 1 + 1 + 1 + 1 + 1 + 1, 0, none⟩) 2 2, .slice (some ⟨w.heap.size + 1 + 1 + 1 + 1 + 1 + 1 + 1, 0, none⟩) 2 2, .slice (some ⟨w.heap.size + 1 + 1 + 1 + 1 + 1 + 1 + 1 + 1, 0, none⟩) 2 2, .slice (some ⟨w.heap.size + 1 + 1 + 1 + 1 + 1 + 1 + 1 + 1 + 1, 0, none⟩) 2 2, .slice (some ⟨w.heap.size + 1 + 1 + 1 + 1 + 1 + 1 + 1 + 1 + 1 + 1, 0, none⟩) 2 2, .slice (some ⟨w.heap.size + 1 + 1 + 1 + 1 + 1 + 1 + 1 + 1 + 1 + 1 + 1, 0, none⟩) 2 2, .slice (some ⟨w.heap.size + 1 + 1 + 1 + 1 + 1 + 1 + 1 + 1 + 1 + 1 + 1 + 1, 0, none⟩) 2 2, .slice (some ⟨w.heap.size + 1 + 1 + 1 + 1 + 1 + 1 + 1 + 1 + 1 + 1 + 1 + 1 + 1, 0, none⟩) 2 2, .slice (some ⟨w.heap.size + 1 + 1 + 1 + 1 + 1 + 1 + 1 + 1 + 1 + 1 + 1 + 1 + 1 + 1, 0, none⟩) 2 2, .slice (some ⟨w.heap.size + 1 + 1 + 1 + 1 + 1 + 1 + 1 + 1 + 1 + 1 + 1 + 1 + 1 + 1 + 1, 0, none⟩) 2 2, .slice (some ⟨w.heap.size + 1 + 1 + 1 + 1 + 1 + 1 + 1 + 1 + 1 + 1 + 1 + 1 + 1 + 1 + 1 + 1, 0, none⟩) 2 2, .slice (some ⟨w.heap.size + 1 + 1 + 1 + 1 + 1 + 1 + 1 + 1 + 1 + 1 + 1 + 1 + 1 + 1 + 1 + 1 + 1, 0, none⟩) 2 2, .slice (some ⟨w.heap.size + 1 + 1 + 1 + 1 + 1 + 1 + 1 + 1 + 1 + 1 + 1 + 1 + 1 + 1 + 1 + 1 + 1 + 1, 0, none⟩) 2 2, .slice (some ⟨w.heap.size + 1 + 1 + 1 + 1 + 1 + 1 + 1 + 1 + 1 + 1 + 1 + 1 + 1 + 1 + 1 + 1 + 1 + 1 + 1, 0, none⟩) 2 2, .slice (some ⟨w.heap.size + 1 + 1 + 1 + 1 + 1 + 1 + 1 + 1 + 1 + 1 + 1 + 1 + 1 + 1 + 1 + 1 + 1 + 1 + 1 + 1, 0, none⟩) 2 2, .slice (some ⟨w.heap.size + 1 + 1 + 1 + 1 + 1 + 1 + 1 + 1 + 1 + 1 + 1 + 1 + 1 + 1 + 1 + 1 + 1 + 1 + 1 + 1 + 1, 0, none⟩) 2 2, .slice (some ⟨w.heap.size + 1 + 1 + 1 + 1 + 1 + 1 + 1 + 1 + 1 + 1 + 1 + 1 + 1 + 1 + 1 + 1 + 1 + 1 + 1 + 1 + 1 + 1, 0, none⟩) 2 2, .slice (some ⟨w.heap.size + 1 + 1 + 1 + 1 + 1 + 1 + 1 + 1 + 1 + 1 + 1 + 1 + 1 + 1 + 1 + 1 + 1 + 1 + 1 + 1 + 1 + 1 + 1, 0, none⟩) 2 2, .slice (some ⟨w.heap.size + 1 + 1 + 1 + 1 + 1 + 1 + 1 + 1 + 1 + 1 + 1 + 1 + 1 + 1 + 1 + 1 + 1 + 1 + 1 + 1 + 1 + 1 + 1 + 1, 0, none⟩) 2 2, .slice (some ⟨w.heap.size + 1 + 1 + 1 + 1 + 1 + 1 + 1 + 1 + 1 + 1 + 1 + 1 + 1 + 1 + 1 + 1 + 1 + 1 + 1 + 1 + 1 + 1 + 1 + 1 + 1, 0, none⟩) 2 2, .slice (some ⟨w.heap.size + 1 + 1 + 1 + 1 + 1 + 1 + 1 + 1 + 1 + 1 + 1 + 1 + 1 + 1 + 1 + 1 + 1 + 1 + 1 + 1 + 1 + 1 + 1 + 1 + 1 + 1, 0, none⟩) 2 2, .slice (some ⟨w.heap.size + 1 + 1 + 1 + 1 + 1 + 1 + 1 + 1 + 1 + 1 + 1 + 1 + 1 + 1 + 1 + 1 + 1 + 1 + 1 + 1 + 1 + 1 + 1 + 1 + 1 + 1 + 1, 0, none⟩) 2 2, .slice (some ⟨w.heap.size + 1 + 1 + 1 + 1 + 1 + 1 + 1 + 1 + 1 + 1 + 1 + 1 + 1 + 1 + 1 + 1 + 1 + 1 + 1 + 1 + 1 + 1 + 1 + 1 + 1 + 1 + 1 + 1, 0, none⟩) 2 2, .slice (some ⟨w.heap.size + 1 + 1 + 1 + 1 + 1 + 1 + 1 + 1 + 1 + 1 + 1 + 1 + 1 + 1 + 1 + 1 + 1 + 1 + 1 + 1 + 1 + 1 + 1 + 1 + 1 + 1 + 1 + 1 + 1, 0, none⟩) 2 2, .slice (some ⟨w.heap.size + 1 + 1 + 1 + 1 + 1 + 1 + 1 + 1 + 1 + 1 + 1 + 1 + 1 + 1 + 1 + 1 + 1 + 1 + 1 + 1 + 1 + 1 + 1 + 1 + 1 + 1 + 1 + 1 + 1 + 1, 0, none⟩) 2 2, .slice (some ⟨w.heap.size + 1 + 1 + 1 + 1 + 1 + 1 + 1 + 1 + 1 + 1 + 1 + 1 + 1 + 1 + 1 + 1 + 1 + 1 + 1 + 1 + 1 + 1 + 1 + 1 + 1 + 1 + 1 + 1 + 1 + 1 + 1, 0, none⟩) 2 2] 403] := by rfl
  rw [ho] at key keyb
  simp only [List.foldl_cons, List.foldl_nil] at key keyb
  have K := Lib.hid key
  have KB := Lib.hid keyb
  clear key keyb ho
  go_enter Tryz.func280, Tryz.ntmps280
  go_wp2
  go_ret
  exact ⟨w.heap.size + 32, rfl, K.out, KB.out⟩
/-- a format: level and mask -/
def Fi (w : World) (P l k : Nat) : Prop := Blk w P 361 #[.int .i64 (l : Nat), .int .u8 (k : Nat)]
set_option maxHeartbeats 4000000 in
theorem forbits_any (l : Nat) (hl : l < 4) (w : World) :
    Calls Tryz.prog 292 #[.int .u64 (l : Nat)] w fun e w' => e = .returned (.tuple #[.int .i64 (l : Nat), .nilIface]) ∧ w = w' := by
  match l, hl with
  | 0, _ => go_enter Tryz.func292, Tryz.ntmps292; go_wp2_with fail; go_ret2; exact ⟨rfl, rfl⟩
  | 1, _ => go_enter Tryz.func292, Tryz.ntmps292; go_wp2_with fail; go_ret2; exact ⟨rfl, rfl⟩
  | 2, _ => go_enter Tryz.func292, Tryz.ntmps292; go_wp2_with fail; go_ret2; exact ⟨rfl, rfl⟩
  | 3, _ => go_enter Tryz.func292, Tryz.ntmps292; go_wp2_with fail; go_ret2; exact ⟨rfl, rfl⟩
theorem ofInt_u64n (a : Nat) (ha : a < 4611686018427387904) : (BitVec.ofInt 64 (a : Int)).toNat = a := ofInt_i64 a ha
theorem wrap_nat_u64 (n : Nat) (h : n < 4611686018427387904) : IntKind.u64.wrap (n : Int) = (n : Int) := by rw [IntKind.wrap_u64]; omega
theorem u64_and (a b : Nat) (ha : a < 4611686018427387904) (hb : b < 4611686018427387904) : bits .and .u64 (a : Int) (b : Int) = ((a &&& b : Nat) : Int) := by
  have hx : a &&& b < 2 ^ 62 := Nat.and_lt_two_pow _ (by omega)
  show IntKind.u64.wrap ((BitVec.ofInt 64 (a : Int) &&& BitVec.ofInt 64 (b : Int)).toNat : Int) = _
  rw [BitVec.toNat_and, ofInt_u64n a ha, ofInt_u64n b hb, wrap_nat_u64 _ (by omega)]
theorem and3 (n : Nat) : n &&& 3 = n % 4 := Nat.and_two_pow_sub_one_eq_mod n 2
theorem and7 (n : Nat) : n &&& 7 = n % 8 := Nat.and_two_pow_sub_one_eq_mod n 3
set_option maxHeartbeats 4000000 in
theorem newfi_any (t : Nat) (ht : t < 32) (w : World) :
    Calls Tryz.prog 281 #[.int .u64 (t : Nat)] w fun e w' => ∃ P, e = .returned (.pointer (some ⟨P, 0, none⟩)) ∧ Fi w' P (t / 8) (t % 8) ∧ Below w.heap.size w w' ∧ w.heap.size ≤ P := by
  have a3 := u64_and (t / 8) 3 (by omega) (by omega)
  rw [and3, show t / 8 % 4 = t / 8 by omega] at a3
  have a7 := u64_and t 7 (by omega) (by omega)
  rw [and7] at a7
  have A3 : bits .and .u64 ((t : Int) / 8) 3 = ((t / 8 : Nat) : Int) := a3
  have A7 : bits .and .u64 (t : Int) 7 = ((t % 8 : Nat) : Int) := a7
  have W8 : IntKind.u8.wrap ((t % 8 : Nat) : Int) = ((t % 8 : Nat) : Int) := by rw [IntKind.wrap_u8]; omega
  clear a3 a7
  go_enter Tryz.func281, Tryz.ntmps281
  go_wp2_with fail
  refine (forbits_any (t / 8) (by omega) w).mono ?_
  rintro e w2 ⟨rfl, rfl⟩
  go_wp2_with fail
  go_ret
  exact ⟨w.heap.size, rfl, Blk.new w _ _, (Below.refl _ _).alloc (Nat.le_refl _) _, Nat.le_refl _⟩
theorem fmt_inj : ∀ i t : Fin 32, i ≠ t → fmtT i.val ≠ fmtT t.val := by decide +kernel
theorem fmt_lt : ∀ t : Fin 32, fmtT t.val < 32768 := by decide +kernel
def FRel (t5 t6 : Value) : Prop := ∃ (b : Int) (c : Nat), t5 = .int .i64 b ∧ t6 = .int .u64 (c : Nat)
theorem fRel_mk (b : Int) (c : Nat) : FRel (.int .i64 b) (.int .u64 (c : Nat)) := ⟨b, c, rfl, rfl⟩
set_option maxHeartbeats 8000000 in
set_option maxRecDepth 100000 in
theorem dofmt_any (t : Nat) (ht : t < 32) (w : World) :
    Calls Tryz.prog 265 #[.int .u64 (fmtT t : Nat), .int .u64 (fmtT t : Nat)] w fun e w' => ∃ P, e = .returned (.pointer (some ⟨P, 0, none⟩)) ∧ Fi w' P (t / 8) (t % 8) ∧ Below w.heap.size w w' ∧ w.heap.size ≤ P := by
  obtain ⟨F, hF⟩ : ∃ F, F = fmtT t := ⟨_, rfl⟩
  rw [← hF]
  have HF := Lib.hid hF
  clear hF
  have hFF : (((F : Nat) : Int) != ((F : Nat) : Int)) = false := by simp
  have hFE : (((F : Nat) : Int) == ((F : Nat) : Int)) = true := by simp
  go_enter Tryz.func265, Tryz.ntmps265
  go_wp2_with fail
  refine (fmtab_any w).mono ?_
  rintro e w1 ⟨b, rfl, htab, hb1⟩
  have hs1 := hb1.size
  have HT := Lib.hid htab
  clear htab
  go_wp2_with fail
  go_loop [5, 6, 13] (fun t5 t6 t13 => ∃ i : Nat, i ≤ t ∧ t13 = .int .i64 (i : Nat) ∧ FRel t5 t6) (fun _ _ t13 => t - (intOf t13).toNat)
  case atStart => exact ⟨0, by omega, rfl, fRel_mk 2147483647 0⟩
  case round =>
    obtain ⟨i, hi, rfl, b5, c6, rfl, rfl⟩ := hrel
    have hda : decide ((i : Int) < 32) = true := by simp; omega
    obtain ⟨g, c0, hbl, hg⟩ := HT.out i (by omega)
    have r0 := hg.cell 0
    have r1 := hg.cell 1
    simp only [fmRow, List.getElem?_toArray, List.getElem?_cons_zero, List.getElem?_cons_succ] at r0 r1
    by_cases hit : i = t
    · obtain rfl : t = i := hit.symm
      rw [← HF.out] at r0
      clear hi
      go_wp2_with fail
      refine (newfi_any t ht w1).mono ?_
      rintro e w2 ⟨P, rfl, hP, hb2, hP2⟩
      go_wp2_with fail
      go_ret
      exact ⟨P, rfl, hP, below_trans' hb1 hb2 hs1, by omega⟩
    · have hne := fmt_inj ⟨i, by omega⟩ ⟨t, ht⟩ (by intro h; exact hit (by simpa using h))
      simp only at hne
      rw [← HF.out] at hne
      obtain ⟨G, hG⟩ : ∃ G, G = fmtT i := ⟨_, rfl⟩
      rw [← hG] at r0 hne
      clear hG
      have hGF : (((G : Nat) : Int) == ((F : Nat) : Int)) = false := by rw [beq_eq_false_iff_ne]; omega
      clear hne
      go_wp2_with fail
      refine (nbd_any _ _ w1).mono ?_
      rintro e w2 ⟨n, rfl, rfl⟩
      by_cases hlt : n < b5
      · have hdb : decide (n < b5) = true := by simpa using hlt
        go_wp2_with fail
        go_round
        case rel => exact ⟨i + 1, by omega, by go_num, fRel_mk _ _⟩
        case measure => simp [intOf]; omega
      · have hdb : decide (n < b5) = false := by simpa using hlt
        go_wp2_with fail
        go_round
        case rel => exact ⟨i + 1, by omega, by go_num, fRel_mk _ _⟩
        case measure => simp [intOf]; omega
set_option maxHeartbeats 4000000 in
theorem decfmt_any (t : Nat) (ht : t < 32) (w : World) :
    Calls Tryz.prog 220 #[.int .u64 (fmtT t : Nat), .int .u64 (fmtT t : Nat)] w fun e w' => ∃ P, e = .returned (.pointer (some ⟨P, 0, none⟩)) ∧ Fi w' P (t / 8) (t % 8) ∧ Below w.heap.size w w' ∧ w.heap.size ≤ P := by
  have hd := dofmt_any t ht w
  obtain ⟨F, hF⟩ : ∃ F, F = fmtT t := ⟨_, rfl⟩
  rw [← hF] at hd ⊢
  clear hF
  go_enter Tryz.func220, Tryz.ntmps220
  go_wp2_with fail
  refine hd.mono ?_
  clear hd
  rintro e w2 ⟨P, rfl, h⟩
  go_wp2_with fail
  go_ret
  exact ⟨P, rfl, h⟩
def verArr : Array Value := ((List.range 34).map fun i => Value.int .i64 (verT (i + 7) : Nat)).toArray
theorem verArr_get (i : Nat) (h : i < 34) : verArr[i]? = some (.int .i64 (verT (i + 7) : Nat)) := by
  unfold verArr
  rw [List.getElem?_toArray, List.getElem?_map, List.getElem?_range h]; rfl
set_option maxHeartbeats 4000000 in
set_option maxRecDepth 100000 in
theorem vertab_any (w : World) :
    Calls Tryz.prog 263 #[] w fun e w' => e = .returned (.slice (some ⟨w.heap.size, 0, none⟩) 34 34) ∧ Blk w' w.heap.size 3 verArr ∧ Below w.heap.size w w' := by
  have key : Blk (w.alloc (.cells #[.int .i64 31892, .int .i64 34236, .int .i64 39577, .int .i64 42195, .int .i64 48118, .int .i64 51042, .int .i64 55367, .int .i64 58893, .int .i64 63784, .int .i64 68472, .int .i64 70749, .int .i64 76311, .int .i64 79154, .int .i64 84390, .int .i64 87683, .int .i64 92361, .int .i64 96236, .int .i64 102084, .int .i64 102881, .int .i64 110507, .int .i64 110734, .int .i64 117786, .int .i64 119615, .int .i64 126325, .int .i64 127568, .int .i64 133589, .int .i64 136944, .int .i64 141498, .int .i64 145311, .int .i64 150283, .int .i64 152622, .int .i64 158308, .int .i64 161089, .int .i64 167017] 3)) w.heap.size 3 verArr := Blk.new w _ verArr
  have KEY := Lib.hid key
  clear key
  go_enter Tryz.func263, Tryz.ntmps263
  go_wp2
  go_ret
  exact ⟨rfl, KEY.out, (Below.refl _ _).alloc (Nat.le_refl _) _⟩
theorem ver_inj : ∀ i v : Fin 41, 7 ≤ i.val → 7 ≤ v.val → i ≠ v → verT i.val ≠ verT v.val := by decide +kernel
theorem ver_lt : ∀ v : Fin 41, verT v.val < 262144 := by decide +kernel
def VRel (t4 t5 : Value) : Prop := ∃ (b : Int) (c : Int), t4 = .int .i64 b ∧ t5 = .int .i64 c
theorem vRel_mk (b c : Int) : VRel (.int .i64 b) (.int .i64 c) := ⟨b, c, rfl, rfl⟩
set_option maxHeartbeats 8000000 in
set_option maxRecDepth 100000 in
theorem decver_any (v : Nat) (h7 : 7 ≤ v) (h27 : v ≤ 27) (w : World) :
    Calls Tryz.prog 219 #[.int .i64 (verT v : Nat)] w fun e w' => ∃ V, e = .returned (.tuple #[.pointer (some ⟨V, 0, none⟩), .nilIface]) ∧ Ver w' V v ∧ Below w.heap.size w w' ∧ w.heap.size ≤ V := by
  obtain ⟨F, hF⟩ : ∃ F, F = verT v := ⟨_, rfl⟩
  rw [← hF]
  have HF := Lib.hid hF
  clear hF
  have hFE : (((F : Nat) : Int) == ((F : Nat) : Int)) = true := by simp
  go_enter Tryz.func219, Tryz.ntmps219
  go_wp2_with fail
  refine (vertab_any w).mono ?_
  rintro e w1 ⟨rfl, htab, hb1⟩
  have hs1 := hb1.size
  go_wp2_with fail
  go_loop [4, 5, 11] (fun t4 t5 t11 => ∃ i : Nat, i + 7 ≤ v ∧ t11 = .int .i64 (i : Nat) ∧ VRel t4 t5) (fun _ _ t11 => v - (intOf t11).toNat)
  case atStart => exact ⟨0, by omega, rfl, vRel_mk 2147483647 0⟩
  case round =>
    obtain ⟨i, hi, rfl, b4, c5, rfl, rfl⟩ := hrel
    have hda : decide ((i : Int) < 34) = true := by simp; omega
    have r0 := htab.cell i
    rw [verArr_get i (by omega)] at r0
    by_cases hit : i + 7 = v
    · rw [hit, ← HF.out] at r0
      have HIT := Lib.hid hit
      clear hit
      go_wp2_with fail
      rw [show ((i : Int) + 7) = ((v : Nat) : Int) by have := HIT.out; omega]
      refine (getver_any v (by omega) h27 w1).mono ?_
      rintro e w2 ⟨V, rfl, hV, hb2, hV2⟩
      go_wp2_with fail
      go_ret2
      exact ⟨V, rfl, hV, below_trans' hb1 hb2 hs1, by omega⟩
    · have hne := ver_inj ⟨i + 7, by omega⟩ ⟨v, by omega⟩ (by simp) h7 (by intro h; exact hit (by simpa using h))
      simp only at hne
      rw [← HF.out] at hne
      obtain ⟨G, hG⟩ : ∃ G, G = verT (i + 7) := ⟨_, rfl⟩
      rw [← hG] at r0 hne
      clear hG
      have hGF : (((G : Nat) : Int) == ((F : Nat) : Int)) = false := by rw [beq_eq_false_iff_ne]; omega
      clear hne
      go_wp2_with fail
      refine (nbd_any _ _ w1).mono ?_
      rintro e w2 ⟨n, rfl, rfl⟩
      by_cases hlt : n < b4
      · have hdb : decide (n < b4) = true := by simpa using hlt
        go_wp2_with fail
        go_round
        case rel => exact ⟨i + 1, by omega, by go_num, vRel_mk _ _⟩
        case measure => simp [intOf]; omega
      · have hdb : decide (n < b4) = false := by simpa using hlt
        go_wp2_with fail
        go_round
        case rel => exact ⟨i + 1, by omega, by go_num, vRel_mk _ _⟩
        case measure => simp [intOf]; omega
end Go.Proofs.YtcekbhhpcmhicaaGreatDoor
