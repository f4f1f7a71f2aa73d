/- Small contracts of the decoder's text: ModeForBits, String of a level, the result; The decoder reads the text out of the bytes: DecodedBitStreamParser_Decode. Printed by dbs.py; The decoder reads the text out of the bytes: DecodedBitStreamParser_Decode. Printed by dbs.py; The decoder reads the text out of the bytes: DecodedBitStreamParser_Decode. Printed by dbs.py; The decoder on a matrix that bears a text without errors: decode. -/
import Derived.Test.YtcekbhhpcmhicaaGreatDoorM10
import Derived.Test.YtcekbhhpcmhicaaGreatDoorM21
import Derived.Test.YtcekbhhpcmhicaaGreatDoorM23
import Derived.Test.YtcekbhhpcmhicaaGreatDoorM28
import Derived.Test.YtcekbhhpcmhicaaGreatDoorM29
import Derived.Test.YtcekbhhpcmhicaaGreatDoorM30
import Derived.Lib.SlBytesRow
import Derived.LoopN
namespace Go.Proofs.YtcekbhhpcmhicaaGreatDoor
open Go.RowKit Go.QW Go.QI Go.QV
theorem modefb_any (m : Nat) (hm : m = 0 ∨ m = 1 ∨ m = 2 ∨ m = 4) (w : World) :
    Calls Tryz.prog 245 #[.int .i64 m] w fun e w' => e = .returned (.tuple #[.int .i64 m, .nilIface]) ∧ w = w' := by
  rcases hm with rfl | rfl | rfl | rfl
  · go_enter Tryz.func245, Tryz.ntmps245; go_wp2_with fail; go_ret2; exact ⟨rfl, rfl⟩
  · go_enter Tryz.func245, Tryz.ntmps245; go_wp2_with fail; go_ret2; exact ⟨rfl, rfl⟩
  · go_enter Tryz.func245, Tryz.ntmps245; go_wp2_with fail; go_ret2; exact ⟨rfl, rfl⟩
  · go_enter Tryz.func245, Tryz.ntmps245; go_wp2_with fail; go_ret2; exact ⟨rfl, rfl⟩
def lvName (l : Nat) : ByteArray := ⟨#[[77, 76, 72, 81].getD l 0]⟩
theorem lvstr_any (l : Nat) (hl : l < 4) (w : World) :
    Calls Tryz.prog 254 #[.int .i64 l] w fun e w' => e = .returned (.string (lvName l)) ∧ w = w' := by
  match l, hl with
  | 0, _ => go_enter Tryz.func254, Tryz.ntmps254; go_wp2_with fail; go_ret; exact ⟨rfl, rfl⟩
  | 1, _ => go_enter Tryz.func254, Tryz.ntmps254; go_wp2_with fail; go_ret; exact ⟨rfl, rfl⟩
  | 2, _ => go_enter Tryz.func254, Tryz.ntmps254; go_wp2_with fail; go_ret; exact ⟨rfl, rfl⟩
  | 3, _ => go_enter Tryz.func254, Tryz.ntmps254; go_wp2_with fail; go_ret; exact ⟨rfl, rfl⟩
theorem newres_any (Z N : Nat) (hN : N ≤ 10000) (s e : ByteArray) (ba : Option Addr) (bl bc : Nat) (sq pa md : Int) (w : World) :
    Calls Tryz.prog 253 #[.slice (some ⟨Z, 0, none⟩) N N, .string s, .slice ba bl bc, .string e, .int .i64 sq, .int .i64 pa, .int .i64 md] w fun r w' => ∃ Res, r = .returned (.pointer (some ⟨Res, 0, none⟩)) ∧
      Blk w' Res 221 #[.slice (some ⟨Z, 0, none⟩) N N, .int .i64 (8 * (N : Int)), .string s, .slice ba bl bc, .string e, .int .i64 0, .int .i64 0, .nilIface, .int .i64 pa, .int .i64 sq, .int .i64 md] ∧ Below w.heap.size w w' ∧ w.heap.size ≤ Res := by
  go_enter Tryz.func253, Tryz.ntmps253
  go_wp2_with fail
  go_ret
  exact ⟨w.heap.size, rfl, Blk.new w _ _, (Below.refl _ _).alloc (Nat.le_refl _) _, Nat.le_refl _⟩
/-- the text of a slice that holds a string's bytes, in whatever world that holds it -/
theorem conv_own {w : World} {v : Value} {s : ByteArray} (h : w.ownsRow 0 5 1 v (bytesOf s).length ((bytesOf s).map U8)) (h1 : 1 ≤ s.size) : ∃ b c, v = .slice (some ⟨b, 0, none⟩) s.size c ∧ (∀ nr, (convert 30 9 (.slice (some ⟨b, 0, none⟩) s.size c)).run Tryz.prog (w.drewN nr) = .ok (.string s) (w.drewN nr)) := by
  obtain ⟨b, c, hv, hb, -, -, hc, -, -⟩ := ownsRow_form h (by rw [bytesOf_length]; omega)
  rw [bytesOf_length] at hv hc
  refine ⟨b, c, hv, fun nr => ?_⟩
  refine Lib.run_convert_whole (P := Tryz.prog) (w.drewN nr) 30 5 9 (by kernel_rfl) (by kernel_rfl) (by kernel_rfl) b 0 s (Lib.Bytes.drewN (fun i hi => ?_) nr) c
  have := hc i hi
  rw [List.getElem?_map] at this
  rw [Nat.zero_add, this, bytesOf_get s i hi, nth_get (by rw [bytesOf_length]; exact hi), List.getElem?_eq_getElem (by rw [bytesOf_length]; exact hi)]
  rfl
/-- the slice of byte segments: none, or one -/
def SegsOk (w : World) (bs : Value) : Prop := bs = .slice none 0 0 ∨ ∃ (b2 c2 I n : Nat) (xs : List Nat), bs = .slice (some ⟨b2, 0, none⟩) 1 c2 ∧ w.cell? ⟨b2, 0, none⟩ = some (.slice (some ⟨I, 0, none⟩) n n) ∧ b2 < w.heap.size ∧ Blk w I 5 (ints .u8 xs) ∧ xs.length = n ∧ n ≤ 1000
theorem SegsOk.below {w w' : World} {bs : Value} (h : SegsOk w bs) (hb : Below w.heap.size w w') : SegsOk w' bs := by
  rcases h with h | ⟨b2, c2, I, n, xs, h1, h2, h3, h4, h5⟩
  · exact .inl h
  · exact .inr ⟨b2, c2, I, n, xs, h1, (hb.cell (p := ⟨b2, 0, none⟩) h3).trans h2, Nat.lt_of_lt_of_le h3 hb.size, h4.below hb h4.lt, h5⟩
/-- the result: text and level -/
def ResOk (w : World) (Res Z N : Nat) (s : ByteArray) (l : Nat) : Prop := ∃ bs, Blk w Res 221 #[.slice (some ⟨Z, 0, none⟩) N N, .int .i64 (8 * (N : Int)), .string s, bs, .string (lvName l), .int .i64 0, .int .i64 0, .nilIface, .int .i64 (-1), .int .i64 (-1), .int .i64 1] ∧ SegsOk w bs
end Go.Proofs.YtcekbhhpcmhicaaGreatDoor
namespace Go.Proofs.YtcekbhhpcmhicaaGreatDoor
open Go.RowKit Go.QW Go.QI Go.QV
section
variable {w : World}
def rb50 : Array Value := ints .u8 (List.replicate 50 0)
theorem rb50_eq : rb50 = ints .u8 (List.replicate 50 0) := rfl
set_option maxHeartbeats 16000000 in
set_option maxRecDepth 100000 in
theorem parse_num {Z N V v l : Nat} {L : List Nat} {s : ByteArray} {t : List Bool} (hZ : Blk w Z 5 (ints .u8 L)) (hN : N = L.length) (hlt : ∀ i, nth L i < 256) (hlen : L.length ≤ 4000) (hV : Ver w V v) (hv : v ≤ 27) (hl4 : l < 4)
    (hH : HasEx L 0 (bitsOf 4 1 ++ (bitsOf (ccBits 1 v) s.size ++ (numSeg (bytesOf s) ++ t)))) (hn : s.size < 2 ^ ccBits 1 v) (h1 : 1 ≤ s.size) (h600 : s.size ≤ 1000) (hd : ∀ k, k < (bytesOf s).length → 48 ≤ nth (bytesOf s) k ∧ nth (bytesOf s) k ≤ 57) (ht : t.length < 4 ∨ ∃ r, t = bitsOf 4 0 ++ r) :
    Calls Tryz.prog 214 #[.slice (some ⟨Z, 0, none⟩) N N, .pointer (some ⟨V, 0, none⟩), .int .i64 l, .map none] w fun e w' => ∃ Res, e = .returned (.tuple #[.pointer (some ⟨Res, 0, none⟩), .nilIface]) ∧ ResOk w' Res Z N s l ∧ Below w.heap.size w w' := by
  have hmk50 : ∀ w : World, (Instr.makeSlice 30 (.int .i64 0) (.int .i64 50)).run Tryz.prog w = .ok (.slice (some ⟨w.heap.size, 0, none⟩) 0 50) (w.alloc (.cells rb50 5)) := fun _ => by kernel_rfl
  have hmk1 : ∀ w : World, (Instr.makeSlice 31 (.int .i64 0) (.int .i64 1)).run Tryz.prog w = .ok (.slice (some ⟨w.heap.size, 0, none⟩) 0 1) (w.alloc (.cells #[.slice none 0 0] 30)) := fun _ => by kernel_rfl
  have hvl : valAt L 0 4 = 1 := hH.left.val (by decide)
  have hr4 : 0 + 4 ≤ 8 * L.length := hH.left.room
  have hH2 := hH.right
  rw [bitsOf_length, Nat.zero_add] at hH2
  have hcc := ccBits_le 1 v
  have hvn : valAt L 4 (ccBits 1 v) = s.size := hH2.left.val hn
  have hrn : 4 + ccBits 1 v ≤ 8 * L.length := hH2.left.room
  have hH3 := hH2.right
  rw [bitsOf_length] at hH3
  obtain ⟨cb, hcb⟩ : ∃ cb, cb = ccBits 1 v := ⟨_, rfl⟩
  rw [← hcb] at hcc hvn hrn hH3
  have HCB := Lib.hid hcb
  have HVL := Lib.hid hvl
  have HVN := Lib.hid hvn
  have HA2 := Lib.hid hH3
  have HNL := Lib.hid hN
  have HDG := Lib.hid hd
  have HT := Lib.hid ht
  have HLT := Lib.hid hlt
  have hNl : N ≤ 4000 ∧ 4 + cb ≤ 8 * N := by omega
  clear hN hcb hvl hvn hH hH2 hH3 hd ht hlt
  go_enter Tryz.func214, Tryz.ntmps214
  go_wp2_with fail
  refine (newbs_any hZ HLT.out hlen N HNL.out).mono ?_
  rintro e w0 ⟨S, rfl, hB0, hb0, hS0⟩
  have hs0 := hb0.size
  have hV0 := hV.below hb0
  go_wp2_with fail
  clear hmk50 hmk1
  have hrbA := Blk.new w0 5 rb50
  have hbbA := Blk.new (w0.alloc (.cells rb50 5)) 30 #[.slice none 0 0]
  have hrbB := hrbA.alloc (.cells #[.slice none 0 0] 30)
  have hkA : Kp [] w0 ((w0.alloc (.cells rb50 5)).alloc (.cells #[.slice none 0 0] 30)) := ((Kp.refl [] w0).alloc _).alloc _
  have hw01 : Below w.heap.size w ((w0.alloc (.cells rb50 5)).alloc (.cells #[.slice none 0 0] 30)) := (hb0.alloc hs0 _).alloc (by rw [World.size_alloc]; omega) _
  rw [World.size_alloc] at hbbA
  obtain ⟨w1, hw1⟩ : ∃ w1, w1 = (w0.alloc (.cells rb50 5)).alloc (.cells #[.slice none 0 0] 30) := ⟨_, rfl⟩
  rw [← hw1] at hbbA hrbB hkA hw01 ⊢
  clear hw1 hrbA
  obtain ⟨rb, hrb⟩ : ∃ rb, rb = w0.heap.size := ⟨_, rfl⟩
  rw [← hrb] at hbbA hrbB ⊢
  obtain ⟨bb, hbb⟩ : ∃ bb, bb = rb + 1 := ⟨_, rfl⟩
  rw [← hbb] at hbbA ⊢
  have hB1 := hB0.kp hkA (by simp) (by simp)
  have hV1 := hV0.kp hkA (by intro k hk; simp at hk)
  have hgr : Z ≠ rb := by have := hB0.byt.lt; omega
  have hs01 := hw01.size
  have hSl0 := hB0.src.lt
  have hnew : w.heap.size ≤ S ∧ w.heap.size ≤ rb ∧ w.heap.size ≤ bb ∧ S < rb ∧ S < bb := by omega
  have hoffS : Off w1 [S] [3, 141, 201, 211] := by
    intro k hk t arr hb
    simp only [List.mem_cons, List.not_mem_nil, or_false] at hk
    subst hk
    rw [← Blk.ty hB1.src hb]; decide
  have hoff : Off w1 [S, rb, bb] [3, 141, 201, 211] := by
    intro k hk t arr hb
    simp only [List.mem_cons, List.not_mem_nil, or_false] at hk
    rcases hk with rfl | rfl | rfl
    · rw [← Blk.ty hB1.src hb]; decide
    · rw [← Blk.ty hrbB hb]; decide
    · rw [← Blk.ty hbbA hb]; decide
  clear hkA hrb hbb hB0 hV0 hb0 hS0
  refine wp_loop_rounds 2 ?_
  rw [rounds_succ]
  have dz : decide ((4 : Int) ≤ 4) = true := rfl
  have da1 : decide (((8 * L.length - 0 : Nat) : Int) < 4) = false := by simp; omega
  have da2 : decide (8 * L.length - 0 < 4) = false := by simp; omega
  go_wp2_with fail
  refine (avail_any hB1).mono ?_
  rintro e w2 ⟨rfl, nr, hw2⟩
  have hk2 : Kp [] w1 w2 := by rw [hw2]; exact (Kp.refl _ w1).drewN nr
  have hB2 := hB1.kp hk2 (by simp) (by simp)
  clear hw2
  go_wp2_with fail
  clear da1 da2
  refine (readbitsI_any 4 rfl hB2 (by omega) (by omega) hr4).mono ?_
  rintro e w3 ⟨rfl, hB3, hk3⟩
  rw [HVL.out]
  have hk13 : Kp [S] w1 w3 := (hk2.mono (by simp) : Kp [S] w1 w2).trans hk3 (by intro i hi _; exact hi)
  have hV3 := hV1.kp hk13 hoffS
  clear hk2 hk3 hB1 hB2
  go_wp2_with fail
  refine (modefb_any 1 (by omega) w3).mono ?_
  rintro e w3' ⟨rfl, rfl⟩
  go_wp2_with fail
  refine (cc_any 1 V v w3 hV3 (by omega) (by omega)).mono ?_
  rintro e w4 ⟨rfl, hb4⟩
  have hB4 := hB3.kp (Kp.of_below hb4 : Kp [] w3 w4) (by simp) (by simp)
  have hk14a : Kp [S] w1 w4 := hk13.trans (Kp.of_below hb4 : Kp [S] w3 w4) (by intro i hi _; exact hi)
  rw [← HCB.out]
  clear hb4 hB3 hk13 hV3
  go_wp2_with fail
  refine (readbitsI_any cb rfl hB4 (by omega) (by omega) (by omega)).mono ?_
  clear hB4
  rintro e w4a ⟨rfl, hB4, hk4⟩
  rw [show 0 + 4 = 4 by omega, HVN.out]
  rw [show 0 + 4 + cb = 4 + cb by omega] at hB4
  have hk14s : Kp [S] w1 w4a := hk14a.trans hk4 (by intro i hi _; exact hi)
  have hk14 : Kp [S, rb, bb] w1 w4a := hk14s.mono (by intro k hk _; simp at hk; simp [hk])
  have hrb4 := hrbB.kp hk14s (by simp; omega)
  rw [rb50_eq] at hrb4
  have hbb4 := hbbA.kp hk14s (by simp; omega)
  have hgr' : Z ≠ rb := hgr
  clear hk4 hk14a hk14s hrbB hbbA
  go_wp2_with fail
  refine (segNum_any (n := s.size) hB4 HA2.out HDG.out (bytesOf_length s).symm (by rw [bytesOf_length]; omega) hrb4 hgr).mono ?_
  rintro e w5 ⟨v5, q5, rfl, ⟨hown5, hB5, hk5, hvb5⟩, hH5⟩
  have hbb5 := hbb4.kp hk5 (by
    intro hS
    simp only [List.mem_cons, List.not_mem_nil, or_false] at hS
    rcases hS with hS | hS
    · subst hS; exact absurd (Blk.ty hbb4 hB4.src) (by decide)
    · subst hS; exact absurd (Blk.ty hbb4 hrb4) (by decide))
  have hsegs : SegsOk w5 (.slice none 0 0) := .inl rfl
  have hk15 := hk14.trans (hk5.mono (by intro k hk _; simp only [List.mem_cons, List.not_mem_nil, or_false] at hk ⊢; omega) : Kp [S, rb, bb] w4a w5) (by intro i hi _; exact hi)
  clear hrb4 hk14
  go_wp2_with fail
  rw [rounds_succ]
  rcases HT.out with ht4 | ⟨r, htr⟩
  · have hq := hH5.2
    have da1 : decide (((8 * L.length - q5 : Nat) : Int) < 4) = true := by simp; omega
    have da2 : decide (8 * L.length - q5 < 4) = true := by simp; omega
    clear hq ht4
    go_wp2_with fail
    refine (avail_any hB5).mono ?_
    rintro e w6 ⟨rfl, nr6, hw6⟩
    have hk6 : Kp [] w5 w6 := by rw [hw6]; exact (Kp.refl _ w5).drewN nr6
    have hown6 := ownsRow_kp hown5 hk6 (by simp)
    have hsegs6 : SegsOk w6 (.slice none 0 0) := hsegs.below hk6.below
    have hk16 : Kp [S, rb, bb] w1 w6 := hk15.trans (hk6.mono (by simp) : Kp [S, rb, bb] w5 w6) (by intro i hi _; exact hi)
    clear hw6 hk6 hown5 hsegs hk15 hB5
    go_wp2_with fail
    obtain ⟨b6, c6, hv6, hcv⟩ := conv_own hown6 (by omega)
    subst hv6
    refine wp_region_quiet_tail 9 (by kernel_rfl) (by kernel_rfl) ?_
    simp only [List.take_succ_cons, List.take_zero, List.drop_succ_cons, List.drop_zero]
    repeat (go_big_quiet_step (first | (go_at_call 254; exact (lvstr_any l hl4 _).mono (fun _ _ h => ⟨h.1, _, h.2.symm⟩))))
    refine wpQuiet_nil ?_
    intro _ hw''
    obtain ⟨nr, rfl⟩ := hw''
    clear hcv
    have hsegs7 : SegsOk (w6.drewN nr) (.slice none 0 0) := hsegs6
    have hk17 : Kp [S, rb, bb] w1 (w6.drewN nr) := hk16.trans ((Kp.refl _ w6).drewN nr) (by intro i hi _; exact hi)
    obtain ⟨w7, hw7⟩ : ∃ w7, w7 = w6.drewN nr := ⟨_, rfl⟩
    rw [← hw7] at hsegs7 hk17 ⊢
    clear hw7 hsegs6 hk16 hown6
    go_wp2_with fail
    refine (newres_any Z N (by omega) s (lvName l) _ _ _ (-1) (-1) 1 w7).mono ?_
    rintro e w8 ⟨Res, rfl, hRes, hb8, hRn⟩
    have hs7 := hk17.size
    go_wp2_with fail
    go_ret2
    exact ⟨Res, rfl, ⟨_, hRes, hsegs7.below hb8⟩, below_of_kp hw01 (hk17.trans (Kp.of_below hb8 : Kp [S, rb, bb] w7 w8) (by intro i hi _; exact hi)) hs01 (by intro k hk; simp at hk; omega)⟩
  · rw [htr] at hH5
    have hv0 : valAt L q5 4 = 0 := hH5.left.val (by decide)
    have hr5 : q5 + 4 ≤ 8 * L.length := hH5.left.room
    have da1 : decide (((8 * L.length - q5 : Nat) : Int) < 4) = false := by simp; omega
    have da2 : decide (8 * L.length - q5 < 4) = false := by simp; omega
    have HV0 := Lib.hid hv0
    clear htr hH5 hv0
    go_wp2_with fail
    refine (avail_any hB5).mono ?_
    rintro e w6a ⟨rfl, nr6, hw6⟩
    have hk6a : Kp [] w5 w6a := by rw [hw6]; exact (Kp.refl _ w5).drewN nr6
    have hB6a := hB5.kp hk6a (by simp) (by simp)
    clear hw6
    go_wp2_with fail
    clear da1 da2
    refine (readbitsI_any 4 rfl hB6a (by omega) (by omega) hr5).mono ?_
    rintro e w6 ⟨rfl, hB6, hk6b⟩
    rw [HV0.out]
    have hk6 : Kp [S] w5 w6 := (hk6a.mono (by simp) : Kp [S] w5 w6a).trans hk6b (by intro i hi _; exact hi)
    have hnS : S ∉ v5.ownBlock.toList := own_ne hown5 hB5.src (by decide)
    have hown6 := ownsRow_kp hown5 hk6 (fun k hk' hS => hnS (by rw [hk']; simp only [List.mem_cons, List.not_mem_nil, or_false] at hS; simp [hS]))
    have hsegs6 : SegsOk w6 (.slice none 0 0) := .inl rfl
    have hk16 : Kp [S, rb, bb] w1 w6 := hk15.trans hk6 (by intro i hi _; simp at hi; simp [hi])
    clear hk6 hk6a hk6b hown5 hsegs hk15 hB5 hB6a
    go_wp2_with fail
    refine (modefb_any 0 (by omega) w6).mono ?_
    rintro e w6' ⟨rfl, rfl⟩
    go_wp2_with fail
    obtain ⟨b6, c6, hv6, hcv⟩ := conv_own hown6 (by omega)
    subst hv6
    refine wp_region_quiet_tail 9 (by kernel_rfl) (by kernel_rfl) ?_
    simp only [List.take_succ_cons, List.take_zero, List.drop_succ_cons, List.drop_zero]
    repeat (go_big_quiet_step (first | (go_at_call 254; exact (lvstr_any l hl4 _).mono (fun _ _ h => ⟨h.1, _, h.2.symm⟩))))
    refine wpQuiet_nil ?_
    intro _ hw''
    obtain ⟨nr, rfl⟩ := hw''
    clear hcv
    have hsegs7 : SegsOk (w6.drewN nr) (.slice none 0 0) := hsegs6
    have hk17 : Kp [S, rb, bb] w1 (w6.drewN nr) := hk16.trans ((Kp.refl _ w6).drewN nr) (by intro i hi _; exact hi)
    obtain ⟨w7, hw7⟩ : ∃ w7, w7 = w6.drewN nr := ⟨_, rfl⟩
    rw [← hw7] at hsegs7 hk17 ⊢
    clear hw7 hsegs6 hk16 hown6
    go_wp2_with fail
    refine (newres_any Z N (by omega) s (lvName l) _ _ _ (-1) (-1) 1 w7).mono ?_
    rintro e w8 ⟨Res, rfl, hRes, hb8, hRn⟩
    have hs7 := hk17.size
    go_wp2_with fail
    go_ret2
    exact ⟨Res, rfl, ⟨_, hRes, hsegs7.below hb8⟩, below_of_kp hw01 (hk17.trans (Kp.of_below hb8 : Kp [S, rb, bb] w7 w8) (by intro i hi _; exact hi)) hs01 (by intro k hk; simp at hk; omega)⟩
end
end Go.Proofs.YtcekbhhpcmhicaaGreatDoor
namespace Go.Proofs.YtcekbhhpcmhicaaGreatDoor
open Go.RowKit Go.QW Go.QI Go.QV
section
variable {w : World}
set_option maxHeartbeats 16000000 in
set_option maxRecDepth 100000 in
theorem parse_al {Z N V v l : Nat} {L : List Nat} {s : ByteArray} {t : List Bool} (hZ : Blk w Z 5 (ints .u8 L)) (hN : N = L.length) (hlt : ∀ i, nth L i < 256) (hlen : L.length ≤ 4000) (hV : Ver w V v) (hv : v ≤ 27) (hl4 : l < 4)
    (hH : HasEx L 0 (bitsOf 4 2 ++ (bitsOf (ccBits 2 v) s.size ++ (alSeg (bytesOf s) ++ t)))) (hn : s.size < 2 ^ ccBits 2 v) (h1 : 1 ≤ s.size) (h600 : s.size ≤ 1000) (hd : ∀ k, k < (bytesOf s).length → 0 ≤ alCode (nth (bytesOf s) k)) (ht : t.length < 4 ∨ ∃ r, t = bitsOf 4 0 ++ r) :
    Calls Tryz.prog 214 #[.slice (some ⟨Z, 0, none⟩) N N, .pointer (some ⟨V, 0, none⟩), .int .i64 l, .map none] w fun e w' => ∃ Res, e = .returned (.tuple #[.pointer (some ⟨Res, 0, none⟩), .nilIface]) ∧ ResOk w' Res Z N s l ∧ Below w.heap.size w w' := by
  have hmk50 : ∀ w : World, (Instr.makeSlice 30 (.int .i64 0) (.int .i64 50)).run Tryz.prog w = .ok (.slice (some ⟨w.heap.size, 0, none⟩) 0 50) (w.alloc (.cells rb50 5)) := fun _ => by kernel_rfl
  have hmk1 : ∀ w : World, (Instr.makeSlice 31 (.int .i64 0) (.int .i64 1)).run Tryz.prog w = .ok (.slice (some ⟨w.heap.size, 0, none⟩) 0 1) (w.alloc (.cells #[.slice none 0 0] 30)) := fun _ => by kernel_rfl
  have hvl : valAt L 0 4 = 2 := hH.left.val (by decide)
  have hr4 : 0 + 4 ≤ 8 * L.length := hH.left.room
  have hH2 := hH.right
  rw [bitsOf_length, Nat.zero_add] at hH2
  have hcc := ccBits_le 2 v
  have hvn : valAt L 4 (ccBits 2 v) = s.size := hH2.left.val hn
  have hrn : 4 + ccBits 2 v ≤ 8 * L.length := hH2.left.room
  have hH3 := hH2.right
  rw [bitsOf_length] at hH3
  obtain ⟨cb, hcb⟩ : ∃ cb, cb = ccBits 2 v := ⟨_, rfl⟩
  rw [← hcb] at hcc hvn hrn hH3
  have HCB := Lib.hid hcb
  have HVL := Lib.hid hvl
  have HVN := Lib.hid hvn
  have HA2 := Lib.hid hH3
  have HNL := Lib.hid hN
  have HDG := Lib.hid hd
  have HT := Lib.hid ht
  have HLT := Lib.hid hlt
  have hNl : N ≤ 4000 ∧ 4 + cb ≤ 8 * N := by omega
  clear hN hcb hvl hvn hH hH2 hH3 hd ht hlt
  go_enter Tryz.func214, Tryz.ntmps214
  go_wp2_with fail
  refine (newbs_any hZ HLT.out hlen N HNL.out).mono ?_
  rintro e w0 ⟨S, rfl, hB0, hb0, hS0⟩
  have hs0 := hb0.size
  have hV0 := hV.below hb0
  go_wp2_with fail
  clear hmk50 hmk1
  have hrbA := Blk.new w0 5 rb50
  have hbbA := Blk.new (w0.alloc (.cells rb50 5)) 30 #[.slice none 0 0]
  have hrbB := hrbA.alloc (.cells #[.slice none 0 0] 30)
  have hkA : Kp [] w0 ((w0.alloc (.cells rb50 5)).alloc (.cells #[.slice none 0 0] 30)) := ((Kp.refl [] w0).alloc _).alloc _
  have hw01 : Below w.heap.size w ((w0.alloc (.cells rb50 5)).alloc (.cells #[.slice none 0 0] 30)) := (hb0.alloc hs0 _).alloc (by rw [World.size_alloc]; omega) _
  rw [World.size_alloc] at hbbA
  obtain ⟨w1, hw1⟩ : ∃ w1, w1 = (w0.alloc (.cells rb50 5)).alloc (.cells #[.slice none 0 0] 30) := ⟨_, rfl⟩
  rw [← hw1] at hbbA hrbB hkA hw01 ⊢
  clear hw1 hrbA
  obtain ⟨rb, hrb⟩ : ∃ rb, rb = w0.heap.size := ⟨_, rfl⟩
  rw [← hrb] at hbbA hrbB ⊢
  obtain ⟨bb, hbb⟩ : ∃ bb, bb = rb + 1 := ⟨_, rfl⟩
  rw [← hbb] at hbbA ⊢
  have hB1 := hB0.kp hkA (by simp) (by simp)
  have hV1 := hV0.kp hkA (by intro k hk; simp at hk)
  have hgr : Z ≠ rb := by have := hB0.byt.lt; omega
  have hs01 := hw01.size
  have hSl0 := hB0.src.lt
  have hnew : w.heap.size ≤ S ∧ w.heap.size ≤ rb ∧ w.heap.size ≤ bb ∧ S < rb ∧ S < bb := by omega
  have hoffS : Off w1 [S] [3, 141, 201, 211] := by
    intro k hk t arr hb
    simp only [List.mem_cons, List.not_mem_nil, or_false] at hk
    subst hk
    rw [← Blk.ty hB1.src hb]; decide
  have hoff : Off w1 [S, rb, bb] [3, 141, 201, 211] := by
    intro k hk t arr hb
    simp only [List.mem_cons, List.not_mem_nil, or_false] at hk
    rcases hk with rfl | rfl | rfl
    · rw [← Blk.ty hB1.src hb]; decide
    · rw [← Blk.ty hrbB hb]; decide
    · rw [← Blk.ty hbbA hb]; decide
  clear hkA hrb hbb hB0 hV0 hb0 hS0
  refine wp_loop_rounds 2 ?_
  rw [rounds_succ]
  have dz : decide ((4 : Int) ≤ 4) = true := rfl
  have da1 : decide (((8 * L.length - 0 : Nat) : Int) < 4) = false := by simp; omega
  have da2 : decide (8 * L.length - 0 < 4) = false := by simp; omega
  go_wp2_with fail
  refine (avail_any hB1).mono ?_
  rintro e w2 ⟨rfl, nr, hw2⟩
  have hk2 : Kp [] w1 w2 := by rw [hw2]; exact (Kp.refl _ w1).drewN nr
  have hB2 := hB1.kp hk2 (by simp) (by simp)
  clear hw2
  go_wp2_with fail
  clear da1 da2
  refine (readbitsI_any 4 rfl hB2 (by omega) (by omega) hr4).mono ?_
  rintro e w3 ⟨rfl, hB3, hk3⟩
  rw [HVL.out]
  have hk13 : Kp [S] w1 w3 := (hk2.mono (by simp) : Kp [S] w1 w2).trans hk3 (by intro i hi _; exact hi)
  have hV3 := hV1.kp hk13 hoffS
  clear hk2 hk3 hB1 hB2
  go_wp2_with fail
  refine (modefb_any 2 (by omega) w3).mono ?_
  rintro e w3' ⟨rfl, rfl⟩
  go_wp2_with fail
  refine (cc_any 2 V v w3 hV3 (by omega) (by omega)).mono ?_
  rintro e w4 ⟨rfl, hb4⟩
  have hB4 := hB3.kp (Kp.of_below hb4 : Kp [] w3 w4) (by simp) (by simp)
  have hk14a : Kp [S] w1 w4 := hk13.trans (Kp.of_below hb4 : Kp [S] w3 w4) (by intro i hi _; exact hi)
  rw [← HCB.out]
  clear hb4 hB3 hk13 hV3
  go_wp2_with fail
  refine (readbitsI_any cb rfl hB4 (by omega) (by omega) (by omega)).mono ?_
  clear hB4
  rintro e w4a ⟨rfl, hB4, hk4⟩
  rw [show 0 + 4 = 4 by omega, HVN.out]
  rw [show 0 + 4 + cb = 4 + cb by omega] at hB4
  have hk14s : Kp [S] w1 w4a := hk14a.trans hk4 (by intro i hi _; exact hi)
  have hk14 : Kp [S, rb, bb] w1 w4a := hk14s.mono (by intro k hk _; simp at hk; simp [hk])
  have hrb4 := hrbB.kp hk14s (by simp; omega)
  rw [rb50_eq] at hrb4
  have hbb4 := hbbA.kp hk14s (by simp; omega)
  have hgr' : Z ≠ rb := hgr
  clear hk4 hk14a hk14s hrbB hbbA
  go_wp2_with fail
  refine (segAl_any (n := s.size) hB4 HA2.out HDG.out (bytesOf_length s).symm (by rw [bytesOf_length]; omega) hrb4 hgr).mono ?_
  rintro e w5 ⟨v5, q5, rfl, ⟨hown5, hB5, hk5, hvb5⟩, hH5⟩
  have hbb5 := hbb4.kp hk5 (by
    intro hS
    simp only [List.mem_cons, List.not_mem_nil, or_false] at hS
    rcases hS with hS | hS
    · subst hS; exact absurd (Blk.ty hbb4 hB4.src) (by decide)
    · subst hS; exact absurd (Blk.ty hbb4 hrb4) (by decide))
  have hsegs : SegsOk w5 (.slice none 0 0) := .inl rfl
  have hk15 := hk14.trans (hk5.mono (by intro k hk _; simp only [List.mem_cons, List.not_mem_nil, or_false] at hk ⊢; omega) : Kp [S, rb, bb] w4a w5) (by intro i hi _; exact hi)
  clear hrb4 hk14
  go_wp2_with fail
  rw [rounds_succ]
  rcases HT.out with ht4 | ⟨r, htr⟩
  · have hq := hH5.2
    have da1 : decide (((8 * L.length - q5 : Nat) : Int) < 4) = true := by simp; omega
    have da2 : decide (8 * L.length - q5 < 4) = true := by simp; omega
    clear hq ht4
    go_wp2_with fail
    refine (avail_any hB5).mono ?_
    rintro e w6 ⟨rfl, nr6, hw6⟩
    have hk6 : Kp [] w5 w6 := by rw [hw6]; exact (Kp.refl _ w5).drewN nr6
    have hown6 := ownsRow_kp hown5 hk6 (by simp)
    have hsegs6 : SegsOk w6 (.slice none 0 0) := hsegs.below hk6.below
    have hk16 : Kp [S, rb, bb] w1 w6 := hk15.trans (hk6.mono (by simp) : Kp [S, rb, bb] w5 w6) (by intro i hi _; exact hi)
    clear hw6 hk6 hown5 hsegs hk15 hB5
    go_wp2_with fail
    obtain ⟨b6, c6, hv6, hcv⟩ := conv_own hown6 (by omega)
    subst hv6
    refine wp_region_quiet_tail 9 (by kernel_rfl) (by kernel_rfl) ?_
    simp only [List.take_succ_cons, List.take_zero, List.drop_succ_cons, List.drop_zero]
    repeat (go_big_quiet_step (first | (go_at_call 254; exact (lvstr_any l hl4 _).mono (fun _ _ h => ⟨h.1, _, h.2.symm⟩))))
    refine wpQuiet_nil ?_
    intro _ hw''
    obtain ⟨nr, rfl⟩ := hw''
    clear hcv
    have hsegs7 : SegsOk (w6.drewN nr) (.slice none 0 0) := hsegs6
    have hk17 : Kp [S, rb, bb] w1 (w6.drewN nr) := hk16.trans ((Kp.refl _ w6).drewN nr) (by intro i hi _; exact hi)
    obtain ⟨w7, hw7⟩ : ∃ w7, w7 = w6.drewN nr := ⟨_, rfl⟩
    rw [← hw7] at hsegs7 hk17 ⊢
    clear hw7 hsegs6 hk16 hown6
    go_wp2_with fail
    refine (newres_any Z N (by omega) s (lvName l) _ _ _ (-1) (-1) 1 w7).mono ?_
    rintro e w8 ⟨Res, rfl, hRes, hb8, hRn⟩
    have hs7 := hk17.size
    go_wp2_with fail
    go_ret2
    exact ⟨Res, rfl, ⟨_, hRes, hsegs7.below hb8⟩, below_of_kp hw01 (hk17.trans (Kp.of_below hb8 : Kp [S, rb, bb] w7 w8) (by intro i hi _; exact hi)) hs01 (by intro k hk; simp at hk; omega)⟩
  · rw [htr] at hH5
    have hv0 : valAt L q5 4 = 0 := hH5.left.val (by decide)
    have hr5 : q5 + 4 ≤ 8 * L.length := hH5.left.room
    have da1 : decide (((8 * L.length - q5 : Nat) : Int) < 4) = false := by simp; omega
    have da2 : decide (8 * L.length - q5 < 4) = false := by simp; omega
    have HV0 := Lib.hid hv0
    clear htr hH5 hv0
    go_wp2_with fail
    refine (avail_any hB5).mono ?_
    rintro e w6a ⟨rfl, nr6, hw6⟩
    have hk6a : Kp [] w5 w6a := by rw [hw6]; exact (Kp.refl _ w5).drewN nr6
    have hB6a := hB5.kp hk6a (by simp) (by simp)
    clear hw6
    go_wp2_with fail
    clear da1 da2
    refine (readbitsI_any 4 rfl hB6a (by omega) (by omega) hr5).mono ?_
    rintro e w6 ⟨rfl, hB6, hk6b⟩
    rw [HV0.out]
    have hk6 : Kp [S] w5 w6 := (hk6a.mono (by simp) : Kp [S] w5 w6a).trans hk6b (by intro i hi _; exact hi)
    have hnS : S ∉ v5.ownBlock.toList := own_ne hown5 hB5.src (by decide)
    have hown6 := ownsRow_kp hown5 hk6 (fun k hk' hS => hnS (by rw [hk']; simp only [List.mem_cons, List.not_mem_nil, or_false] at hS; simp [hS]))
    have hsegs6 : SegsOk w6 (.slice none 0 0) := .inl rfl
    have hk16 : Kp [S, rb, bb] w1 w6 := hk15.trans hk6 (by intro i hi _; simp at hi; simp [hi])
    clear hk6 hk6a hk6b hown5 hsegs hk15 hB5 hB6a
    go_wp2_with fail
    refine (modefb_any 0 (by omega) w6).mono ?_
    rintro e w6' ⟨rfl, rfl⟩
    go_wp2_with fail
    obtain ⟨b6, c6, hv6, hcv⟩ := conv_own hown6 (by omega)
    subst hv6
    refine wp_region_quiet_tail 9 (by kernel_rfl) (by kernel_rfl) ?_
    simp only [List.take_succ_cons, List.take_zero, List.drop_succ_cons, List.drop_zero]
    repeat (go_big_quiet_step (first | (go_at_call 254; exact (lvstr_any l hl4 _).mono (fun _ _ h => ⟨h.1, _, h.2.symm⟩))))
    refine wpQuiet_nil ?_
    intro _ hw''
    obtain ⟨nr, rfl⟩ := hw''
    clear hcv
    have hsegs7 : SegsOk (w6.drewN nr) (.slice none 0 0) := hsegs6
    have hk17 : Kp [S, rb, bb] w1 (w6.drewN nr) := hk16.trans ((Kp.refl _ w6).drewN nr) (by intro i hi _; exact hi)
    obtain ⟨w7, hw7⟩ : ∃ w7, w7 = w6.drewN nr := ⟨_, rfl⟩
    rw [← hw7] at hsegs7 hk17 ⊢
    clear hw7 hsegs6 hk16 hown6
    go_wp2_with fail
    refine (newres_any Z N (by omega) s (lvName l) _ _ _ (-1) (-1) 1 w7).mono ?_
    rintro e w8 ⟨Res, rfl, hRes, hb8, hRn⟩
    have hs7 := hk17.size
    go_wp2_with fail
    go_ret2
    exact ⟨Res, rfl, ⟨_, hRes, hsegs7.below hb8⟩, below_of_kp hw01 (hk17.trans (Kp.of_below hb8 : Kp [S, rb, bb] w7 w8) (by intro i hi _; exact hi)) hs01 (by intro k hk; simp at hk; omega)⟩
end
end Go.Proofs.YtcekbhhpcmhicaaGreatDoor
namespace Go.Proofs.YtcekbhhpcmhicaaGreatDoor
open Go.RowKit Go.QW Go.QI Go.QV
section
variable {w : World}
set_option maxHeartbeats 16000000 in
set_option maxRecDepth 100000 in
theorem parse_by {Z N V v l : Nat} {L : List Nat} {s : ByteArray} {t : List Bool} (hZ : Blk w Z 5 (ints .u8 L)) (hN : N = L.length) (hlt : ∀ i, nth L i < 256) (hlen : L.length ≤ 4000) (hV : Ver w V v) (hv : v ≤ 27) (hl4 : l < 4)
    (hH : HasEx L 0 (bitsOf 4 4 ++ (bitsOf (ccBits 4 v) s.size ++ ((bytesOf s).flatMap (bitsOf 8) ++ t)))) (hn : s.size < 2 ^ ccBits 4 v) (h1 : 1 ≤ s.size) (h600 : s.size ≤ 1000) (hd : ∀ k, nth (bytesOf s) k < 256) (ht : t.length < 4 ∨ ∃ r, t = bitsOf 4 0 ++ r) :
    Calls Tryz.prog 214 #[.slice (some ⟨Z, 0, none⟩) N N, .pointer (some ⟨V, 0, none⟩), .int .i64 l, .map none] w fun e w' => ∃ Res, e = .returned (.tuple #[.pointer (some ⟨Res, 0, none⟩), .nilIface]) ∧ ResOk w' Res Z N s l ∧ Below w.heap.size w w' := by
  have hmk50 : ∀ w : World, (Instr.makeSlice 30 (.int .i64 0) (.int .i64 50)).run Tryz.prog w = .ok (.slice (some ⟨w.heap.size, 0, none⟩) 0 50) (w.alloc (.cells rb50 5)) := fun _ => by kernel_rfl
  have hmk1 : ∀ w : World, (Instr.makeSlice 31 (.int .i64 0) (.int .i64 1)).run Tryz.prog w = .ok (.slice (some ⟨w.heap.size, 0, none⟩) 0 1) (w.alloc (.cells #[.slice none 0 0] 30)) := fun _ => by kernel_rfl
  have hvl : valAt L 0 4 = 4 := hH.left.val (by decide)
  have hr4 : 0 + 4 ≤ 8 * L.length := hH.left.room
  have hH2 := hH.right
  rw [bitsOf_length, Nat.zero_add] at hH2
  have hcc := ccBits_le 4 v
  have hvn : valAt L 4 (ccBits 4 v) = s.size := hH2.left.val hn
  have hrn : 4 + ccBits 4 v ≤ 8 * L.length := hH2.left.room
  have hH3 := hH2.right
  rw [bitsOf_length] at hH3
  obtain ⟨cb, hcb⟩ : ∃ cb, cb = ccBits 4 v := ⟨_, rfl⟩
  rw [← hcb] at hcc hvn hrn hH3
  have HCB := Lib.hid hcb
  have HVL := Lib.hid hvl
  have HVN := Lib.hid hvn
  have HA2 := Lib.hid hH3
  have HNL := Lib.hid hN
  have HDG := Lib.hid hd
  have HT := Lib.hid ht
  have HLT := Lib.hid hlt
  have hNl : N ≤ 4000 ∧ 4 + cb ≤ 8 * N := by omega
  clear hN hcb hvl hvn hH hH2 hH3 hd ht hlt
  go_enter Tryz.func214, Tryz.ntmps214
  go_wp2_with fail
  refine (newbs_any hZ HLT.out hlen N HNL.out).mono ?_
  rintro e w0 ⟨S, rfl, hB0, hb0, hS0⟩
  have hs0 := hb0.size
  have hV0 := hV.below hb0
  go_wp2_with fail
  clear hmk50 hmk1
  have hrbA := Blk.new w0 5 rb50
  have hbbA := Blk.new (w0.alloc (.cells rb50 5)) 30 #[.slice none 0 0]
  have hrbB := hrbA.alloc (.cells #[.slice none 0 0] 30)
  have hkA : Kp [] w0 ((w0.alloc (.cells rb50 5)).alloc (.cells #[.slice none 0 0] 30)) := ((Kp.refl [] w0).alloc _).alloc _
  have hw01 : Below w.heap.size w ((w0.alloc (.cells rb50 5)).alloc (.cells #[.slice none 0 0] 30)) := (hb0.alloc hs0 _).alloc (by rw [World.size_alloc]; omega) _
  rw [World.size_alloc] at hbbA
  obtain ⟨w1, hw1⟩ : ∃ w1, w1 = (w0.alloc (.cells rb50 5)).alloc (.cells #[.slice none 0 0] 30) := ⟨_, rfl⟩
  rw [← hw1] at hbbA hrbB hkA hw01 ⊢
  clear hw1 hrbA
  obtain ⟨rb, hrb⟩ : ∃ rb, rb = w0.heap.size := ⟨_, rfl⟩
  rw [← hrb] at hbbA hrbB ⊢
  obtain ⟨bb, hbb⟩ : ∃ bb, bb = rb + 1 := ⟨_, rfl⟩
  rw [← hbb] at hbbA ⊢
  have hB1 := hB0.kp hkA (by simp) (by simp)
  have hV1 := hV0.kp hkA (by intro k hk; simp at hk)
  have hgr : Z ≠ rb := by have := hB0.byt.lt; omega
  have hs01 := hw01.size
  have hSl0 := hB0.src.lt
  have hnew : w.heap.size ≤ S ∧ w.heap.size ≤ rb ∧ w.heap.size ≤ bb ∧ S < rb ∧ S < bb := by omega
  have hoffS : Off w1 [S] [3, 141, 201, 211] := by
    intro k hk t arr hb
    simp only [List.mem_cons, List.not_mem_nil, or_false] at hk
    subst hk
    rw [← Blk.ty hB1.src hb]; decide
  have hoff : Off w1 [S, rb, bb] [3, 141, 201, 211] := by
    intro k hk t arr hb
    simp only [List.mem_cons, List.not_mem_nil, or_false] at hk
    rcases hk with rfl | rfl | rfl
    · rw [← Blk.ty hB1.src hb]; decide
    · rw [← Blk.ty hrbB hb]; decide
    · rw [← Blk.ty hbbA hb]; decide
  clear hkA hrb hbb hB0 hV0 hb0 hS0
  refine wp_loop_rounds 2 ?_
  rw [rounds_succ]
  have dz : decide ((4 : Int) ≤ 4) = true := rfl
  have da1 : decide (((8 * L.length - 0 : Nat) : Int) < 4) = false := by simp; omega
  have da2 : decide (8 * L.length - 0 < 4) = false := by simp; omega
  go_wp2_with fail
  refine (avail_any hB1).mono ?_
  rintro e w2 ⟨rfl, nr, hw2⟩
  have hk2 : Kp [] w1 w2 := by rw [hw2]; exact (Kp.refl _ w1).drewN nr
  have hB2 := hB1.kp hk2 (by simp) (by simp)
  clear hw2
  go_wp2_with fail
  clear da1 da2
  refine (readbitsI_any 4 rfl hB2 (by omega) (by omega) hr4).mono ?_
  rintro e w3 ⟨rfl, hB3, hk3⟩
  rw [HVL.out]
  have hk13 : Kp [S] w1 w3 := (hk2.mono (by simp) : Kp [S] w1 w2).trans hk3 (by intro i hi _; exact hi)
  have hV3 := hV1.kp hk13 hoffS
  clear hk2 hk3 hB1 hB2
  go_wp2_with fail
  refine (modefb_any 4 (by omega) w3).mono ?_
  rintro e w3' ⟨rfl, rfl⟩
  go_wp2_with fail
  refine (cc_any 4 V v w3 hV3 (by omega) (by omega)).mono ?_
  rintro e w4 ⟨rfl, hb4⟩
  have hB4 := hB3.kp (Kp.of_below hb4 : Kp [] w3 w4) (by simp) (by simp)
  have hk14a : Kp [S] w1 w4 := hk13.trans (Kp.of_below hb4 : Kp [S] w3 w4) (by intro i hi _; exact hi)
  rw [← HCB.out]
  clear hb4 hB3 hk13 hV3
  go_wp2_with fail
  refine (readbitsI_any cb rfl hB4 (by omega) (by omega) (by omega)).mono ?_
  clear hB4
  rintro e w4a ⟨rfl, hB4, hk4⟩
  rw [show 0 + 4 = 4 by omega, HVN.out]
  rw [show 0 + 4 + cb = 4 + cb by omega] at hB4
  have hk14s : Kp [S] w1 w4a := hk14a.trans hk4 (by intro i hi _; exact hi)
  have hk14 : Kp [S, rb, bb] w1 w4a := hk14s.mono (by intro k hk _; simp at hk; simp [hk])
  have hrb4 := hrbB.kp hk14s (by simp; omega)
  rw [rb50_eq] at hrb4
  have hbb4 := hbbA.kp hk14s (by simp; omega)
  have hgr' : Z ≠ rb := hgr
  clear hk4 hk14a hk14s hrbB hbbA
  go_wp2_with fail
  refine (segBy_any (n := s.size) hB4 HA2.out HDG.out (bytesOf_length s).symm (by rw [bytesOf_length]; omega) hrb4 hgr hbb4).mono ?_
  rintro e w5 ⟨v5, q5, b2, c2, I, rfl, hown5, hB5, hH5, hk5, hvb5, hc2, hb2l, hI5, hb2n, hIn⟩
  have hsegs : SegsOk w5 (.slice (some ⟨b2, 0, none⟩) 1 c2) := .inr ⟨b2, c2, I, _, _, rfl, hc2, hb2l, hI5, rfl, by rw [bytesOf_length]; omega⟩
  have hS4 := hB4.src.lt
  have HC2 := Lib.hid (And.intro hc2 (And.intro hb2l (And.intro (show b2 ≠ S by omega) (And.intro hI5 (show I ≠ S by omega)))))
  clear hc2 hb2l hI5 hb2n hIn
  have hk15 := hk14.trans hk5 (by intro i hi _; exact hi)
  clear hrb4 hk14
  go_wp2_with fail
  rw [rounds_succ]
  rcases HT.out with ht4 | ⟨r, htr⟩
  · have hq := hH5.2
    have da1 : decide (((8 * L.length - q5 : Nat) : Int) < 4) = true := by simp; omega
    have da2 : decide (8 * L.length - q5 < 4) = true := by simp; omega
    clear hq ht4
    go_wp2_with fail
    refine (avail_any hB5).mono ?_
    rintro e w6 ⟨rfl, nr6, hw6⟩
    have hk6 : Kp [] w5 w6 := by rw [hw6]; exact (Kp.refl _ w5).drewN nr6
    have hown6 := ownsRow_kp hown5 hk6 (by simp)
    have hsegs6 : SegsOk w6 (.slice (some ⟨b2, 0, none⟩) 1 c2) := hsegs.below hk6.below
    have hk16 : Kp [S, rb, bb] w1 w6 := hk15.trans (hk6.mono (by simp) : Kp [S, rb, bb] w5 w6) (by intro i hi _; exact hi)
    clear hw6 hk6 hown5 hsegs hk15 hB5
    go_wp2_with fail
    obtain ⟨b6, c6, hv6, hcv⟩ := conv_own hown6 (by omega)
    subst hv6
    refine wp_region_quiet_tail 9 (by kernel_rfl) (by kernel_rfl) ?_
    simp only [List.take_succ_cons, List.take_zero, List.drop_succ_cons, List.drop_zero]
    repeat (go_big_quiet_step (first | (go_at_call 254; exact (lvstr_any l hl4 _).mono (fun _ _ h => ⟨h.1, _, h.2.symm⟩))))
    refine wpQuiet_nil ?_
    intro _ hw''
    obtain ⟨nr, rfl⟩ := hw''
    clear hcv
    have hsegs7 : SegsOk (w6.drewN nr) (.slice (some ⟨b2, 0, none⟩) 1 c2) := hsegs6
    have hk17 : Kp [S, rb, bb] w1 (w6.drewN nr) := hk16.trans ((Kp.refl _ w6).drewN nr) (by intro i hi _; exact hi)
    obtain ⟨w7, hw7⟩ : ∃ w7, w7 = w6.drewN nr := ⟨_, rfl⟩
    rw [← hw7] at hsegs7 hk17 ⊢
    clear hw7 hsegs6 hk16 hown6
    go_wp2_with fail
    refine (newres_any Z N (by omega) s (lvName l) _ _ _ (-1) (-1) 1 w7).mono ?_
    rintro e w8 ⟨Res, rfl, hRes, hb8, hRn⟩
    have hs7 := hk17.size
    go_wp2_with fail
    go_ret2
    exact ⟨Res, rfl, ⟨_, hRes, hsegs7.below hb8⟩, below_of_kp hw01 (hk17.trans (Kp.of_below hb8 : Kp [S, rb, bb] w7 w8) (by intro i hi _; exact hi)) hs01 (by intro k hk; simp at hk; omega)⟩
  · rw [htr] at hH5
    have hv0 : valAt L q5 4 = 0 := hH5.left.val (by decide)
    have hr5 : q5 + 4 ≤ 8 * L.length := hH5.left.room
    have da1 : decide (((8 * L.length - q5 : Nat) : Int) < 4) = false := by simp; omega
    have da2 : decide (8 * L.length - q5 < 4) = false := by simp; omega
    have HV0 := Lib.hid hv0
    clear htr hH5 hv0
    go_wp2_with fail
    refine (avail_any hB5).mono ?_
    rintro e w6a ⟨rfl, nr6, hw6⟩
    have hk6a : Kp [] w5 w6a := by rw [hw6]; exact (Kp.refl _ w5).drewN nr6
    have hB6a := hB5.kp hk6a (by simp) (by simp)
    clear hw6
    go_wp2_with fail
    clear da1 da2
    refine (readbitsI_any 4 rfl hB6a (by omega) (by omega) hr5).mono ?_
    rintro e w6 ⟨rfl, hB6, hk6b⟩
    rw [HV0.out]
    have hk6 : Kp [S] w5 w6 := (hk6a.mono (by simp) : Kp [S] w5 w6a).trans hk6b (by intro i hi _; exact hi)
    have hnS : S ∉ v5.ownBlock.toList := own_ne hown5 hB5.src (by decide)
    have hown6 := ownsRow_kp hown5 hk6 (fun k hk' hS => hnS (by rw [hk']; simp only [List.mem_cons, List.not_mem_nil, or_false] at hS; simp [hS]))
    have hsegs6 : SegsOk w6 (.slice (some ⟨b2, 0, none⟩) 1 c2) := .inr ⟨b2, c2, I, _, _, rfl, (hk6.cell (p := ⟨b2, 0, none⟩) HC2.out.2.1 (by simpa using HC2.out.2.2.1)).trans HC2.out.1, Nat.lt_of_lt_of_le HC2.out.2.1 hk6.size, HC2.out.2.2.2.1.kp hk6 (by simpa using HC2.out.2.2.2.2), rfl, by rw [bytesOf_length]; omega⟩
    have hk16 : Kp [S, rb, bb] w1 w6 := hk15.trans hk6 (by intro i hi _; simp at hi; simp [hi])
    clear hk6 hk6a hk6b hown5 hsegs hk15 hB5 hB6a
    go_wp2_with fail
    refine (modefb_any 0 (by omega) w6).mono ?_
    rintro e w6' ⟨rfl, rfl⟩
    go_wp2_with fail
    obtain ⟨b6, c6, hv6, hcv⟩ := conv_own hown6 (by omega)
    subst hv6
    refine wp_region_quiet_tail 9 (by kernel_rfl) (by kernel_rfl) ?_
    simp only [List.take_succ_cons, List.take_zero, List.drop_succ_cons, List.drop_zero]
    repeat (go_big_quiet_step (first | (go_at_call 254; exact (lvstr_any l hl4 _).mono (fun _ _ h => ⟨h.1, _, h.2.symm⟩))))
    refine wpQuiet_nil ?_
    intro _ hw''
    obtain ⟨nr, rfl⟩ := hw''
    clear hcv
    have hsegs7 : SegsOk (w6.drewN nr) (.slice (some ⟨b2, 0, none⟩) 1 c2) := hsegs6
    have hk17 : Kp [S, rb, bb] w1 (w6.drewN nr) := hk16.trans ((Kp.refl _ w6).drewN nr) (by intro i hi _; exact hi)
    obtain ⟨w7, hw7⟩ : ∃ w7, w7 = w6.drewN nr := ⟨_, rfl⟩
    rw [← hw7] at hsegs7 hk17 ⊢
    clear hw7 hsegs6 hk16 hown6
    go_wp2_with fail
    refine (newres_any Z N (by omega) s (lvName l) _ _ _ (-1) (-1) 1 w7).mono ?_
    rintro e w8 ⟨Res, rfl, hRes, hb8, hRn⟩
    have hs7 := hk17.size
    go_wp2_with fail
    go_ret2
    exact ⟨Res, rfl, ⟨_, hRes, hsegs7.below hb8⟩, below_of_kp hw01 (hk17.trans (Kp.of_below hb8 : Kp [S, rb, bb] w7 w8) (by intro i hi _; exact hi)) hs01 (by intro k hk; simp at hk; omega)⟩
end
end Go.Proofs.YtcekbhhpcmhicaaGreatDoor
namespace Go.Proofs.YtcekbhhpcmhicaaGreatDoor
open Go.RowKit Go.QW Go.QGF Go.QI Go.QM Go.QV Go.QZ
section
variable {w : World}
/-- the stream of data bits of a text -/
def streamOf (v l m : Nat) (s : ByteArray) : List Bool := term3 (dataB v l) (term2 (term1 (dataB v l) (bitsOf 4 m ++ bitsOf (ccBits m v) s.size ++ segOf m (bytesOf s))))
theorem parse_any {Z N V v l m : Nat} {s : ByteArray} (hm : m = modeOf (bytesOf s)) (hZ : Blk w Z 5 (ints .u8 (bytesAt (streamOf v l m s) N))) (hN : N = dataB v l) (hN2 : N ≤ 4000) (hV : Ver w V v) (hv : v ≤ 27) (hl4 : l < 4)
    (hfit : 4 + ccBits m v + (segOf m (bytesOf s)).length ≤ 8 * N) (hn : s.size < 2 ^ ccBits m v) (h1 : 1 ≤ s.size) (h600 : s.size ≤ 1000) :
    Calls Tryz.prog 214 #[.slice (some ⟨Z, 0, none⟩) N N, .pointer (some ⟨V, 0, none⟩), .int .i64 l, .map none] w fun e w' => ∃ Res, e = .returned (.tuple #[.pointer (some ⟨Res, 0, none⟩), .nilIface]) ∧ ResOk w' Res Z N s l ∧ Below w.heap.size w w' := by
  have hbl : (bitsOf 4 m ++ bitsOf (ccBits m v) s.size ++ segOf m (bytesOf s)).length ≤ 8 * N := by simp only [List.length_append, bitsOf_length]; omega
  obtain ⟨t, ht, htt⟩ := stream_tail N _ hbl
  have hsl : (streamOf v l m s).length = 8 * N := by unfold streamOf; rw [← hN]; exact term_len N _ hbl
  have hse : streamOf v l m s = bitsOf 4 m ++ (bitsOf (ccBits m v) s.size ++ (segOf m (bytesOf s) ++ t)) := by
    unfold streamOf
    rw [← hN, ht]
    simp only [List.append_assoc]
  have hlen : (bytesAt (streamOf v l m s) N).length = N := by unfold bytesAt; rw [tab_length]
  have hH : HasEx (bytesAt (streamOf v l m s) N) 0 (bitsOf 4 m ++ (bitsOf (ccBits m v) s.size ++ (segOf m (bytesOf s) ++ t))) := by
    rw [← hse]
    exact ⟨bytesAt_hasAt _ N hsl, by rw [hlen, hsl]; omega⟩
  have hlt : ∀ i, nth (bytesAt (streamOf v l m s) N) i < 256 := by
    intro i
    rcases Nat.lt_or_ge i N with h | h
    · unfold bytesAt; rw [nth_tab h]; exact byteAt_lt _ _
    · rw [nth_ge (by rw [hlen]; exact h)]; decide
  rcases mode_in (bytesOf s) with h | h | h
  · have hm1 : m = 1 := hm.trans h
    subst hm1
    exact parse_num hZ hlen.symm hlt (by rw [hlen]; exact hN2) hV hv hl4 hH hn h1 h600 (mode_num h) htt
  · have hm1 : m = 2 := hm.trans h
    subst hm1
    exact parse_al hZ hlen.symm hlt (by rw [hlen]; exact hN2) hV hv hl4 hH hn h1 h600 (mode_al h) htt
  · have hm1 : m = 4 := hm.trans h
    subst hm1
    exact parse_by hZ hlen.symm hlt (by rw [hlen]; exact hN2) hV hv hl4 hH hn h1 h600 (bytesOf_lt s) htt
theorem dbnum_any {P G n L : Nat} (h : Blk w P 364 #[.int .i64 n, .slice (some ⟨G, 0, none⟩) L L]) :
    Calls Tryz.prog 211 #[.pointer (some ⟨P, 0, none⟩)] w fun e w' => e = .returned (.int .i64 (n : Nat)) ∧ w = w' := by
  have a1 := h.cell 0
  simp only [List.getElem?_toArray, List.getElem?_cons_zero] at a1
  go_enter Tryz.func211, Tryz.ntmps211
  go_wp2
  go_ret
  exact ⟨rfl, rfl⟩
theorem dbcw_any {P G n L : Nat} (h : Blk w P 364 #[.int .i64 n, .slice (some ⟨G, 0, none⟩) L L]) :
    Calls Tryz.prog 212 #[.pointer (some ⟨P, 0, none⟩)] w fun e w' => e = .returned (.slice (some ⟨G, 0, none⟩) L L) ∧ w = w' := by
  have a1 := h.cell 1
  simp only [List.getElem?_toArray, List.getElem?_cons_zero, List.getElem?_cons_succ] at a1
  go_enter Tryz.func212, Tryz.ntmps212
  go_wp2
  go_ret
  exact ⟨rfl, rfl⟩
theorem fillC_all {R q m ec j : Nat} {bs : List Bool} {cw : List Nat} {es : List Nat} (hm : m < R) (hj : j < R) (he : es.length = ec) (T : Nat) (hT : T = q * R + m + ec * R)
    (hat : ∀ p, p < dl R q m j + ec → nth cw (rank R q m j p) = nth (datOf R q m bs j ++ es) p) : fillC R q m ec cw T j = datOf R q m bs j ++ es := by
  apply ext_nth
  · unfold fillC; rw [tab_length, List.length_append, datOf_length, he]
  · intro i hi
    unfold fillC at hi ⊢
    rw [tab_length] at hi
    have := rank_lt (q := q) hm hj hi
    rw [nth_tab hi, if_pos (by omega), hat i hi]
end
end Go.Proofs.YtcekbhhpcmhicaaGreatDoor
