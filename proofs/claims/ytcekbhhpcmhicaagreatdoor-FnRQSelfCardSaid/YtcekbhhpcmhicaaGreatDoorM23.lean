/- The decoder separates the code words into blocks: DataBlock_GetDataBlocks; Plain law: the segments' bits read back, one group after the other. -/
import Derived.Test.YtcekbhhpcmhicaaGreatDoorM10
import Derived.Test.YtcekbhhpcmhicaaGreatDoorM21
import Derived.Test.YtcekbhhpcmhicaaGreatDoorM22
import Derived.Deep.LoopGhost
namespace Go.Proofs.YtcekbhhpcmhicaaGreatDoor
open Go.RowKit Go.QW Go.QI Go.QV
section
variable {w : World}
theorem newdb_any (n G L : Nat) (w : World) :
    Calls Tryz.prog 239 #[.int .i64 n, .slice (some ⟨G, 0, none⟩) L L] w fun e w' => ∃ P, e = .returned (.pointer (some ⟨P, 0, none⟩)) ∧ Blk w' P 364 #[.int .i64 n, .slice (some ⟨G, 0, none⟩) L L] ∧ Below w.heap.size w w' ∧ w.heap.size ≤ P := by
  go_enter Tryz.func239, Tryz.ntmps239
  go_wp2
  go_ret
  exact ⟨w.heap.size, rfl, Blk.new w _ _, (Below.refl _ _).alloc (Nat.le_refl _) _, Nat.le_refl _⟩
theorem rep_none (n : Nat) : madeCells (Value.pointer none).cells n = dbArr n 0 (fun _ => 0) := by
  unfold madeCells dbArr
  apply Array.ext
  · simp
  · intro i h1 h2
    simp [Value.cells, Nat.mod_one]
theorem make_ptrs {P : Program} {t e : TypeId} (ht : P.underlying t = some (.slice e)) {b : Nat} (hi : (P.info? e).map (fun i => (i.zero, i.size, i.bytes)) = some (some (.pointer none), 1, b)) (hb : b ≤ 8)
    (n : Nat) (hn : n ≤ 1000000000) (w : World) :
    (Instr.makeSlice t (.int .i64 (n : Int)) (.int .i64 (n : Int))).run P w = .ok (.slice (some ⟨w.heap.size, 0, none⟩) n n) (w.alloc (.cells (dbArr n 0 (fun _ => 0)) e)) := by
  obtain ⟨i, hi1, hz, hs, hb'⟩ := info_parts hi
  have := run_make (P := P) w t e i _ ht hi1 hz .i64 .i64 n n (by omega) (by omega) (by
    rw [hb']
    have : (b : Int) * n ≤ 8 * n := Int.mul_le_mul_of_nonneg_right (by omega) (by omega)
    omega) (by omega)
  rw [this, hs, Int.toNat_natCast, Nat.mul_one, rep_none]
set_option maxHeartbeats 16000000 in
set_option maxRecDepth 100000 in
theorem blocks_any {V v l R q m ec g : Nat} {cw : List Nat} (hV : Ver w V v) (h1 : 1 ≤ v) (h27 : v ≤ 27) (hl : l ≤ 3) (hg : Blk w g 5 (ints .u8 cw)) (hcl : cw.length = total v) (hsh : Shape (lv v l).2 R q m) (hec : (lv v l).1 = ec) (hec1 : 1 ≤ ec) (hec2 : ec ≤ 30) (htot : total v = q * R + m + ec * R) :
    Calls Tryz.prog 210 #[.slice (some ⟨g, 0, none⟩) cw.length cw.length, .pointer (some ⟨V, 0, none⟩), .int .i64 l] w fun e w' => ∃ RB P G, e = .returned (.tuple #[.slice (some ⟨RB, 0, none⟩) R R, .nilIface]) ∧ DbS w w' w.heap.size RB R q m ec R P G (fillC R q m ec cw (total v)) := by
  obtain ⟨hR1, hR2, hm1, hq1, hq2, hgrp, hsum, hle, hlen⟩ := hsh
  have hEc := fun w => ecfor_any V v l w
  obtain ⟨T, hT⟩ : ∃ T, T = cw.length := ⟨_, rfl⟩
  have hTT : (((T : Nat) : Int) != ((T : Nat) : Int)) = false := by simp
  have hTl : T ≤ 4000 := by rw [hT, hcl]; exact (lv_ok v l h1 (by omega) hl).tot
  rw [← hT]
  have HT := Lib.hid hT
  have HTV : Hid (total v = T) := Lib.hid (by rw [hT, hcl])
  have HTOT := Lib.hid htot
  have HEC := Lib.hid hec
  have HGRP := Lib.hid hgrp
  have HSUM := Lib.hid hsum
  have HLE := Lib.hid hle
  clear hT hcl htot hec hgrp hsum hle
  go_enter Tryz.func210, Tryz.ntmps210
  go_wp2_with fail
  refine (vertot_any V v w hV).mono ?_
  rintro e w2 ⟨rfl, rfl⟩
  rw [HTV.out]
  go_wp2_with fail
  refine (hEc w hV hl).mono ?_
  clear hEc
  rintro e w2 ⟨ge, o, rfl, hE, rfl⟩
  have hE' : EcB w ge o (lv v l) := hE
  clear hE
  obtain ⟨L, hL⟩ : ∃ L, L = lv v l := ⟨_, rfl⟩
  rw [← hL] at hE' HEC HGRP HSUM HLE hlen
  clear hL
  obtain ⟨ec', bl⟩ := L
  obtain rfl : ec' = ec := HEC.out
  simp only at HGRP HSUM HLE hlen
  have hE := hE'
  obtain ⟨gs, e0, e1, hS, hgl, -⟩ := hE'
  simp only at e0 e1 hS
  have hSl := hS.lt
  obtain ⟨nb, hnb⟩ : ∃ nb, nb = bl.length := ⟨_, rfl⟩
  rw [← hnb] at e1 hlen
  have HNB := Lib.hid hnb
  clear hnb
  go_wp2_with fail
  refine (ecblk_any ge o gs nb w e1).mono ?_
  rintro e w2 ⟨rfl, rfl⟩
  go_wp2_with fail
  go_loopw [9, 45] (fun t9 t45 wr => ∃ i : Nat, i ≤ nb ∧ t45 = .int .i64 (i : Nat) ∧ t9 = .int .i64 (numB (bl.take i) : Nat) ∧ Below w.heap.size w wr) (fun _ t45 _ => nb - (intOf t45).toNat)
  case atStart => exact ⟨0, by omega, rfl, rfl, Below.refl _ _⟩
  case round =>
    obtain ⟨i, hi, rfl, rfl, hw⟩ := hrel
    have hsz := hw.size
    by_cases hlt : i < nb
    · have hib : i < bl.length := by rw [← HNB.out]; exact hlt
      obtain ⟨c1, c2⟩ := ecbs_get bl i hib
      obtain ⟨x, hx⟩ : ∃ x, x = bl.getD i (0, 0) := ⟨_, rfl⟩
      rw [← hx] at c1 c2
      have d1 := ((hS.below hw hSl).cell (2 * i)).trans c1
      have d2 := ((hS.below hw hSl).cell (2 * i + 1)).trans c2
      rw [Nat.mul_comm 2 i] at d1 d2
      have hnl := numB_le (bl.take i) (fun y hy => (HLE.out y (List.mem_of_mem_take hy)).1)
      have htl : (bl.take i).length ≤ 2 := by rw [List.length_take]; have := HNB.out; omega
      have hx1 : x.1 ≤ 100 := (HLE.out x (by rw [hx, List.getD_eq_getElem?_getD, List.getElem?_eq_getElem hib]; exact List.getElem_mem hib)).1
      have hsn := numB_snoc bl i hib
      rw [← hx] at hsn
      have HX := Lib.hid hsn
      clear hx hsn hib
      obtain ⟨mm, hmm⟩ : ∃ mm, mm = numB (bl.take i) := ⟨_, rfl⟩
      rw [← hmm] at hnl HX ⊢
      clear hmm
      go_wp2_with fail
      refine (count_any _ _ _).mono ?_
      rintro e w1 ⟨rfl, hb1⟩
      have hs1 := hb1.size
      rw [World.size_alloc] at hs1
      go_wp2_with fail
      go_roundw
      case rel => exact ⟨i + 1, by omega, by go_num, by rw [HX.out]; go_num, (hw.alloc hsz _).trans (hb1.mono (by rw [World.size_alloc]; omega))⟩
      case measure => simp [intOf]; omega
    · have hie : i = nb := by omega
      have hnR : numB (bl.take i) = R := by rw [hie, HNB.out, List.take_length]; exact HSUM.out
      rw [hnR]
      have hmk := fun w => make_ptrs (P := Tryz.prog) (t := 337) (e := 340) (by kernel_rfl) (b := 8) (by kernel_rfl) (by omega) R (by omega) w
      clear hie hnR
      go_wp2_with fail
      clear hmk
      have hEr := hE.below hw
      have hD0 : DbS w (wr.alloc (.cells (dbArr R 0 (fun _ => 0)) 340)) w.heap.size wr.heap.size R q m ec' 0 (fun _ => 0) (fun _ => 0) (fun _ => []) :=
        ⟨Blk.new _ _ _, fun j hj => by omega, fun j hj => by omega, fun i j _ hj => by omega, fun j hj => by omega, hsz, hw.alloc hsz _⟩
      obtain ⟨w1, hw1⟩ : ∃ w1, w1 = wr.alloc (.cells (dbArr R 0 (fun _ => 0)) 340) := ⟨_, rfl⟩
      have hE1 : EcB w1 ge o (ec', bl) := hEr.below (by rw [hw1]; exact (Below.refl _ _).alloc (Nat.le_refl _) _)
      rw [← hw1] at hD0 ⊢
      obtain ⟨RB, hRB⟩ : ∃ RB, RB = wr.heap.size := ⟨_, rfl⟩
      rw [← hRB] at hD0 ⊢
      have hRBw : w.heap.size ≤ RB := by omega
      have hRB1 : RB < w1.heap.size := hD0.arr.lt
      clear hw1 hRB hEr
      have hgrp0 : numB (bl.take 0) = 0 := rfl
      go_loopw [14, 58] (fun t14 t58 wr => ∃ (k n : Nat) (P G : Nat → Nat), k ≤ nb ∧ t58 = .int .i64 (k : Nat) ∧ t14 = .int .i64 (n : Nat) ∧ Hid (n = numB (bl.take k)) ∧ DbS w wr w.heap.size RB R q m ec' n P G (fun j => List.replicate (dl R q m j + ec') 0) ∧ w.heap.size ≤ wr.heap.size) (fun _ t58 _ => nb - (intOf t58).toNat)
      case atStart => exact ⟨0, 0, fun _ => 0, fun _ => 0, by omega, rfl, rfl, Lib.hid rfl, hD0.congr (fun j hj => by omega), by omega⟩
      case round =>
        obtain ⟨k, n0, P, G, hk, rfl, rfl, HN0, hD, hsz⟩ := hrel
        clear hD0 hE1 hw
        by_cases hlt2 : k < nb
        · have hib : k < bl.length := by rw [← HNB.out]; exact hlt2
          obtain ⟨c1, c2⟩ := ecbs_get bl k hib
          obtain ⟨x, hx⟩ : ∃ x, x = bl.getD k (0, 0) := ⟨_, rfl⟩
          rw [← hx] at c1 c2
          have d1 := ((hS.below hD.below hSl).cell (2 * k)).trans c1
          have d2 := ((hS.below hD.below hSl).cell (2 * k + 1)).trans c2
          rw [Nat.mul_comm 2 k] at d1 d2
          have hx1 := HLE.out x (by rw [hx, List.getD_eq_getElem?_getD, List.getElem?_eq_getElem hib]; exact List.getElem_mem hib)
          have hsn := numB_snoc bl k hib
          rw [← hx, ← HN0.out] at hsn
          have HSN := Lib.hid hsn
          have HG : Hid (∀ i, i < x.1 → n0 + i < R ∧ dl R q m (n0 + i) = x.2) := Lib.hid (by
            intro i hi
            have := HGRP.out k i hib (by rw [← hx]; exact hi)
            rw [← hx, ← HN0.out] at this
            exact this)
          obtain ⟨xc, xd⟩ := x
          simp only at c1 c2 d1 d2 hx1 HSN HG
          obtain ⟨hxc, hxd⟩ := hx1
          clear hx hsn hib c1 c2
          go_wp2_with fail
          have hX := Blk.new wr 211 #[.int .i64 (xc : Nat), .int .i64 (xd : Nat)]
          have hDX := hD.kp0 ((Kp.refl [] wr).alloc (.cells #[.int .i64 (xc : Nat), .int .i64 (xd : Nat)] 211)) hsz
          have hszX : w.heap.size ≤ (wr.alloc (.cells #[.int .i64 (xc : Nat), .int .i64 (xd : Nat)] 211)).heap.size := by rw [World.size_alloc]; omega
          obtain ⟨w3, hw3⟩ : ∃ w3, w3 = wr.alloc (.cells #[.int .i64 (xc : Nat), .int .i64 (xd : Nat)] 211) := ⟨_, rfl⟩
          rw [← hw3] at hX hDX hszX ⊢
          obtain ⟨X, hXe⟩ : ∃ X, X = wr.heap.size := ⟨_, rfl⟩
          rw [← hXe] at hX ⊢
          clear hw3 hXe hD d1 d2 hsz
          obtain ⟨P0, rfl⟩ : ∃ P0, P0 = P := ⟨_, rfl⟩
          obtain ⟨G0, rfl⟩ : ∃ G0, G0 = G := ⟨_, rfl⟩
          obtain ⟨wo, rfl⟩ : ∃ wo : World, wo = wr := ⟨_, rfl⟩
          go_loopw [14, 17] (fun t14 t17 wr => ∃ (i n : Nat) (P G : Nat → Nat), i ≤ xc ∧ t17 = .int .i64 (i : Nat) ∧ (n0 + i ≤ n ∧ n ≤ n0 + i) ∧ t14 = .int .i64 (n : Nat) ∧ DbS w wr w.heap.size RB R q m ec' n P G (fun j => List.replicate (dl R q m j + ec') 0) ∧ w.heap.size ≤ wr.heap.size ∧ Blk wr X 211 #[.int .i64 (xc : Nat), .int .i64 (xd : Nat)]) (fun _ t17 _ => xc - (intOf t17).toNat)
          case atStart => exact ⟨0, n0, P0, G0, by omega, rfl, by omega, rfl, hDX, hszX, hX⟩
          case round =>
            obtain ⟨i, n, P, G, hi, rfl, hn, rfl, hD, hsz, hX⟩ := hrel
            clear hDX hszX
            have x0 := hX.cell 0
            have x1 := hX.cell 1
            simp only [List.getElem?_toArray, List.getElem?_cons_zero, List.getElem?_cons_succ] at x0 x1
            by_cases hlt3 : i < xc
            · have hdi : decide ((i : Int) < (xc : Int)) = true := by simp; omega
              obtain ⟨hnR, hdl⟩ := HG.out i hlt3
              rw [show n0 + i = n by omega] at hnR hdl
              have HDL := Lib.hid hdl
              clear hdl
              go_wp2_with fail
              refine (count_any xc xd _).mono ?_
              rintro e w4 ⟨rfl, hb4⟩
              have hs4 := hb4.size
              have hX4 := hX.below hb4 hX.lt
              have hD4 := hD.kp0 (Kp.of_below hb4 : Kp [] wr w4) hsz
              have x0' := hX4.cell 0
              have x1' := hX4.cell 1
              simp only [List.getElem?_toArray, List.getElem?_cons_zero, List.getElem?_cons_succ] at x0' x1'
              have hsz4 : w.heap.size ≤ w4.heap.size := by omega
              clear x0 x1 hD
              go_wp2_with fail
              refine (dcw_any xc xd _).mono ?_
              rintro e w5 ⟨rfl, hb5⟩
              have hs5 := hb5.size
              have hX5 := hX4.below hb5 hX4.lt
              have hD5 := hD4.kp0 (Kp.of_below hb5 : Kp [] w4 w5) hsz4
              have hsz5 : w.heap.size ≤ w5.heap.size := by omega
              obtain ⟨gs5, f0, f1, -, -, -⟩ := hE.below hD5.below
              simp only at f0
              clear x0' x1' hD4 hb4 hb5 f1
              go_wp2_with fail
              refine (ecper_any ge o ec' w5 f0).mono ?_
              rintro e w6 ⟨rfl, rfl⟩
              have hmk := fun w => make_flat (P := Tryz.prog) (t := 30) (e := 5) (by kernel_rfl) (k := .u8) (b := 1) (by kernel_rfl) (by omega) (xd + ec') ((ec' : Int) + (xd : Int)) (by omega) (by omega) w
              clear f0
              go_wp2_with fail
              clear hmk
              have hG6 := Blk.new w5 5 (ints .u8 (List.replicate (xd + ec') 0))
              have hk6 : Kp [] w5 (w5.alloc (.cells (ints .u8 (List.replicate (xd + ec') 0)) 5)) := (Kp.refl [] w5).alloc _
              obtain ⟨w6, hw6⟩ : ∃ w6, w6 = w5.alloc (.cells (ints .u8 (List.replicate (xd + ec') 0)) 5) := ⟨_, rfl⟩
              rw [← hw6] at hG6 hk6 ⊢
              clear hw6
              obtain ⟨Gn, hGn⟩ : ∃ Gn, Gn = w5.heap.size := ⟨_, rfl⟩
              rw [← hGn] at hG6 ⊢
              have hs6 := hk6.size
              refine (newdb_any xd Gn (xd + ec') w6).mono ?_
              rintro e w7 ⟨Pn, rfl, hP7, hb7, hP7n⟩
              have hs7 := hb7.size
              have hk57 : Kp [] w5 w7 := hk6.trans (Kp.of_below hb7 : Kp [] w6 w7) (by intro i hi; simp at hi)
              have hG7 := hG6.below hb7 hG6.lt
              have hX7 := hX5.kp hk57 (by simp)
              have hmore := hD5.more (Pn := Pn) (Gn := Gn) hsz5 hk57 (by rw [HDL.out]; exact hP7) (by rw [HDL.out]; exact hG7) (by omega) (by omega) hnR
              have hD7 := hD5.kp0 hk57 hsz5
              have cRB := hD7.arr.cell n
              rw [dbArr_get hnR, if_neg (by omega)] at cRB
              have fRB := hD7.arr.frozen n
              have hXR : X ≠ RB := hX7.ne_ hD7.arr (by decide)
              have hsz7 : w.heap.size ≤ w7.heap.size := by omega
              have HMORE := Lib.hid hmore
              clear hmore hD5 hk57 hG7 hP7 hb7 hk6 hG6 hGn hP7n hs7 hs6 hs5 hs4 hsz5 hsz4 hX5 hX4 hsz
              go_wp2_with fail
              go_roundw
              case rel =>
                refine ⟨i + 1, n + 1, _, _, by omega, by go_num, by omega, by go_num, HMORE.out.congr (fun j hj => ?_), by simp [World.setCell]; omega, hX7.far (by simpa using hXR) _⟩
                by_cases e : j = n
                · subst e; rw [if_pos rfl]
                · rw [if_neg e]
              case measure => simp [intOf]; omega
            · have hdi : decide ((i : Int) < (xc : Int)) = false := by simp; omega
              go_wp2_with fail
              refine (count_any xc xd _).mono ?_
              rintro e w4 ⟨rfl, hb4⟩
              have hs4 := hb4.size
              have hD4 := hD.kp0 (Kp.of_below hb4 : Kp [] wr w4) hsz
              clear x0 x1 hD
              go_wp2_with fail
              go_roundw
              case rel => exact ⟨k + 1, n, P, G, by omega, by go_num, rfl, Lib.hid (by rw [HSN.out]; omega), hD4, by omega⟩
              case measure => simp [intOf]; omega
        · have hie : k = nb := by omega
          have hnR : n0 = R := by rw [HN0.out, hie, HNB.out, List.take_length]; exact HSUM.out
          rw [hnR] at hD ⊢
          clear hie hnR HN0
          have hR0 : 0 < R := by omega
          have hq0 : dl R q m 0 = q := by unfold dl; rw [if_neg (by omega)]
          obtain ⟨a0, ha0⟩ : ∃ a0, a0 = q + ec' := ⟨_, rfl⟩
          have HA0 : Hid (dl R q m 0 + ec' = a0) := Lib.hid (by rw [hq0, ha0])
          have ha0q : q + ec' ≤ a0 ∧ a0 ≤ q + ec' := by omega
          have haec : (a0 : Int) - (ec' : Int) = (q : Int) := by omega
          obtain ⟨s, hs⟩ : ∃ s, s = R - m := ⟨_, rfl⟩
          have hsb : s + m ≤ R ∧ R ≤ s + m := by omega
          clear hq0 ha0 hs
          have cA := hD.arr.cell 0
          rw [dbArr_get hR0, if_pos hR0] at cA
          have cP := (hD.blk 0 hR0).cell 1
          simp only [List.getElem?_toArray, List.getElem?_cons_zero, List.getElem?_cons_succ] at cP
          rw [HA0.out] at cP
          go_wp2_with fail
          clear cA cP
          go_loop [21] (fun t21 => ∃ x : Nat, s ≤ x + 1 ∧ x < R ∧ t21 = .int .i64 (x : Nat)) (fun t21 => (intOf t21).toNat)
          case atStart => exact ⟨R - 1, by omega, by omega, congrArg (Value.int .i64) (by omega)⟩
          case round =>
            obtain ⟨x, hsx, hxR, rfl⟩ := hrel
            have cA := hD.arr.cell x
            rw [dbArr_get hxR, if_pos hxR] at cA
            have cP := (hD.blk x hxR).cell 1
            simp only [List.getElem?_toArray, List.getElem?_cons_zero, List.getElem?_cons_succ] at cP
            obtain ⟨al, hal⟩ : ∃ al, al = dl R q m x + ec' := ⟨_, rfl⟩
            rw [← hal] at cP
            rcases dl_cases R q m x with ⟨hsj, hdq⟩ | ⟨hsj, hdq⟩
            · have hne : ((al : Int) == (a0 : Int)) = false := by rw [beq_eq_false_iff_ne]; omega
              have hx1 : 1 ≤ x := by omega
              clear hal hdq
              go_wp2_with fail
              go_round
              case rel => exact ⟨x - 1, by omega, by omega, congrArg (Value.int .i64) (by omega)⟩
              case measure => simp [intOf]; omega
            · have hne : ((al : Int) == (a0 : Int)) = true := by rw [beq_iff_eq]; omega
              have hxs : (x : Int) + 1 = (s : Int) := by omega
              obtain ⟨gs5, f0, f1, -, -, -⟩ := hE.below hD.below
              simp only at f0
              clear hal hdq f1
              go_wp2_with fail
              refine (ecper_any ge o ec' _ f0).mono ?_
              rintro e w6 ⟨rfl, rfl⟩
              clear cA cP f0
              go_wp2_with fail
              clear hxs haec hne
              go_loopw [24, 25] (fun t24 t25 wr => ∃ i o : Nat, i ≤ q ∧ t25 = .int .i64 (i : Nat) ∧ t24 = .int .i64 (o : Nat) ∧ Hid (o = i * R) ∧ DbS w wr w.heap.size RB R q m ec' R P G (fillC R q m ec' cw o) ∧ w.heap.size ≤ wr.heap.size) (fun _ t25 _ => q - (intOf t25).toNat)
              case atStart => exact ⟨0, 0, by omega, rfl, rfl, Lib.hid (by rw [Nat.zero_mul]), hD.congr (fun j _ => (fillC_zero R q m ec' cw j).symm), hsz⟩
              case round =>
                obtain ⟨i, o, hi, rfl, rfl, HO, hD, hsz⟩ := hrel
                by_cases hiq : i < q
                · have hdi : decide ((i : Int) < (q : Int)) = true := by simp; omega
                  go_wp2_with fail
                  obtain ⟨o0, rfl⟩ : ∃ o0, o0 = o := ⟨_, rfl⟩
                  obtain ⟨wo, rfl⟩ : ∃ wo : World, wo = wr := ⟨_, rfl⟩
                  go_loopw [24, 26] (fun t24 t26 wr => ∃ j o : Nat, j ≤ R ∧ t26 = .int .i64 (j : Nat) ∧ t24 = .int .i64 (o : Nat) ∧ Hid (o = i * R + j) ∧ DbS w wr w.heap.size RB R q m ec' R P G (fillC R q m ec' cw o) ∧ w.heap.size ≤ wr.heap.size) (fun _ t26 _ => R - (intOf t26).toNat)
                  case atStart => exact ⟨0, o0, by omega, rfl, rfl, Lib.hid (by rw [Nat.add_zero]; exact HO.out), hD, hsz⟩
                  case round =>
                    obtain ⟨j, o, hj, rfl, rfl, HOJ, hD, hsz⟩ := hrel
                    by_cases hjR : j < R
                    · have hdj : decide ((j : Int) < (R : Int)) = true := by simp; omega
                      have hmr := mul_row (R := R) (j := j) (p := i) (q := q) hjR hiq
                      rw [← HOJ.out] at hmr
                      have hoT : o < T := by have h1 := HTOT.out; rw [HTV.out] at h1; omega
                      clear hmr
                      obtain ⟨al, hal⟩ : ∃ al, al = dl R q m j + ec' := ⟨_, rfl⟩
                      have HAL := Lib.hid hal
                      have hdq : q ≤ dl R q m j := by rcases dl_cases R q m j with ⟨_, e⟩ | ⟨_, e⟩ <;> rw [e] <;> omega
                      have hpl : i < al := by omega
                      have halb : al ≤ 300 := by
                        have : dl R q m j ≤ q + 1 := by rcases dl_cases R q m j with ⟨_, e⟩ | ⟨_, e⟩ <;> rw [e] <;> omega
                        omega
                      have HRK : Hid (rank R q m j i = o) := Lib.hid (by rw [rank1 hiq, HOJ.out])
                      clear hal hdq
                      have cA := hD.arr.cell j
                      rw [dbArr_get hjR, if_pos hjR] at cA
                      have cP := (hD.blk j hjR).cell 1
                      simp only [List.getElem?_toArray, List.getElem?_cons_zero, List.getElem?_cons_succ] at cP
                      rw [← HAL.out] at cP
                      obtain ⟨hdat, hdl⟩ := hD.dat j hjR
                      rw [← HAL.out] at hdl
                      have cD := hdat.cell (i)
                      rw [ints_get (by rw [hdl]; exact hpl)] at cD
                      have fD := hdat.frozen (i)
                      have cR := (hg.below hD.below hg.lt).cell o
                      rw [ints_get (by rw [← HT.out]; exact hoT)] at cR
                      obtain ⟨zz, hzz⟩ : ∃ zz, zz = nth (fillC R q m ec' cw o j) (i) := ⟨_, rfl⟩
                      rw [← hzz] at cD
                      clear hzz hdat hdl
                      go_wp2_with fail
                      refine wp_region_quiet_tail 13 (by kernel_rfl) (by kernel_rfl) ?_
                      simp only [List.take_succ_cons, List.take_zero, List.drop_succ_cons, List.drop_zero]
                      repeat (go_big_quiet_step (fail))
                      refine wpQuiet_nil ?_
                      intro _ hw''
                      obtain ⟨nr, rfl⟩ := hw''
                      have hDn := hD.kp0 ((Kp.refl [] wr).drewN nr) hsz
                      have hput := hDn.put hm1 hjR HRK.out
                      have hszn : w.heap.size ≤ (wr.drewN nr).heap.size := hsz
                      obtain ⟨w2, hw2⟩ : ∃ w2, w2 = wr.drewN nr := ⟨_, rfl⟩
                      rw [← hw2] at hDn hput hszn ⊢
                      have cD2 := (hDn.dat j hjR).1.cell (i)
                      rw [ints_get (by rw [(hDn.dat j hjR).2, ← HAL.out]; exact hpl)] at cD2
                      have fD2 := (hDn.dat j hjR).1.frozen (i)
                      obtain ⟨zz2, hzz2⟩ : ∃ zz, zz = nth (fillC R q m ec' cw o j) (i) := ⟨_, rfl⟩
                      rw [← hzz2] at cD2
                      have HPUT := Lib.hid hput
                      clear hw2 hput hDn cA cP cD fD cR hzz2
                      go_wp2_with fail
                      go_roundw
                      case rel => exact ⟨j + 1, o + 1, by omega, by go_num, by go_num, Lib.hid (by rw [HOJ.out]; omega), HPUT.out, by simp [World.setCell]; omega⟩
                      case measure => simp [intOf]; omega
                    · have hdj : decide ((j : Int) < (R : Int)) = false := by simp; omega
                      have hje : j = R := by omega
                      have HOJ2 : Hid (o = (i + 1) * R) := Lib.hid (by rw [HOJ.out, hje, Nat.succ_mul])
                      clear hje
                      go_wp2_with fail
                      go_roundw
                      case rel => exact ⟨i + 1, o, by omega, by go_num, rfl, HOJ2, hD, hsz⟩
                      case measure => simp [intOf]; omega
                · have hdi : decide ((i : Int) < (q : Int)) = false := by simp; omega
                  have hie : i = q := by omega
                  have HOQ : Hid (o = q * R) := Lib.hid (by rw [HO.out, hie])
                  clear hie HO
                  go_wp2_with fail
                  obtain ⟨o0, rfl⟩ : ∃ o0, o0 = o := ⟨_, rfl⟩
                  obtain ⟨wo, rfl⟩ : ∃ wo : World, wo = wr := ⟨_, rfl⟩
                  go_loopw [24, 27] (fun t24 t27 wr => ∃ j o : Nat, s ≤ j ∧ j ≤ R ∧ t27 = .int .i64 (j : Nat) ∧ t24 = .int .i64 (o : Nat) ∧ Hid (o = q * R + (j - s)) ∧ DbS w wr w.heap.size RB R q m ec' R P G (fillC R q m ec' cw o) ∧ w.heap.size ≤ wr.heap.size) (fun _ t27 _ => R - (intOf t27).toNat)
                  case atStart => exact ⟨s, o0, by omega, by omega, rfl, rfl, Lib.hid (by rw [HOQ.out]; omega), hD, hsz⟩
                  case round =>
                    obtain ⟨j, o, hsj, hj, rfl, rfl, HOJ, hD, hsz⟩ := hrel
                    by_cases hjR : j < R
                    · have hdj : decide ((j : Int) < (R : Int)) = true := by simp; omega
                      have hoT : o < T := by have h1 := HTOT.out; rw [HTV.out] at h1; have := HOJ.out; omega
                      obtain ⟨al, hal⟩ : ∃ al, al = dl R q m j + ec' := ⟨_, rfl⟩
                      have HAL := Lib.hid hal
                      have hdq : dl R q m j = q + 1 := by unfold dl; rw [if_pos (by omega)]
                      have hpl : q < al := by omega
                      have halb : al ≤ 300 := by omega
                      have HRK : Hid (rank R q m j q = o) := Lib.hid (by rw [rank2 (by omega), HOJ.out]; omega)
                      clear hal hdq
                      have cA := hD.arr.cell j
                      rw [dbArr_get hjR, if_pos hjR] at cA
                      have cP := (hD.blk j hjR).cell 1
                      simp only [List.getElem?_toArray, List.getElem?_cons_zero, List.getElem?_cons_succ] at cP
                      rw [← HAL.out] at cP
                      obtain ⟨hdat, hdl⟩ := hD.dat j hjR
                      rw [← HAL.out] at hdl
                      have cD := hdat.cell (q)
                      rw [ints_get (by rw [hdl]; exact hpl)] at cD
                      have fD := hdat.frozen (q)
                      have cR := (hg.below hD.below hg.lt).cell o
                      rw [ints_get (by rw [← HT.out]; exact hoT)] at cR
                      obtain ⟨zz, hzz⟩ : ∃ zz, zz = nth (fillC R q m ec' cw o j) (q) := ⟨_, rfl⟩
                      rw [← hzz] at cD
                      clear hzz hdat hdl
                      go_wp2_with fail
                      refine wp_region_quiet_tail 13 (by kernel_rfl) (by kernel_rfl) ?_
                      simp only [List.take_succ_cons, List.take_zero, List.drop_succ_cons, List.drop_zero]
                      repeat (go_big_quiet_step (fail))
                      refine wpQuiet_nil ?_
                      intro _ hw''
                      obtain ⟨nr, rfl⟩ := hw''
                      have hDn := hD.kp0 ((Kp.refl [] wr).drewN nr) hsz
                      have hput := hDn.put hm1 hjR HRK.out
                      have hszn : w.heap.size ≤ (wr.drewN nr).heap.size := hsz
                      obtain ⟨w2, hw2⟩ : ∃ w2, w2 = wr.drewN nr := ⟨_, rfl⟩
                      rw [← hw2] at hDn hput hszn ⊢
                      have cD2 := (hDn.dat j hjR).1.cell (q)
                      rw [ints_get (by rw [(hDn.dat j hjR).2, ← HAL.out]; exact hpl)] at cD2
                      have fD2 := (hDn.dat j hjR).1.frozen (q)
                      obtain ⟨zz2, hzz2⟩ : ∃ zz, zz = nth (fillC R q m ec' cw o j) (q) := ⟨_, rfl⟩
                      rw [← hzz2] at cD2
                      have HPUT := Lib.hid hput
                      clear hw2 hput hDn cA cP cD fD cR hzz2
                      go_wp2_with fail
                      go_roundw
                      case rel => exact ⟨j + 1, o + 1, by omega, by omega, by go_num, by go_num, Lib.hid (by rw [HOJ.out]; omega), HPUT.out, by simp [World.setCell]; omega⟩
                      case measure => simp [intOf]; omega
                    · have hdj : decide ((j : Int) < (R : Int)) = false := by simp; omega
                      have hje : j = R := by omega
                      have HOM : Hid (o = q * R + m) := Lib.hid (by rw [HOJ.out, hje]; omega)
                      clear hje HOJ
                      have cA := hD.arr.cell 0
                      rw [dbArr_get hR0, if_pos hR0] at cA
                      have cP := (hD.blk 0 hR0).cell 1
                      simp only [List.getElem?_toArray, List.getElem?_cons_zero, List.getElem?_cons_succ] at cP
                      rw [HA0.out] at cP
                      go_wp2_with fail
                      clear cA cP
                      obtain ⟨o1, rfl⟩ : ∃ o1, o1 = o := ⟨_, rfl⟩
                      obtain ⟨w2o, rfl⟩ : ∃ wo : World, wo = wr := ⟨_, rfl⟩
                      go_loopw [24, 29] (fun t24 t29 wr => ∃ i k o : Nat, (q + k ≤ i ∧ i ≤ q + k) ∧ k ≤ ec' ∧ t29 = .int .i64 (i : Nat) ∧ t24 = .int .i64 (o : Nat) ∧ Hid (o = q * R + m + k * R) ∧ DbS w wr w.heap.size RB R q m ec' R P G (fillC R q m ec' cw o) ∧ w.heap.size ≤ wr.heap.size) (fun _ t29 _ => a0 - (intOf t29).toNat)
                      case atStart => exact ⟨q, 0, o1, by omega, by omega, rfl, rfl, Lib.hid (by rw [Nat.zero_mul]; exact HOM.out), hD, hsz⟩
                      case round =>
                        obtain ⟨i, k, o, hik, hk, rfl, rfl, HO, hD, hsz⟩ := hrel
                        by_cases hke : k < ec'
                        · have hdi2 : decide ((i : Int) < (a0 : Int)) = true := by simp; omega
                          go_wp2_with fail
                          obtain ⟨o2, rfl⟩ : ∃ o2, o2 = o := ⟨_, rfl⟩
                          obtain ⟨w3o, rfl⟩ : ∃ wo : World, wo = wr := ⟨_, rfl⟩
                          go_loopw [24, 30] (fun t24 t30 wr => ∃ j o : Nat, j ≤ R ∧ t30 = .int .i64 (j : Nat) ∧ t24 = .int .i64 (o : Nat) ∧ Hid (o = q * R + m + (k * R + j)) ∧ DbS w wr w.heap.size RB R q m ec' R P G (fillC R q m ec' cw o) ∧ w.heap.size ≤ wr.heap.size) (fun _ t30 _ => R - (intOf t30).toNat)
                          case atStart => exact ⟨0, o2, by omega, rfl, rfl, Lib.hid (by rw [Nat.add_zero]; exact HO.out), hD, hsz⟩
                          case round =>
                            obtain ⟨j, o, hj, rfl, rfl, HOJ, hD, hsz⟩ := hrel
                            by_cases hjR : j < R
                            · have hdj : decide ((j : Int) < (R : Int)) = true := by simp; omega
                              have hmr := mul_row (R := R) (j := j) (p := k) (q := ec') hjR hke
                              have hoT : o < T := by have h1 := HTOT.out; rw [HTV.out] at h1; have := HOJ.out; omega
                              clear hmr
                              obtain ⟨al, hal⟩ : ∃ al, al = dl R q m j + ec' := ⟨_, rfl⟩
                              have HAL := Lib.hid hal
                              rcases dl_cases R q m j with ⟨hsj, hdq⟩ | ⟨hsj, hdq⟩
                              · have hds : decide ((s : Int) ≤ (j : Int)) = true := by simp; omega
                                have hpl : i + 1 < al := by omega
                                have halb : al ≤ 300 := by omega
                                have HRK : Hid (rank R q m j (i + 1) = o) := Lib.hid (by
                                  have := rank3 (R := R) (q := q) (m := m) (j := j) k
                                  rw [hdq, show q + 1 + k = i + 1 by omega] at this
                                  rw [this, HOJ.out])
                                clear hal hdq
                                have cA := hD.arr.cell j
                                rw [dbArr_get hjR, if_pos hjR] at cA
                                have cP := (hD.blk j hjR).cell 1
                                simp only [List.getElem?_toArray, List.getElem?_cons_zero, List.getElem?_cons_succ] at cP
                                rw [← HAL.out] at cP
                                obtain ⟨hdat, hdl⟩ := hD.dat j hjR
                                rw [← HAL.out] at hdl
                                have cD := hdat.cell (i + 1)
                                rw [ints_get (by rw [hdl]; exact hpl)] at cD
                                have fD := hdat.frozen (i + 1)
                                have cR := (hg.below hD.below hg.lt).cell o
                                rw [ints_get (by rw [← HT.out]; exact hoT)] at cR
                                obtain ⟨zz, hzz⟩ : ∃ zz, zz = nth (fillC R q m ec' cw o j) (i + 1) := ⟨_, rfl⟩
                                rw [← hzz] at cD
                                clear hzz hdat hdl
                                go_wp2_with fail
                                refine wp_region_quiet_tail 13 (by kernel_rfl) (by kernel_rfl) ?_
                                simp only [List.take_succ_cons, List.take_zero, List.drop_succ_cons, List.drop_zero]
                                repeat (go_big_quiet_step (fail))
                                refine wpQuiet_nil ?_
                                intro _ hw''
                                obtain ⟨nr, rfl⟩ := hw''
                                have hDn := hD.kp0 ((Kp.refl [] wr).drewN nr) hsz
                                have hput := hDn.put hm1 hjR HRK.out
                                have hszn : w.heap.size ≤ (wr.drewN nr).heap.size := hsz
                                obtain ⟨w2, hw2⟩ : ∃ w2, w2 = wr.drewN nr := ⟨_, rfl⟩
                                rw [← hw2] at hDn hput hszn ⊢
                                have cD2 := (hDn.dat j hjR).1.cell (i + 1)
                                rw [ints_get (by rw [(hDn.dat j hjR).2, ← HAL.out]; exact hpl)] at cD2
                                have fD2 := (hDn.dat j hjR).1.frozen (i + 1)
                                obtain ⟨zz2, hzz2⟩ : ∃ zz, zz = nth (fillC R q m ec' cw o j) (i + 1) := ⟨_, rfl⟩
                                rw [← hzz2] at cD2
                                have HPUT := Lib.hid hput
                                clear hw2 hput hDn cA cP cD fD cR hzz2
                                go_wp2_with fail
                                go_roundw
                                case rel => exact ⟨j + 1, o + 1, by omega, by go_num, by go_num, Lib.hid (by rw [HOJ.out]; omega), HPUT.out, by simp [World.setCell]; omega⟩
                                case measure => simp [intOf]; omega
                              · have hds : decide ((s : Int) ≤ (j : Int)) = false := by simp; omega
                                have hpl : i < al := by omega
                                have halb : al ≤ 300 := by omega
                                have HRK : Hid (rank R q m j i = o) := Lib.hid (by
                                  have := rank3 (R := R) (q := q) (m := m) (j := j) k
                                  rw [hdq, show q + k = i by omega] at this
                                  rw [this, HOJ.out])
                                clear hal hdq
                                have cA := hD.arr.cell j
                                rw [dbArr_get hjR, if_pos hjR] at cA
                                have cP := (hD.blk j hjR).cell 1
                                simp only [List.getElem?_toArray, List.getElem?_cons_zero, List.getElem?_cons_succ] at cP
                                rw [← HAL.out] at cP
                                obtain ⟨hdat, hdl⟩ := hD.dat j hjR
                                rw [← HAL.out] at hdl
                                have cD := hdat.cell (i)
                                rw [ints_get (by rw [hdl]; exact hpl)] at cD
                                have fD := hdat.frozen (i)
                                have cR := (hg.below hD.below hg.lt).cell o
                                rw [ints_get (by rw [← HT.out]; exact hoT)] at cR
                                obtain ⟨zz, hzz⟩ : ∃ zz, zz = nth (fillC R q m ec' cw o j) (i) := ⟨_, rfl⟩
                                rw [← hzz] at cD
                                clear hzz hdat hdl
                                go_wp2_with fail
                                refine wp_region_quiet_tail 13 (by kernel_rfl) (by kernel_rfl) ?_
                                simp only [List.take_succ_cons, List.take_zero, List.drop_succ_cons, List.drop_zero]
                                repeat (go_big_quiet_step (fail))
                                refine wpQuiet_nil ?_
                                intro _ hw''
                                obtain ⟨nr, rfl⟩ := hw''
                                have hDn := hD.kp0 ((Kp.refl [] wr).drewN nr) hsz
                                have hput := hDn.put hm1 hjR HRK.out
                                have hszn : w.heap.size ≤ (wr.drewN nr).heap.size := hsz
                                obtain ⟨w2, hw2⟩ : ∃ w2, w2 = wr.drewN nr := ⟨_, rfl⟩
                                rw [← hw2] at hDn hput hszn ⊢
                                have cD2 := (hDn.dat j hjR).1.cell (i)
                                rw [ints_get (by rw [(hDn.dat j hjR).2, ← HAL.out]; exact hpl)] at cD2
                                have fD2 := (hDn.dat j hjR).1.frozen (i)
                                obtain ⟨zz2, hzz2⟩ : ∃ zz, zz = nth (fillC R q m ec' cw o j) (i) := ⟨_, rfl⟩
                                rw [← hzz2] at cD2
                                have HPUT := Lib.hid hput
                                clear hw2 hput hDn cA cP cD fD cR hzz2
                                go_wp2_with fail
                                go_roundw
                                case rel => exact ⟨j + 1, o + 1, by omega, by go_num, by go_num, Lib.hid (by rw [HOJ.out]; omega), HPUT.out, by simp [World.setCell]; omega⟩
                                case measure => simp [intOf]; omega
                            · have hdj : decide ((j : Int) < (R : Int)) = false := by simp; omega
                              have hje : j = R := by omega
                              have HOJ2 : Hid (o = q * R + m + (k + 1) * R) := Lib.hid (by rw [HOJ.out, hje, Nat.succ_mul])
                              clear hje
                              go_wp2_with fail
                              go_roundw
                              case rel => exact ⟨i + 1, k + 1, o, by omega, by omega, by go_num, rfl, HOJ2, hD, hsz⟩
                              case measure => simp [intOf]; omega
                        · have hdi2 : decide ((i : Int) < (a0 : Int)) = false := by simp; omega
                          have hkee : k = ec' := by omega
                          have hoT : o = total v := by rw [HO.out, hkee, HTOT.out]
                          rw [hoT] at hD
                          clear hkee hoT
                          go_wp2_with fail
                          go_ret2
                          exact ⟨RB, P, G, rfl, hD⟩
end
end Go.Proofs.YtcekbhhpcmhicaaGreatDoor
namespace Go.Proofs.YtcekbhhpcmhicaaGreatDoor
open Go.RowKit Go.QW

/-- from bit p on the bytes are just the bits bs, to their end -/
def HasEx (L : List Nat) (p : Nat) (bs : List Bool) : Prop := HasAt L p bs ∧ p + bs.length = 8 * L.length
theorem HasEx.left {L : List Nat} {p : Nat} {a b : List Bool} (h : HasEx L p (a ++ b)) : HasAt L p a := h.1.left
theorem HasEx.right {L : List Nat} {p : Nat} {a b : List Bool} (h : HasEx L p (a ++ b)) : HasEx L (p + a.length) b := ⟨h.1.right, by have := h.2; rw [List.length_append] at this; omega⟩
theorem HasEx.all {L : List Nat} {p : Nat} {a : List Bool} (h : HasEx L p a) : HasAt L p a := h.1
theorem num3 (L l : List Nat) (P k : Nat) (t : List Bool) (hk : k + 2 < l.length) (hd : ∀ k, k < l.length → 48 ≤ nth l k ∧ nth l k ≤ 57) (h : HasEx L P (numSeg (l.drop k) ++ t)) :
    ∃ x, valAt L P 10 = x ∧ x < 1000 ∧ 48 + x / 100 = nth l k ∧ 48 + x / 10 % 10 = nth l (k + 1) ∧ 48 + x % 10 = nth l (k + 2) ∧ HasEx L (P + 10) (numSeg (l.drop (k + 3)) ++ t) ∧ P + 10 ≤ 8 * L.length := by
  rw [drop3 (by omega), numSeg, List.append_assoc] at h
  have a := hd k (by omega)
  have b := hd (k + 1) (by omega)
  have c := hd (k + 2) (by omega)
  have hr := h.right
  rw [bitsOf_length] at hr
  exact ⟨_, h.left.val (by omega), by omega, by omega, by omega, by omega, hr, h.left.room⟩
theorem num2 (L l : List Nat) (P k : Nat) (t : List Bool) (hk : k + 2 = l.length) (hd : ∀ k, k < l.length → 48 ≤ nth l k ∧ nth l k ≤ 57) (h : HasEx L P (numSeg (l.drop k) ++ t)) :
    ∃ x, valAt L P 7 = x ∧ x < 100 ∧ 48 + x / 10 = nth l k ∧ 48 + x % 10 = nth l (k + 1) ∧ HasEx L (P + 7) t ∧ P + 7 ≤ 8 * L.length := by
  rw [drop2 hk, numSeg] at h
  have a := hd k (by omega)
  have b := hd (k + 1) (by omega)
  have hr := h.right
  rw [bitsOf_length] at hr
  exact ⟨_, h.left.val (by omega), by omega, by omega, by omega, hr, h.left.room⟩
theorem num1 (L l : List Nat) (P k : Nat) (t : List Bool) (hk : k + 1 = l.length) (hd : ∀ k, k < l.length → 48 ≤ nth l k ∧ nth l k ≤ 57) (h : HasEx L P (numSeg (l.drop k) ++ t)) :
    ∃ x, valAt L P 4 = x ∧ x < 10 ∧ 48 + x = nth l k ∧ HasEx L (P + 4) t ∧ P + 4 ≤ 8 * L.length := by
  rw [drop1 hk, numSeg] at h
  have a := hd k (by omega)
  have hr := h.right
  rw [bitsOf_length] at hr
  exact ⟨_, h.left.val (by omega), by omega, by omega, hr, h.left.room⟩
theorem num0 (L l : List Nat) (P k : Nat) (t : List Bool) (hk : l.length ≤ k) (h : HasEx L P (numSeg (l.drop k) ++ t)) : HasEx L P t := by
  rwa [List.drop_eq_nil_of_le hk, numSeg, List.nil_append] at h
theorem al2 (L l : List Nat) (P k : Nat) (t : List Bool) (hk : k + 1 < l.length) (hd : ∀ k, k < l.length → 0 ≤ alCode (nth l k)) (h : HasEx L P (alSeg (l.drop k) ++ t)) :
    ∃ x, valAt L P 11 = x ∧ x < 2025 ∧ ((x / 45 : Nat) : Int) = alCode (nth l k) ∧ ((x % 45 : Nat) : Int) = alCode (nth l (k + 1)) ∧ HasEx L (P + 11) (alSeg (l.drop (k + 2)) ++ t) ∧ P + 11 ≤ 8 * L.length := by
  rw [drop2' (by omega), alSeg, List.append_assoc] at h
  have a := hd k (by omega)
  have b := hd (k + 1) (by omega)
  have a2 := alCode_bd (nth l k)
  have b2 := alCode_bd (nth l (k + 1))
  have hr := h.right
  rw [bitsOf_length] at hr
  exact ⟨_, h.left.val (by omega), by omega, by omega, by omega, hr, h.left.room⟩
theorem al1 (L l : List Nat) (P k : Nat) (t : List Bool) (hk : k + 1 = l.length) (hd : ∀ k, k < l.length → 0 ≤ alCode (nth l k)) (h : HasEx L P (alSeg (l.drop k) ++ t)) :
    ∃ x, valAt L P 6 = x ∧ x < 45 ∧ ((x : Nat) : Int) = alCode (nth l k) ∧ HasEx L (P + 6) t ∧ P + 6 ≤ 8 * L.length := by
  rw [drop1 hk, alSeg] at h
  have a := hd k (by omega)
  have a2 := alCode_bd (nth l k)
  have hr := h.right
  rw [bitsOf_length] at hr
  exact ⟨_, h.left.val (by omega), by omega, by omega, hr, h.left.room⟩
theorem al0 (L l : List Nat) (P k : Nat) (t : List Bool) (hk : l.length ≤ k) (h : HasEx L P (alSeg (l.drop k) ++ t)) : HasEx L P t := by
  rwa [List.drop_eq_nil_of_le hk, alSeg, List.nil_append] at h
theorem by1 (L l : List Nat) (P k : Nat) (t : List Bool) (hk : k < l.length) (hd : ∀ k, nth l k < 256) (h : HasEx L P ((l.drop k).flatMap (bitsOf 8) ++ t)) :
    valAt L P 8 = nth l k ∧ HasEx L (P + 8) ((l.drop (k + 1)).flatMap (bitsOf 8) ++ t) ∧ P + 8 ≤ 8 * L.length := by
  have e : l.drop k = nth l k :: l.drop (k + 1) := by rw [nth_get hk]; exact List.drop_eq_getElem_cons hk
  rw [e, List.flatMap_cons, List.append_assoc] at h
  have hr := h.right
  rw [bitsOf_length] at hr
  exact ⟨h.left.val (by have := hd k; omega), hr, h.left.room⟩
theorem by0 (L l : List Nat) (P k : Nat) (t : List Bool) (hk : l.length ≤ k) (h : HasEx L P ((l.drop k).flatMap (bitsOf 8) ++ t)) : HasEx L P t := by
  rwa [List.drop_eq_nil_of_le hk, List.flatMap_nil, List.nil_append] at h
/-- the alphanumeric characters by their numbers -/
def alChar (x : Nat) : Nat := [48, 49, 50, 51, 52, 53, 54, 55, 56, 57, 65, 66, 67, 68, 69, 70, 71, 72, 73, 74, 75, 76, 77, 78, 79, 80, 81, 82, 83, 84, 85, 86, 87, 88, 89, 90, 32, 36, 37, 42, 43, 45, 46, 47, 58].getD x 0
theorem alChar_all : ∀ c : Fin 96, alCode c.val = -1 ∨ alChar (alCode c.val).toNat = c.val := by decide +kernel
theorem alChar_code (x c : Nat) (h : ((x : Nat) : Int) = alCode c) : alChar x = c := by
  rcases Nat.lt_or_ge c 96 with hc | hc
  · rcases alChar_all ⟨c, hc⟩ with e | e
    · simp only at e; omega
    · simp only at e; rw [← h, Int.toNat_natCast] at e; exact e
  · rw [alCode_big c hc] at h; omega
end Go.Proofs.YtcekbhhpcmhicaaGreatDoor
