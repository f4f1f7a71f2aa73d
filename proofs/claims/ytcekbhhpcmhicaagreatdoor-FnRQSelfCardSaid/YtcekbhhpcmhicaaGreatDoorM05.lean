/- MultiplyByMonomial; Sum, coefficient, one term, inverse; Sum, coefficient, one term, inverse; Regions that draw their order: operations that read and calls that only draw, in one walk, and then a tail (a store, say) that waits for all of them. After the library's wp_region_still_tail, over the class of worlds that differ by draws; Product of polynomials (both not 0). -/
import Derived.Test.YtcekbhhpcmhicaaGreatDoorM04
import Derived.Deep.Quiet
import Derived.Deep.RegionHeld3
import Derived.StillTail
import Derived.Tactics
namespace Go.Proofs.YtcekbhhpcmhicaaGreatDoor
open Go.RowKit Go.QW Go.QGF

theorem int_info : (Tryz.prog.info? 3).map (fun i => (i.zero, i.size, i.bytes)) = some (some (.int .i64 0), 1, 8) := by kernel_rfl
set_option maxRecDepth 100000 in
theorem monoMul_any (F p : Nat) (cs : List Nat) (d c : Int) (w : World) (hF : Field w F) (hp : Poly w F p cs) (hok : Ok cs) (hne : 0 < cs.length) (hl : cs.length ≤ 10000)
    (hd : 0 ≤ d) (hd' : d ≤ 10000) (hc : 0 ≤ c) (hc' : c < 256) :
    Calls Tryz.prog 191 #[.pointer (some ⟨p, 0, none⟩), .int .i64 d, .int .i64 c] w
      fun e w' => ∃ q, e = .returned (.tuple #[.pointer (some ⟨q, 0, none⟩), .nilIface]) ∧ Poly w' F q (monoMul cs d.toNat c.toNat) ∧ Below w.heap.size w w' := by
  obtain ⟨d, rfl⟩ := Int.eq_ofNat_of_zero_le hd
  obtain ⟨c, rfl⟩ := Int.eq_ofNat_of_zero_le hc
  rw [Int.toNat_natCast, Int.toNat_natCast]
  obtain ⟨g, off, cap, hb, hr, hcap, hcap2⟩ := hp.rd
  obtain ⟨ge, gl, z, o, hf, -, -, hz, -⟩ := hF.ex
  have hpl := hb.lt
  have hFl := hf.lt
  have hgl := hr.1
  have b0 := hb.cell 0
  have b1 := hb.cell 1
  have f2 := hf.cell 2
  simp only [List.getElem?_toArray, List.getElem?_cons_zero, List.getElem?_cons_succ] at b0 b1 f2
  by_cases c0 : c = 0
  · subst c0
    go_enter Tryz.func191, Tryz.ntmps191
    go_wp2
    go_ret2
    exact ⟨z, rfl, hz, Below.refl _ _⟩
  have hcb : ((c : Int) == 0) = false := by rw [beq_eq_false_iff_ne]; omega
  have hmk := make_flat Tryz.underlying138 int_info (by decide) (cs.length + d) ((cs.length : Int) + d) (by omega) (by omega)
  go_enter Tryz.func191, Tryz.ntmps191
  go_wp2
  go_loopw [10] (fun t wr => ∃ k : Nat, k ≤ cs.length ∧ t = .int .i64 k ∧ Blk wr w.heap.size 3 (ints .i64 (tab (cs.length + d) fun i => if i < k then gm (nth cs i) c else 0)) ∧ Below w.heap.size w wr) (fun t _ => cs.length - (intOf t).toNat)
  case atStart =>
    refine ⟨0, by omega, rfl, ?_, (Below.refl _ _).alloc (Nat.le_refl _) _⟩
    rw [tab_congr (g := fun _ => 0) (fun i _ => by simp), tab_zero]
    exact Blk.new _ _ _
  case round =>
    obtain ⟨k, hk, rfl, hB, hw⟩ := hrel
    have hsz := hw.size
    by_cases hlt : k < cs.length
    · have e0 := (hw.cell (p := ⟨p, 0, none⟩) hpl).trans b0
      have e1 := (hw.cell (p := ⟨p, 1, none⟩) hpl).trans b1
      have hr' := hr.below hw
      have e2 := hr'.at_ hlt
      have hF' := hF.below hw
      have hn : nth cs k < 256 := hok.getD k
      have e3 := (hB.cell k).trans (ints_get (by rw [tab_length]; omega))
      have e4 := hB.frozen k
      have n1 : p ≠ w.heap.size := by omega
      have n2 : g ≠ w.heap.size := by omega
      have e5 : (k : Int) < (cs.length : Int) := by omega
      have e6 : (0 : Int) ≤ (k : Int) := by omega
      have e7 : (k : Int) < (cs.length : Int) + (d : Int) := by omega
      go_wp2
      go_region_held3 (fun w' => w'.cell? ⟨p, 0, none⟩ = some (.pointer (some ⟨F, 0, none⟩)) ∧ w'.cell? ⟨p, 1, none⟩ = some (.slice (some ⟨g, off, none⟩) cs.length cap) ∧ w'.cell? ⟨g, off + k, none⟩ = some (.int .i64 (nth cs k : Nat))) (go_keep)
        (first | (go_at_call 229; refine (mul_any F _ _ _ ?_ ?_ ?_ ?_ ?_).mono ?_; (exact hF'.heap rfl); (omega); (omega); (omega); (omega); rintro e w' ⟨rfl, n, rfl⟩))
      go_wp2
      go_roundw
      case rel =>
        refine ⟨k + 1, by omega, by go_num, ?_, (below_drewN hw _).setCell (Nat.le_refl _) _⟩
        have := (hB.drewN (1 + n)).set_ k (.int .i64 ((gm (nth cs k) c : Nat) : Int))
        rw [ints_set, tab_set] at this
        rw [tab_congr (g := fun i => if i = k then gm (nth cs k) c else if i < k then gm (nth cs i) c else 0) (fun i _ => by
          by_cases h1 : i = k
          · subst h1; simp
          · rw [if_neg h1]; by_cases h2 : i < k
            · rw [if_pos h2, if_pos (by omega)]
            · rw [if_neg h2, if_neg (by omega)])]
        exact this
      case measure => simp [intOf]; omega
    · have hke : k = cs.length := by omega
      subst hke
      have e0 := (hw.cell (p := ⟨p, 0, none⟩) hpl).trans b0
      have hl2 : (tab (cs.length + d) fun i => if i < cs.length then gm (nth cs i) c else 0) = cs.map (gm · c) ++ List.replicate d 0 := by
        apply ext_nth (by simp [tab_length])
        intro i hi
        rw [tab_length] at hi
        rw [nth_tab hi]
        by_cases h1 : i < cs.length
        · rw [if_pos h1, nth_append_left (by simpa using h1), nth_map (gm · c) h1]
        · rw [if_neg h1]
          have := nth_append_right (l := cs.map (gm · c)) (m := List.replicate d 0) (i := i - cs.length)
          rw [List.length_map, show cs.length + (i - cs.length) = i from by omega] at this
          rw [this, nth_replicate, ite_self]
      rw [hl2] at hB
      have hm : monoMul cs d c = norm (cs.map (gm · c) ++ List.replicate d 0) := by unfold monoMul; rw [if_neg c0]
      have HM := Lib.hid hm
      have HR := Rd.of_blk hB
      have hln : (cs.map (gm · c) ++ List.replicate d 0).length = cs.length + d := by simp
      have HC := poly_new F w.heap.size 0 (cs.length + d) (cs.length + d) _ wr HR hln.symm (by omega) (by omega) (by omega)
      have HCC := Lib.hid HC
      clear hm hl2 hln HC HR hB
      go_wp2_with fail
      refine (HCC.out).mono ?_
      rintro e w' ⟨q, rfl, hq, hb'⟩
      go_wp2
      go_ret2
      refine ⟨q, rfl, ?_, hw.trans (hb'.mono hsz)⟩
      rw [HM.out]; exact hq
end Go.Proofs.YtcekbhhpcmhicaaGreatDoor
namespace Go.Proofs.YtcekbhhpcmhicaaGreatDoor
open Go.RowKit Go.QW Go.QGF

theorem xor_any (a b : Int) (w : World) (ha : 0 ≤ a) (ha' : a < 1000000) (hb : 0 ≤ b) (hb' : b < 1000000) :
    Calls Tryz.prog 267 #[.int .i64 a, .int .i64 b] w fun e w' => e = .returned (.int .i64 ((a.toNat ^^^ b.toNat : Nat) : Int)) ∧ w = w' := by
  obtain ⟨a, rfl⟩ := Int.eq_ofNat_of_zero_le ha
  obtain ⟨b, rfl⟩ := Int.eq_ofNat_of_zero_le hb
  rw [Int.toNat_natCast, Int.toNat_natCast]
  have h := i64_xor a b (by omega) (by omega)
  go_enter Tryz.func267, Tryz.ntmps267
  go_wp2
  go_ret
  exact ⟨rfl, rfl⟩

theorem coef_any (F p : Nat) (cs : List Nat) (d : Int) (w : World) (hp : Poly w F p cs) (hd : 0 ≤ d) (hd' : d < cs.length) (hl : cs.length ≤ 10000) :
    Calls Tryz.prog 231 #[.pointer (some ⟨p, 0, none⟩), .int .i64 d] w
      fun e w' => e = .returned (.int .i64 (nth cs (cs.length - 1 - d.toNat) : Nat)) ∧ ∃ n, w' = w.drewN n := by
  obtain ⟨d, rfl⟩ := Int.eq_ofNat_of_zero_le hd
  rw [Int.toNat_natCast]
  obtain ⟨g, off, cap, hb, hr, hcap, hcap2⟩ := hp.rd
  have b1 := hb.cell 1
  simp only [List.getElem?_toArray, List.getElem?_cons_zero, List.getElem?_cons_succ] at b1
  have hk : cs.length - 1 - d < cs.length := by omega
  have e2 := hr.at_ hk
  obtain ⟨i, hi⟩ : ∃ i : Nat, i = cs.length - 1 - d := ⟨_, rfl⟩
  rw [← hi] at e2 ⊢
  have hi2 : ((cs.length : Int) - 1 - d) = i := by omega
  have e6 : (0 : Int) ≤ (cs.length : Int) - 1 - d := by omega
  have e7 : (cs.length : Int) - 1 - d < cs.length := by omega
  have hi3 : i < cs.length := by omega
  have HI := Lib.hid hi
  clear hi
  go_enter Tryz.func231, Tryz.ntmps231
  go_wp2
  go_quiet (fail)
  go_wp2
  go_ret
  exact ⟨rfl, _, rfl⟩

theorem inv_any (F : Nat) (a : Int) (w : World) (hF : Field w F) (ha : 1 ≤ a) (ha' : a < 256) :
    Calls Tryz.prog 233 #[.pointer (some ⟨F, 0, none⟩), .int .i64 a] w
      fun e w' => e = .returned (.tuple #[.int .i64 (ex (255 - lg a.toNat) : Nat), .nilIface]) ∧ ∃ n, w' = w.drewN n := by
  obtain ⟨a, rfl⟩ := Int.eq_ofNat_of_zero_le (a := a) (by omega)
  rw [Int.toNat_natCast]
  obtain ⟨ge, gl, z, o, hf, he, hl, -, -⟩ := hF.ex
  have hf0 := hf.cell 0
  have hf1 := hf.cell 1
  have hf4 := hf.cell 4
  simp only [List.getElem?_toArray, List.getElem?_cons_zero, List.getElem?_cons_succ] at hf0 hf1 hf4
  have hla := (hl.cell a).trans (logs_get (by omega))
  have h1 := lg_lt (a := a) (by omega)
  have hk := (he.cell (255 - lg a)).trans (exps_get (by omega))
  obtain ⟨i, hi⟩ : ∃ i : Nat, i = 255 - lg a := ⟨_, rfl⟩
  rw [← hi] at hk ⊢
  have e5 : (256 : Int) - (lg a : Nat) - 1 = i := by omega
  have e6 : (0 : Int) ≤ i := by omega
  have e7 : (i : Int) < 256 := by omega
  have ea : (a : Int) < (256 : Int) := by omega
  have ea0 : (0 : Int) ≤ (a : Int) := by omega
  have ha0 : ((a : Int) == 0) = false := by rw [beq_eq_false_iff_ne]; omega
  have HI := Lib.hid hi
  clear he hl hf hF hi
  go_enter Tryz.func233, Tryz.ntmps233
  go_wp2
  go_quiet (fail)
  go_wp2
  go_ret2
  exact ⟨rfl, _, rfl⟩

set_option maxRecDepth 100000 in
theorem mono_any (F : Nat) (d c : Int) (w : World) (hF : Field w F) (hd : 0 ≤ d) (hd' : d ≤ 10000) (hc : 0 ≤ c) (hc' : c < 256) :
    Calls Tryz.prog 234 #[.pointer (some ⟨F, 0, none⟩), .int .i64 d, .int .i64 c] w
      fun e w' => ∃ q, e = .returned (.tuple #[.pointer (some ⟨q, 0, none⟩), .nilIface]) ∧ Poly w' F q (mono d.toNat c.toNat) ∧ Below w.heap.size w w' := by
  obtain ⟨d, rfl⟩ := Int.eq_ofNat_of_zero_le hd
  obtain ⟨c, rfl⟩ := Int.eq_ofNat_of_zero_le hc
  rw [Int.toNat_natCast, Int.toNat_natCast]
  obtain ⟨ge, gl, z, o, hf, -, -, hz, -⟩ := hF.ex
  have f2 := hf.cell 2
  simp only [List.getElem?_toArray, List.getElem?_cons_zero, List.getElem?_cons_succ] at f2
  by_cases c0 : c = 0
  · subst c0
    go_enter Tryz.func234, Tryz.ntmps234
    go_wp2
    go_ret2
    exact ⟨z, rfl, hz, Below.refl _ _⟩
  have hcb : ((c : Int) == 0) = false := by rw [beq_eq_false_iff_ne]; omega
  have hmk := make_flat Tryz.underlying138 int_info (by decide) (d + 1) ((d : Int) + 1) (by omega) (by omega)
  have hw1 := Blk.new w 3 (ints .i64 (List.replicate (d + 1) 0))
  have e3 := (hw1.cell 0).trans (ints_get (by simp))
  have e4 := hw1.frozen 0
  have he : (ints .i64 (List.replicate (d + 1) 0)).setIfInBounds 0 (.int .i64 ((c : Nat) : Int)) = ints .i64 (c :: List.replicate d 0) := by
    rw [ints_set, List.replicate_succ, List.set_cons_zero]
  have hm := mono_norm (d := d) c0
  have HM := Lib.hid hm
  clear hm hw1 c0
  go_enter Tryz.func234, Tryz.ntmps234
  go_wp2_with fail
  refine (poly_new F w.heap.size 0 (d + 1) (d + 1) (c :: List.replicate d 0) _ (Rd.of_blk (Blk.new _ _ _)) (by simp) (by omega) (by omega) (by omega)).mono ?_
  rintro e w' ⟨q, rfl, hq, hb'⟩
  go_wp2
  go_ret2
  refine ⟨q, rfl, ?_, ((Below.refl _ _).alloc (Nat.le_refl _) _).trans (hb'.mono (by simp))⟩
  rw [← HM.out]; exact hq

end Go.Proofs.YtcekbhhpcmhicaaGreatDoor
namespace Go.Proofs.YtcekbhhpcmhicaaGreatDoor
open Go.RowKit Go.QW Go.QGF

set_option maxRecDepth 100000 in
theorem add_any (F p q : Nat) (cs ds : List Nat) (w : World) (hp : Poly w F p cs) (hq : Poly w F q ds) (hcs : 0 < cs.length) (hds : 0 < ds.length) (hl1 : cs.length ≤ 10000) (hl2 : ds.length ≤ 10000) (ok1 : Ok cs) (ok2 : Ok ds) :
    Calls Tryz.prog 235 #[.pointer (some ⟨p, 0, none⟩), .pointer (some ⟨q, 0, none⟩)] w
      fun e w' => ∃ r, e = .returned (.tuple #[.pointer (some ⟨r, 0, none⟩), .nilIface]) ∧ Poly w' F r (addP cs ds) ∧ Below w.heap.size w w' := by
  obtain ⟨gp, offp, capp, hbp, hrp, hcapp, hcapp2⟩ := hp.rd
  obtain ⟨gq, offq, capq, hbq, hrq, hcapq, hcapq2⟩ := hq.rd
  have p0 := hbp.cell 0
  have p1 := hbp.cell 1
  have q0 := hbq.cell 0
  have q1 := hbq.cell 1
  simp only [List.getElem?_toArray, List.getElem?_cons_zero, List.getElem?_cons_succ] at p0 p1 q0 q1
  have hpl := hbp.lt
  have hql := hbq.lt
  have hgpl := hrp.1
  have hgql := hrq.1
  have p2 := hrp.at_ hcs
  have q2 := hrq.at_ hds
  rw [Nat.add_zero] at p2 q2
  have hne := fun w => neq_ptr_same (P := Tryz.prog) Tryz.underlying159 (te := 277) (by kernel_rfl) ⟨F, 0, none⟩ w
  have hcsI : (0 : Int) < (cs.length : Int) := by omega
  have hdsI : (0 : Int) < (ds.length : Int) := by omega
  by_cases hz1 : nth cs 0 = 0
  · have hz : (((nth cs 0 : Nat) : Int) == 0) = true := by simp [hz1]
    have hadd : addP cs ds = ds := by unfold addP; rw [if_pos (by rw [← nth_zero]; exact hz1)]
    rw [hadd]
    clear hz1 hadd
    go_enter Tryz.func235, Tryz.ntmps235
    go_wp2
    go_quiet (fail)
    go_wp2
    go_ret2
    exact ⟨q, rfl, hq.heap rfl, below_drewN (Below.refl _ _) _⟩
  have hz : (((nth cs 0 : Nat) : Int) == 0) = false := by simpa using hz1
  by_cases hz2 : nth ds 0 = 0
  · have hz' : (((nth ds 0 : Nat) : Int) == 0) = true := by simp [hz2]
    have hadd : addP cs ds = cs := by unfold addP; rw [if_neg (by rw [← nth_zero]; exact hz1), if_pos (by rw [← nth_zero]; exact hz2)]
    rw [hadd]
    clear hz1 hz2 hadd
    go_enter Tryz.func235, Tryz.ntmps235
    go_wp2
    go_quiet (fail)
    go_wp2
    go_ret2
    exact ⟨p, rfl, hp.heap rfl, below_drewN (Below.refl _ _) _⟩
  have hz' : (((nth ds 0 : Nat) : Int) == 0) = false := by simpa using hz2
  by_cases hlen : ds.length < cs.length
  · have hadd : addP cs ds = norm (cs.take (cs.length - ds.length) ++ List.zipWith (· ^^^ ·) ds (cs.drop (cs.length - ds.length))) := by
      unfold addP; rw [if_neg (by rw [← nth_zero]; exact hz1), if_neg (by rw [← nth_zero]; exact hz2), if_pos hlen]
    obtain ⟨df, hdf⟩ : ∃ df, df = cs.length - ds.length := ⟨_, rfl⟩
    rw [← hdf] at hadd
    have hdn : cs.length = ds.length + df := by omega
    have hdfI : (cs.length : Int) - (ds.length : Int) = (df : Int) := by omega
    have hlenI : (ds.length : Int) < (cs.length : Int) := by omega
    have HA := Lib.hid hadd
    have HD := Lib.hid hdf
    have HN := Lib.hid hdn
    have hsl : ds.length + df ≤ 10000 := by omega
    have hdl : df ≤ cs.length := by omega
    have hdlI : (df : Int) ≤ (cs.length : Int) := by omega
    clear hz1 hz2 hadd hdf hdn
    have hmk := make_flat Tryz.underlying138 int_info (by decide) cs.length (cs.length : Int) rfl (by omega)
    go_enter Tryz.func235, Tryz.ntmps235
    go_wp2
    go_quiet (fail)
    go_wp2
    refine upon_copy_ints Tryz.underlying138 (by kernel_rfl) .i64 3 (List.replicate cs.length 0) (cs.take df) (Blk.new (w.drewN _) _ _) ?_ ?_ ?_ ?_
    all_goals have hBW : Below w.heap.size w ((w.drewN nq).alloc (Obj.cells (ints IntKind.i64 (List.replicate cs.length 0)) 3)) := (below_drewN (Below.refl _ _) _).alloc (Nat.le_refl _) _
    · rw [List.length_take]
    · intro j hj
      rw [List.length_take] at hj
      rw [nth_take (by omega)]
      exact (hrp.below hBW).at_ (by omega)
    · rw [List.length_take, List.length_replicate]; omega
    intro w1 hb1 hk1 _
    have hw1 := below_of_kp hBW hk1 (by simp) (by simp)
    have hl1' : splice (List.replicate cs.length 0) 0 (cs.take df) = tab cs.length (fun j => if j < df then nth cs j else if j < df then nth ds (j - df) ^^^ nth cs j else 0) := by
      have hsp : 0 + (cs.take df).length ≤ (List.replicate cs.length 0).length := by rw [List.length_take, List.length_replicate]; omega
      apply ext_nth
      · rw [length_splice _ _ _ hsp, tab_length, List.length_replicate]
      · intro i hi
        rw [length_splice _ _ _ hsp, List.length_replicate] at hi
        rw [nth_splice hsp, nth_tab hi, if_neg (by omega), List.length_take, Nat.zero_add, Nat.min_eq_left hdl, Nat.sub_zero]
        by_cases h : i < df
        · rw [if_pos h, if_pos h, nth_take h]
        · rw [if_neg h, if_neg h, if_neg h, nth_replicate, ite_self]
    rw [hl1'] at hb1
    clear hBW hl1'
    go_wp2
    go_loopw [10] (fun t wr => ∃ i : Nat, df ≤ i ∧ i ≤ cs.length ∧ t = .int .i64 i ∧ Blk wr w.heap.size 3 (ints .i64 (tab cs.length (fun j => if j < df then nth cs j else if j < i then nth ds (j - df) ^^^ nth cs j else 0))) ∧ Below w.heap.size w wr) (fun t _ => cs.length - (intOf t).toNat)
    case atStart => exact ⟨df, Nat.le_refl _, hdl, rfl, hb1, hw1⟩
    case round =>
      obtain ⟨i, hi1, hi2, rfl, hB, hw⟩ := hrel
      have hsz := hw.size
      clear hb1 hk1 hw1
      by_cases hlt : i < cs.length
      · obtain ⟨m, hm⟩ : ∃ m, m = i - df := ⟨_, rfl⟩
        have hsx : m < ds.length := by have := HN.out; omega
        have hmI : (i : Int) - (df : Int) = (m : Int) := by omega
        have hmi : m + df = i := by omega
        have HM := Lib.hid hmi
        clear hm hmi
        have e1 := (hrp.below hw).at_ hlt
        have e2 := (hrq.below hw).at_ hsx
        have v1 : nth cs i < 256 := ok1.getD i
        have v2 : nth ds m < 256 := ok2.getD m
        have e3 := (hB.cell i).trans (ints_get (by rw [tab_length]; exact hlt))
        have e4 := hB.frozen i
        have n1 : gp ≠ w.heap.size := by omega
        have n2 : gq ≠ w.heap.size := by omega
        have e5 : (i : Int) < (cs.length : Int) := by omega
        have e6 : (0 : Int) ≤ (m : Int) := by omega
        have e7 : (m : Int) < (ds.length : Int) := by omega
        have e8 : (0 : Int) ≤ (i : Int) := by omega
        have hW : IntKind.i64.wrap (m : Int) = (m : Int) := wrap_nat_i64 m (by omega)
        go_wp2
        go_region_held3 (fun w' => w'.cell? ⟨gp, offp + i, none⟩ = some (.int .i64 (nth cs i : Nat)) ∧ w'.cell? ⟨gq, offq + m, none⟩ = some (.int .i64 (nth ds m : Nat))) (go_keep)
          (first | (go_at_call 267; refine (xor_any _ _ _ ?_ ?_ ?_ ?_).mono ?_; (omega); (omega); (omega); (omega); rintro e w' ⟨rfl, rfl⟩))
        clear hW
        go_wp2
        go_roundw
        case rel =>
          refine ⟨i + 1, by have := HM.out; omega, by omega, by go_num, ?_, (below_drewN hw _).setCell (Nat.le_refl _) _⟩
          have := (hB.drewN 1).set_ i (.int .i64 ((nth ds m ^^^ nth cs i : Nat) : Int))
          rw [ints_set, tab_set] at this
          rw [tab_congr (g := fun j => if j = i then nth ds m ^^^ nth cs i else if j < df then nth cs j else if j < i then nth ds (j - df) ^^^ nth cs j else 0) (fun j _ => by
            by_cases h1 : j = i
            · subst h1; have := HM.out; rw [if_neg (by omega), if_pos (by omega), if_pos rfl, show j - df = m from by omega]
            · rw [if_neg h1]; by_cases h2 : j < df
              · rw [if_pos h2, if_pos h2]
              · rw [if_neg h2, if_neg h2]; by_cases h3 : j < i
                · rw [if_pos h3, if_pos (by omega)]
                · rw [if_neg h3, if_neg (by omega)])]
          exact this
        case measure => simp [intOf]; omega
      · have hie : i = cs.length := by omega
        subst hie
        have e0 := (hw.cell (p := ⟨p, 0, none⟩) hpl).trans p0
        have hfin : tab cs.length (fun j => if j < df then nth cs j else if j < cs.length then nth ds (j - df) ^^^ nth cs j else 0) = cs.take df ++ List.zipWith (· ^^^ ·) ds (cs.drop df) := by
          have hdn := HN.out
          have hl4 : (List.zipWith (· ^^^ ·) ds (cs.drop df)).length = ds.length := by simp; omega
          apply ext_nth
          · rw [tab_length, List.length_append, hl4, List.length_take]; omega
          · intro j hj
            rw [tab_length] at hj
            rw [nth_tab hj]
            by_cases h : j < df
            · rw [if_pos h, nth_append_left (by rw [List.length_take]; omega), nth_take h]
            · rw [if_neg h, if_pos hj]
              have := nth_append_right (l := cs.take df) (m := List.zipWith (· ^^^ ·) ds (cs.drop df)) (i := j - df)
              rw [List.length_take, Nat.min_eq_left hdl, show df + (j - df) = j from by omega] at this
              rw [this, nth_zip (by omega) (by rw [List.length_drop]; omega), nth_drop, show df + (j - df) = j from by omega]
        have hlf : cs.length = (cs.take df ++ List.zipWith (· ^^^ ·) ds (cs.drop df)).length := by rw [← hfin, tab_length]
        rw [hfin] at hB
        have HF := Lib.hid hlf
        have HB := Lib.hid hB
        clear hfin hlf hB
        go_wp2_with fail
        refine (poly_new F w.heap.size 0 _ _ _ _ (Rd.of_blk HB.out) HF.out (by omega) (by omega) (by omega)).mono ?_
        rintro e w' ⟨r, rfl, hr', hb'⟩
        go_wp2
        go_ret2
        refine ⟨r, rfl, ?_, hw.trans (hb'.mono hsz)⟩
        rw [HA.out]; exact hr'
  · have hadd : addP cs ds = norm (ds.take (ds.length - cs.length) ++ List.zipWith (· ^^^ ·) cs (ds.drop (ds.length - cs.length))) := by
      unfold addP; rw [if_neg (by rw [← nth_zero]; exact hz1), if_neg (by rw [← nth_zero]; exact hz2), if_neg hlen]
    obtain ⟨df, hdf⟩ : ∃ df, df = ds.length - cs.length := ⟨_, rfl⟩
    rw [← hdf] at hadd
    have hdn : ds.length = cs.length + df := by omega
    have hdfI : (ds.length : Int) - (cs.length : Int) = (df : Int) := by omega
    have hlenI : (cs.length : Int) ≤ (ds.length : Int) := by omega
    have HA := Lib.hid hadd
    have HD := Lib.hid hdf
    have HN := Lib.hid hdn
    have hsl : cs.length + df ≤ 10000 := by omega
    have hdl : df ≤ ds.length := by omega
    have hdlI : (df : Int) ≤ (ds.length : Int) := by omega
    clear hz1 hz2 hadd hdf hdn
    have hmk := make_flat Tryz.underlying138 int_info (by decide) ds.length (ds.length : Int) rfl (by omega)
    go_enter Tryz.func235, Tryz.ntmps235
    go_wp2
    go_quiet (fail)
    go_wp2
    refine upon_copy_ints Tryz.underlying138 (by kernel_rfl) .i64 3 (List.replicate ds.length 0) (ds.take df) (Blk.new (w.drewN _) _ _) ?_ ?_ ?_ ?_
    all_goals have hBW : Below w.heap.size w ((w.drewN nq).alloc (Obj.cells (ints IntKind.i64 (List.replicate ds.length 0)) 3)) := (below_drewN (Below.refl _ _) _).alloc (Nat.le_refl _) _
    · rw [List.length_take]
    · intro j hj
      rw [List.length_take] at hj
      rw [nth_take (by omega)]
      exact (hrq.below hBW).at_ (by omega)
    · rw [List.length_take, List.length_replicate]; omega
    intro w1 hb1 hk1 _
    have hw1 := below_of_kp hBW hk1 (by simp) (by simp)
    have hl1' : splice (List.replicate ds.length 0) 0 (ds.take df) = tab ds.length (fun j => if j < df then nth ds j else if j < df then nth cs (j - df) ^^^ nth ds j else 0) := by
      have hsp : 0 + (ds.take df).length ≤ (List.replicate ds.length 0).length := by rw [List.length_take, List.length_replicate]; omega
      apply ext_nth
      · rw [length_splice _ _ _ hsp, tab_length, List.length_replicate]
      · intro i hi
        rw [length_splice _ _ _ hsp, List.length_replicate] at hi
        rw [nth_splice hsp, nth_tab hi, if_neg (by omega), List.length_take, Nat.zero_add, Nat.min_eq_left hdl, Nat.sub_zero]
        by_cases h : i < df
        · rw [if_pos h, if_pos h, nth_take h]
        · rw [if_neg h, if_neg h, if_neg h, nth_replicate, ite_self]
    rw [hl1'] at hb1
    clear hBW hl1'
    go_wp2
    go_loopw [10] (fun t wr => ∃ i : Nat, df ≤ i ∧ i ≤ ds.length ∧ t = .int .i64 i ∧ Blk wr w.heap.size 3 (ints .i64 (tab ds.length (fun j => if j < df then nth ds j else if j < i then nth cs (j - df) ^^^ nth ds j else 0))) ∧ Below w.heap.size w wr) (fun t _ => ds.length - (intOf t).toNat)
    case atStart => exact ⟨df, Nat.le_refl _, hdl, rfl, hb1, hw1⟩
    case round =>
      obtain ⟨i, hi1, hi2, rfl, hB, hw⟩ := hrel
      have hsz := hw.size
      clear hb1 hk1 hw1
      by_cases hlt : i < ds.length
      · obtain ⟨m, hm⟩ : ∃ m, m = i - df := ⟨_, rfl⟩
        have hsx : m < cs.length := by have := HN.out; omega
        have hmI : (i : Int) - (df : Int) = (m : Int) := by omega
        have hmi : m + df = i := by omega
        have HM := Lib.hid hmi
        clear hm hmi
        have e1 := (hrq.below hw).at_ hlt
        have e2 := (hrp.below hw).at_ hsx
        have v1 : nth ds i < 256 := ok2.getD i
        have v2 : nth cs m < 256 := ok1.getD m
        have e3 := (hB.cell i).trans (ints_get (by rw [tab_length]; exact hlt))
        have e4 := hB.frozen i
        have n1 : gq ≠ w.heap.size := by omega
        have n2 : gp ≠ w.heap.size := by omega
        have e5 : (i : Int) < (ds.length : Int) := by omega
        have e6 : (0 : Int) ≤ (m : Int) := by omega
        have e7 : (m : Int) < (cs.length : Int) := by omega
        have e8 : (0 : Int) ≤ (i : Int) := by omega
        have hW : IntKind.i64.wrap (m : Int) = (m : Int) := wrap_nat_i64 m (by omega)
        go_wp2
        go_region_held3 (fun w' => w'.cell? ⟨gq, offq + i, none⟩ = some (.int .i64 (nth ds i : Nat)) ∧ w'.cell? ⟨gp, offp + m, none⟩ = some (.int .i64 (nth cs m : Nat))) (go_keep)
          (first | (go_at_call 267; refine (xor_any _ _ _ ?_ ?_ ?_ ?_).mono ?_; (omega); (omega); (omega); (omega); rintro e w' ⟨rfl, rfl⟩))
        clear hW
        go_wp2
        go_roundw
        case rel =>
          refine ⟨i + 1, by have := HM.out; omega, by omega, by go_num, ?_, (below_drewN hw _).setCell (Nat.le_refl _) _⟩
          have := (hB.drewN 1).set_ i (.int .i64 ((nth cs m ^^^ nth ds i : Nat) : Int))
          rw [ints_set, tab_set] at this
          rw [tab_congr (g := fun j => if j = i then nth cs m ^^^ nth ds i else if j < df then nth ds j else if j < i then nth cs (j - df) ^^^ nth ds j else 0) (fun j _ => by
            by_cases h1 : j = i
            · subst h1; have := HM.out; rw [if_neg (by omega), if_pos (by omega), if_pos rfl, show j - df = m from by omega]
            · rw [if_neg h1]; by_cases h2 : j < df
              · rw [if_pos h2, if_pos h2]
              · rw [if_neg h2, if_neg h2]; by_cases h3 : j < i
                · rw [if_pos h3, if_pos (by omega)]
                · rw [if_neg h3, if_neg (by omega)])]
          exact this
        case measure => simp [intOf]; omega
      · have hie : i = ds.length := by omega
        subst hie
        have e0 := (hw.cell (p := ⟨p, 0, none⟩) hpl).trans p0
        have hfin : tab ds.length (fun j => if j < df then nth ds j else if j < ds.length then nth cs (j - df) ^^^ nth ds j else 0) = ds.take df ++ List.zipWith (· ^^^ ·) cs (ds.drop df) := by
          have hdn := HN.out
          have hl4 : (List.zipWith (· ^^^ ·) cs (ds.drop df)).length = cs.length := by simp; omega
          apply ext_nth
          · rw [tab_length, List.length_append, hl4, List.length_take]; omega
          · intro j hj
            rw [tab_length] at hj
            rw [nth_tab hj]
            by_cases h : j < df
            · rw [if_pos h, nth_append_left (by rw [List.length_take]; omega), nth_take h]
            · rw [if_neg h, if_pos hj]
              have := nth_append_right (l := ds.take df) (m := List.zipWith (· ^^^ ·) cs (ds.drop df)) (i := j - df)
              rw [List.length_take, Nat.min_eq_left hdl, show df + (j - df) = j from by omega] at this
              rw [this, nth_zip (by omega) (by rw [List.length_drop]; omega), nth_drop, show df + (j - df) = j from by omega]
        have hlf : ds.length = (ds.take df ++ List.zipWith (· ^^^ ·) cs (ds.drop df)).length := by rw [← hfin, tab_length]
        rw [hfin] at hB
        have HF := Lib.hid hlf
        have HB := Lib.hid hB
        clear hfin hlf hB
        go_wp2_with fail
        refine (poly_new F w.heap.size 0 _ _ _ _ (Rd.of_blk HB.out) HF.out (by omega) (by omega) (by omega)).mono ?_
        rintro e w' ⟨r, rfl, hr', hb'⟩
        go_wp2
        go_ret2
        refine ⟨r, rfl, ?_, hw.trans (hb'.mono hsz)⟩
        rw [HA.out]; exact hr'
end Go.Proofs.YtcekbhhpcmhicaaGreatDoor
namespace Go.QW
open Go

section
variable {P : Program} {ops : Array Oper} {md : Region.Mode} {C : World → Prop}

def anyL (P : Program) (md : Region.Mode) (ops : Array Oper) (C : World → Prop) (n : Nat) (L : Array Bool → Act → Prop) : Nat → Array Bool → Act → Prop
  | 0, listed, a => L listed a
  | f + 1, listed, a =>
    Region.ready md ops listed ≠ [] ∧ ∀ i ∈ Region.ready md ops listed, i < n ∧ qOp P ops C i (anyL P md ops C n L f (listed.setIfInBounds i true)) a

theorem any_of_head {n g : Nat} {L : Array Bool → Act → Prop} {Q' : Exit → Act → World → Prop} (hL : ∀ listed a w, C w → L listed a → wpAny P md ops Q' g listed a w) :
    ∀ (f : Nat) (listed : Array Bool) (a : Act) (w : World), C w → anyL P md ops C n L f listed a → wpAny P md ops Q' (f + g) listed a w
  | 0, listed, a, w, hw, h => by rw [Nat.zero_add]; exact hL _ _ _ hw h
  | f + 1, listed, a, w, hw, h => by
    rw [show f + 1 + g = (f + g) + 1 by omega]
    exact ⟨fun h0 => absurd h0 h.1, fun i hi => wpOp_of_qOp hw (fun a' w' hw' h' => any_of_head hL f _ a' w' hw' h') (h.2 i hi).2⟩

theorem anyL_first {n i : Nat} {oi : Oper} {v : Value} {L : Array Bool → Act → Prop} (hi : ops[i]? = some oi) (hsel : ∀ (j : Nat) (o : Oper) cs b, ops[j]? = some o → o.op ≠ .select cs b)
    (hs : Region.sinkB md ops n = true) (hc : Region.chainB md ops n = true) (hn : n < ops.size) (hin : i < n)
    (hdone : ∀ listed a, L listed a → ∀ j ∈ Region.ready md ops listed, n ≤ j) :
    ∀ (f : Nat) (listed : Array Bool) (a : Act), HeadInv md ops n listed →
      (∀ j oj, ops[j]? = some oj → j ≠ i → listed.getD j true = false → (∀ e ∈ oj.after, Region.binds md e = true → e.on ≠ i) → oi.apart ops oj = true) →
      i ∈ Region.ready md ops listed → YieldsIn P ops C oi v a →
      anyL P md ops C n L f (listed.setIfInBounds i true) (a.put oi.dst v) → anyL P md ops C n L (f + 1) listed a := by
  intro f
  induction f with
  | zero =>
    intro listed a inv _ hr hy H
    have hun := (mem_ready.1 hr).1
    refine ⟨fun h => (by rw [h] at hr; cases hr), fun j hj => ?_⟩
    have hjn : j < n := by
      rcases Nat.lt_or_ge j n with h | h
      · exact h
      · exact absurd hj (tail_waits hs hc hn inv _ i rfl hin hun j h)
    refine ⟨hjn, ?_⟩
    by_cases hji : j = i
    · subst hji; exact hy.qOp hi H
    · have := hdone _ _ H j (ready_mono hj hji)
      omega
  | succ f ih =>
    intro listed a inv hfree hr hy H
    have hun := (mem_ready.1 hr).1
    refine ⟨fun h => (by rw [h] at hr; cases hr), fun j hj => ?_⟩
    have hjn : j < n := by
      rcases Nat.lt_or_ge j n with h | h
      · exact h
      · exact absurd hj (tail_waits hs hc hn inv _ i rfl hin hun j h)
    refine ⟨hjn, ?_⟩
    by_cases hji : j = i
    · subst hji; exact hy.qOp hi H
    · have h1 := (H.2 j (ready_mono hj hji)).2
      obtain ⟨hjun, oj, hoj, hall⟩ := mem_ready.1 hj
      have hnot : ∀ e ∈ oj.after, Region.binds md e = true → e.on ≠ i := fun e he hb heq => by
        have h1 := hall e he hb
        rw [heq, getD_both hun] at h1
        cases h1
      have h2 := qOp_put hoj (hfree j oj hoj hji hjun hnot) (fun cs b => hsel i oi cs b hi) (fun cs b => hsel j oj cs b hoj) hy h1
      have hfree' : ∀ k ok, ops[k]? = some ok → k ≠ i → (listed.setIfInBounds j true).getD k true = false →
          (∀ e ∈ ok.after, Region.binds md e = true → e.on ≠ i) → oi.apart ops ok = true := fun k ok hk hki hun hno => by
        refine hfree k ok hk hki ?_ hno
        by_cases hjk : j = k
        · subst hjk; exact hjun
        · rw [getD_set_ne true hjk] at hun; exact hun
      refine qOp_mono (fun a' h3 => ih (listed.setIfInBounds j true) a' (inv.set hj hjn) hfree' (ready_mono hr (Ne.symm hji)) h3.1 ?_) h2
      rw [Array.setIfInBounds_comm _ _ hji]
      exact h3.2

theorem anyL_lex {n g : Nat} {Lq : Act → Prop} (hsel : Region.noSelect ops = true) (hs : Region.sinkB md ops n = true) (hc : Region.chainB md ops n = true) (hn : n < ops.size) :
    ∀ (l : List Oper) (k : Nat) (listed : Array Bool) (a : Act), (∀ j, j < l.length → l[j]? = ops[k + j]?) → k + l.length = n → HeadInv md ops n listed →
    Region.lexHead md ops g l.length k listed = true → wpQuiet P ops C Lq l a →
    anyL P md ops C n (fun listed' a' => Region.seqB md ops g n listed' = true ∧ Lq a') l.length listed a
  | [], k, listed, a, _, hk, _, hB, h => by
    have : k = n := by simpa using hk
    subst this
    exact ⟨by simpa [Region.lexHead] using hB, h⟩
  | o :: l, k, listed, a, hl, hk, inv, hB, h => by
    have h0 : ops[k]? = some o := by simpa using (hl 0 (by simp)).symm
    simp only [List.length_cons, Region.lexHead, Bool.and_eq_true] at hB
    obtain ⟨⟨hr, hf⟩, hB'⟩ := hB
    have hkn : k < n := by simp only [List.length_cons] at hk; omega
    have hr' : k ∈ Region.ready md ops listed := by simpa using hr
    have hst : qOp P ops C k (wpQuiet P ops C Lq l) a := by unfold qOp; simp only [h0]; exact h
    obtain ⟨v, hy, hK⟩ := yieldsIn_of_qOp h0 hst
    exact anyL_first h0 (Region.noSelect_spec hsel) hs hc hn hkn (fun listed' a' hL => seqB_ready hL.1) l.length listed a inv (Region.free_spec h0 hf) hr' hy
      (anyL_lex hsel hs hc hn l (k + 1) _ _ (fun j hj => by have := hl (j + 1) (by simp; omega); simpa [Nat.add_assoc, Nat.add_comm 1 j] using this) (by simp only [List.length_cons] at hk; omega) (inv.set hr' hkn) hB' hK)

/-- the n operations of the head read, or call what only draws; each one of the tail waits for all before it -/
theorem wp_region_quiet_tail {id : Nat} {Q : Exit → Act → World → Prop} {a : Act} {w : World} {l : List Oper} (n : Nat) (hm : P.follows .mixedOrders = true) (hB : Region.lexTailB .any l.toArray n = true)
    (h : wpQuiet P l.toArray (fun w' => ∃ n, w' = w.drewN n) (fun a' => ∀ w', (∃ n, w' = w.drewN n) → wpList P l.toArray Q (l.drop n) a' w') (l.take n) a) : (Code.region id l.toArray true).wp P Q a w := by
  simp only [Region.lexTailB, Bool.and_eq_true, decide_eq_true_eq] at hB
  obtain ⟨⟨⟨⟨hsel, hn⟩, hs⟩, hc⟩, hlex⟩ := hB
  have hn' : n < l.length := by simpa using hn
  have htl : (l.take n).length = n := by simp; omega
  have hdl : (l.drop n).length = l.toArray.size - n := by simp
  have inv0 : HeadInv .any l.toArray n (Array.replicate l.toArray.size false) :=
    ⟨by simp, fun j oj _ hl => (by rw [getD_replicate_false] at hl; cases hl), fun t _ ht => getD_in (by simpa using ht) (getD_replicate_false _ _)⟩
  have H := anyL_lex (md := .any) (g := l.toArray.size - n) hsel hs hc hn (l.take n) 0 _ a (fun j hj => by
    have hj' : j < n := by rw [htl] at hj; exact hj
    simp [hj']) (by simpa using htl) inv0 (by rw [htl]; exact hlex) h
  refine wp_region_any hm ?_
  have := any_of_head (Q' := Q) (g := l.toArray.size - n) (fun listed a' w' hw' hL => by
    have := wpAny_of_seq (md := .any) (Q' := Q) (l.drop n) n listed a' w' (fun j => by simp [List.getElem?_drop]) (by rw [hdl]; exact hL.1) (hL.2 w' hw')
    rwa [hdl] at this) _ _ _ { w with drawn := w.drawn + 1 } ⟨1, rfl⟩ H
  rw [htl, show n + (l.toArray.size - n) = l.toArray.size by omega] at this
  exact this
end
end Go.QW
namespace Go.Proofs.YtcekbhhpcmhicaaGreatDoor
open Go.RowKit Go.QW Go.QGF

theorem xor_quiet (a b : Int) (w : World) (n : Nat) (ha : 0 ≤ a) (ha' : a < 1000000) (hb : 0 ≤ b) (hb' : b < 1000000) :
    Calls Tryz.prog 267 #[.int .i64 a, .int .i64 b] (w.drewN n) fun e w'' => e = .returned (.int .i64 ((a.toNat ^^^ b.toNat : Nat) : Int)) ∧ ∃ m, w'' = w.drewN m :=
  Calls.quiet_of_same ((xor_any a b _ ha ha' hb hb').mono fun _ _ h => ⟨h.1, h.2.symm⟩)
theorem mul_quiet (F : Nat) (a b : Int) (w : World) (n : Nat) (hF : Field w F) (ha : 0 ≤ a) (ha' : a < 256) (hb : 0 ≤ b) (hb' : b < 256) :
    Calls Tryz.prog 229 #[.pointer (some ⟨F, 0, none⟩), .int .i64 a, .int .i64 b] (w.drewN n) fun e w'' => e = .returned (.int .i64 (gm a.toNat b.toNat : Nat)) ∧ ∃ m, w'' = w.drewN m :=
  Calls.quiet_of (mul_any F a b _ (hF.heap rfl) ha ha' hb hb')

set_option maxRecDepth 100000 in
theorem prod_any (F p q : Nat) (cs ds : List Nat) (w : World) (hF : Field w F) (hp : Poly w F p cs) (hq : Poly w F q ds) (hcs : 0 < cs.length) (hds : 0 < ds.length) (hl1 : cs.length ≤ 1000) (hl2 : ds.length ≤ 1000) (ok1 : Ok cs) (ok2 : Ok ds)
    (hz1 : nth cs 0 ≠ 0) (hz2 : nth ds 0 ≠ 0) :
    Calls Tryz.prog 227 #[.pointer (some ⟨p, 0, none⟩), .pointer (some ⟨q, 0, none⟩)] w
      fun e w' => ∃ r, e = .returned (.tuple #[.pointer (some ⟨r, 0, none⟩), .nilIface]) ∧ Poly w' F r (mulP cs ds) ∧ Below w.heap.size w w' := by
  obtain ⟨gp, offp, capp, hbp, hrp, hcapp, hcapp2⟩ := hp.rd
  obtain ⟨gq, offq, capq, hbq, hrq, hcapq, hcapq2⟩ := hq.rd
  have p0 := hbp.cell 0
  have p1 := hbp.cell 1
  have q0 := hbq.cell 0
  have q1 := hbq.cell 1
  simp only [List.getElem?_toArray, List.getElem?_cons_zero, List.getElem?_cons_succ] at p0 p1 q0 q1
  have hpl := hbp.lt
  have hql := hbq.lt
  have hgpl := hrp.1
  have hgql := hrq.1
  have p2 := hrp.at_ hcs
  have q2 := hrq.at_ hds
  rw [Nat.add_zero] at p2 q2
  have hne := fun w => neq_ptr_same (P := Tryz.prog) Tryz.underlying159 (te := 277) (by kernel_rfl) ⟨F, 0, none⟩ w
  have hcsI : (0 : Int) < (cs.length : Int) := by omega
  have hdsI : (0 : Int) < (ds.length : Int) := by omega
  have hz : (((nth cs 0 : Nat) : Int) == 0) = false := by simpa using hz1
  have hz' : (((nth ds 0 : Nat) : Int) == 0) = false := by simpa using hz2
  have hm : mulP cs ds = norm (convTo cs ds cs.length) := by unfold mulP; rw [if_neg (by rw [← nth_zero, ← nth_zero]; omega)]
  have HM := Lib.hid hm
  obtain ⟨n, hn⟩ : ∃ n, n = cs.length + ds.length - 1 := ⟨_, rfl⟩
  have hnI : (cs.length : Int) + (ds.length : Int) - 1 = (n : Int) := by omega
  have hn2 : cs.length + ds.length = n + 1 := by omega
  have hc0 : convTo cs ds 0 = List.replicate n 0 := by rw [hn]; rfl
  have hcl : ∀ k, (convTo cs ds k).length = n := fun k => by rw [hn]; exact convTo_length cs ds k
  have HC0 := Lib.hid hc0
  have HCL := Lib.hid hcl
  have HN2 := Lib.hid hn2
  have hn3 : 1 ≤ n := by omega
  have hn4 : n ≤ 2000 := by omega
  clear hm hn hc0 hcl hn2 hz1 hz2
  have hmk := make_flat Tryz.underlying138 int_info (by decide) n (n : Int) rfl (by omega)
  go_enter Tryz.func227, Tryz.ntmps227
  go_wp2
  go_quiet (fail)
  go_wp2
  go_loopw [11, 12, 13] (fun t _ _ wr => ∃ i : Nat, i ≤ cs.length ∧ t = .int .i64 i ∧ Blk wr w.heap.size 3 (ints .i64 (convTo cs ds i)) ∧ Below w.heap.size w wr) (fun t _ _ _ => cs.length - (intOf t).toNat)
  case atStart => exact ⟨0, Nat.zero_le _, rfl, by rw [HC0.out]; exact (Blk.new (w.drewN nq) _ _), (below_drewN (Below.refl _ _) _).alloc (Nat.le_refl _) _⟩
  case round =>
    obtain ⟨i, hi, rfl, hB, hw⟩ := hrel
    have hsz := hw.size
    by_cases hlt : i < cs.length
    · have e1 := (hrp.below hw).at_ hlt
      have hia : nth cs i < 256 := ok1.getD i
      have hiI : (i : Int) < (cs.length : Int) := by omega
      go_wp2
      obtain ⟨wo, rfl⟩ : ∃ wo : World, wo = wr := ⟨_, rfl⟩
      go_loopw [13] (fun t wr => ∃ j : Nat, j ≤ ds.length ∧ t = .int .i64 j ∧ Blk wr w.heap.size 3 (ints .i64 (convRow ds (nth cs i) i (convTo cs ds i) j)) ∧ Below w.heap.size w wr) (fun t _ => ds.length - (intOf t).toNat)
      case atStart => exact ⟨0, Nat.zero_le _, rfl, hB, hw⟩
      case round =>
        obtain ⟨j, hj, rfl, hB', hw'⟩ := hrel
        have hsz' := hw'.size
        by_cases hlt' : j < ds.length
        · have hij : i + j < n := by have := HN2.out; omega
          have hijI : (i : Int) + (j : Int) < (n : Int) := by omega
          have hlc : (convRow ds (nth cs i) i (convTo cs ds i) j).length = n := by rw [convRow_length]; exact HCL.out i
          have f1 := (hB'.cell (i + j)).trans (ints_get (by rw [hlc]; exact hij))
          have f2 := hB'.frozen (i + j)
          have f3 := (hw'.cell (p := ⟨p, 0, none⟩) hpl).trans p0
          have f4 := (hrq.below hw').at_ hlt'
          have f5 : nth ds j < 256 := ok2.getD j
          have f6 : nth (convRow ds (nth cs i) i (convTo cs ds i) j) (i + j) < 256 := (convRow_ok (convTo_ok _ _ _) _).getD _
          have n1 : gq ≠ w.heap.size := by omega
          have hjI : (j : Int) < (ds.length : Int) := by omega
          have hW : IntKind.i64.wrap ((i : Int) + (j : Int)) = (i : Int) + (j : Int) := wrap_nat_i64 (i + j) (by omega)
          have hF' := hF.below hw'
          go_wp2_with fail
          refine wp_region_quiet_tail 22 (by kernel_rfl) (by kernel_rfl) ?_
          simp only [List.take_succ_cons, List.take_zero, List.drop_succ_cons, List.drop_zero]
          repeat (go_big_quiet_step (first | (go_at_call 229; exact mul_quiet F _ _ _ _ hF' (by omega) (by omega) (by omega) (by omega)) | (go_at_call 267; exact xor_quiet _ _ _ _ (by omega) (by omega) (by omega) (Int.ofNat_lt.2 (Nat.lt_trans (gm_lt _ _) (by decide))))))
          refine wpQuiet_nil ?_
          intro _ hw''
          obtain ⟨nr, rfl⟩ := hw''
          clear hW
          go_wp2
          go_roundw
          case rel =>
            refine ⟨j + 1, by omega, by go_num, ?_, (below_drewN hw' _).setCell (Nat.le_refl _) _⟩
            have := (hB'.drewN nr).set_ (i + j) (.int .i64 ((nth (convRow ds (nth cs i) i (convTo cs ds i) j) (i + j) ^^^ gm (nth cs i) (nth ds j) : Nat) : Int))
            rw [ints_set] at this
            rw [convRow_succ]
            exact this
          case measure => simp [intOf]; omega
        · have hje : j = ds.length := by omega
          subst hje
          go_wp2
          go_roundw
          case rel =>
            refine ⟨i + 1, by omega, by go_num, ?_, hw'⟩
            rw [convTo_succ]
            exact hB'
          case measure => simp [intOf]; omega
    · have hie : i = cs.length := by omega
      subst hie
      have e0 := (hw.cell (p := ⟨p, 0, none⟩) hpl).trans p0
      have hln := (HCL.out cs.length).symm
      have HL := Lib.hid hln
      have HB := Lib.hid hB
      clear hln hB
      go_wp2_with fail
      refine (poly_new F w.heap.size 0 _ _ _ _ (Rd.of_blk HB.out) HL.out (by omega) (by omega) (by omega)).mono ?_
      rintro e w' ⟨r, rfl, hr', hb'⟩
      go_wp2
      go_ret2
      refine ⟨r, rfl, ?_, hw.trans (hb'.mono hsz)⟩
      rw [HM.out]; exact hr'
end Go.Proofs.YtcekbhhpcmhicaaGreatDoor
