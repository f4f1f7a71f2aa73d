/- The decoder's answer as plain data: impl.decoded, impl.QRDecode. Printed by door3.py; impl.QRDecode on rows that bear a text; A symbol's corners: the diagonal of the first finder pattern, the first modules of the last row; impl.QREncode: the encoder's matrix as rows of bools. -/
import Derived.Test.YtcekbhhpcmhicaaGreatDoorM15
import Derived.Test.YtcekbhhpcmhicaaGreatDoorM18
import Derived.Test.YtcekbhhpcmhicaaGreatDoorM21
import Derived.Test.YtcekbhhpcmhicaaGreatDoorM32
namespace Go.Proofs.YtcekbhhpcmhicaaGreatDoor
open Go.RowKit Go.QW Go.QGF Go.QI Go.QM Go.QV Go.QZ
def ResB (w : World) (Res Z N : Nat) (s : ByteArray) (ba : Option Addr) (bl bc l : Nat) : Prop := Blk w Res 221 #[.slice (some ⟨Z, 0, none⟩) N N, .int .i64 (8 * (N : Int)), .string s, .slice ba bl bc, .string (lvName l), .int .i64 0, .int .i64 0, .nilIface, .int .i64 (-1), .int .i64 (-1), .int .i64 1]
section
variable {w : World} {Res Z N bl bc l : Nat} {s : ByteArray} {ba : Option Addr}
theorem resbs_any (h : ResB w Res Z N s ba bl bc l) : Calls Tryz.prog 80 #[.pointer (some ⟨Res, 0, none⟩)] w fun e w' => e = .returned (.slice ba bl bc) ∧ w = w' := by
  have a1 := h.cell 3
  simp only [List.getElem?_toArray, List.getElem?_cons_zero, List.getElem?_cons_succ] at a1
  go_enter Tryz.func80, Tryz.ntmps80
  go_wp2
  go_ret
  exact ⟨rfl, rfl⟩
theorem restx_any (h : ResB w Res Z N s ba bl bc l) : Calls Tryz.prog 81 #[.pointer (some ⟨Res, 0, none⟩)] w fun e w' => e = .returned (.string s) ∧ w = w' := by
  have a1 := h.cell 2
  simp only [List.getElem?_toArray, List.getElem?_cons_zero, List.getElem?_cons_succ] at a1
  go_enter Tryz.func81, Tryz.ntmps81
  go_wp2
  go_ret
  exact ⟨rfl, rfl⟩
theorem resrw_any (h : ResB w Res Z N s ba bl bc l) : Calls Tryz.prog 82 #[.pointer (some ⟨Res, 0, none⟩)] w fun e w' => e = .returned (.slice (some ⟨Z, 0, none⟩) N N) ∧ w = w' := by
  have a1 := h.cell 0
  simp only [List.getElem?_toArray, List.getElem?_cons_zero] at a1
  go_enter Tryz.func82, Tryz.ntmps82
  go_wp2
  go_ret
  exact ⟨rfl, rfl⟩
theorem resec_any (h : ResB w Res Z N s ba bl bc l) : Calls Tryz.prog 83 #[.pointer (some ⟨Res, 0, none⟩)] w fun e w' => e = .returned (.string (lvName l)) ∧ w = w' := by
  have a1 := h.cell 4
  simp only [List.getElem?_toArray, List.getElem?_cons_zero, List.getElem?_cons_succ] at a1
  go_enter Tryz.func83, Tryz.ntmps83
  go_wp2
  go_ret
  exact ⟨rfl, rfl⟩
theorem reser_any (h : ResB w Res Z N s ba bl bc l) : Calls Tryz.prog 84 #[.pointer (some ⟨Res, 0, none⟩)] w fun e w' => e = .returned (.int .i64 0) ∧ w = w' := by
  have a1 := h.cell 5
  simp only [List.getElem?_toArray, List.getElem?_cons_zero, List.getElem?_cons_succ] at a1
  go_enter Tryz.func84, Tryz.ntmps84
  go_wp2
  go_ret
  exact ⟨rfl, rfl⟩
theorem ressq_any (h : ResB w Res Z N s ba bl bc l) : Calls Tryz.prog 85 #[.pointer (some ⟨Res, 0, none⟩)] w fun e w' => e = .returned (.int .i64 (-1)) ∧ w = w' := by
  have a1 := h.cell 9
  simp only [List.getElem?_toArray, List.getElem?_cons_zero, List.getElem?_cons_succ] at a1
  go_enter Tryz.func85, Tryz.ntmps85
  go_wp2
  go_ret
  exact ⟨rfl, rfl⟩
theorem respa_any (h : ResB w Res Z N s ba bl bc l) : Calls Tryz.prog 86 #[.pointer (some ⟨Res, 0, none⟩)] w fun e w' => e = .returned (.int .i64 (-1)) ∧ w = w' := by
  have a1 := h.cell 8
  simp only [List.getElem?_toArray, List.getElem?_cons_zero, List.getElem?_cons_succ] at a1
  go_enter Tryz.func86, Tryz.ntmps86
  go_wp2
  go_ret
  exact ⟨rfl, rfl⟩
theorem resmd_any (h : ResB w Res Z N s ba bl bc l) : Calls Tryz.prog 87 #[.pointer (some ⟨Res, 0, none⟩)] w fun e w' => e = .returned (.int .i64 1) ∧ w = w' := by
  have a1 := h.cell 10
  simp only [List.getElem?_toArray, List.getElem?_cons_zero, List.getElem?_cons_succ] at a1
  go_enter Tryz.func87, Tryz.ntmps87
  go_wp2
  go_ret
  exact ⟨rfl, rfl⟩
theorem own_nil (w : World) : w.ownsRow 0 5 1 (.slice none 0 0) 0 [] := ⟨rfl, .inl ⟨rfl, rfl⟩⟩
theorem own_nils (w : World) : w.ownsRow 0 30 1 (.slice none 0 0) 0 [] := ⟨rfl, .inl ⟨rfl, rfl⟩⟩
theorem own_slice {w : World} {e : TypeId} {v : Value} {n : Nat} {xs : List Value} (h : w.ownsRow 0 e 1 v n xs) : ∃ a l c, v = .slice a l c := by
  rcases h.2 with ⟨h, -⟩ | ⟨g, cap, cur, h, -⟩
  · exact ⟨_, _, _, h⟩
  · exact ⟨_, _, _, h⟩
theorem one_cells (l : List Nat) : ∀ u, u ∈ l.map U8 → u.oneCell' = true := by
  intro u hu
  rw [List.mem_map] at hu
  obtain ⟨x, _, rfl⟩ := hu
  rfl
theorem cells_at {w : World} {I : Nat} {l : List Nat} (h : Blk w I 5 (ints .u8 l)) : ∀ j u, (l.map U8)[j]? = some u → w.cell? ((⟨I, 0, none⟩ : Addr).add j) = some u := by
  intro j u hu
  rw [addr_add, Nat.zero_add, h.cell]
  rw [List.getElem?_map] at hu
  rcases Nat.lt_or_ge j l.length with hh | hh
  · rw [ints_get hh]
    rw [List.getElem?_eq_getElem hh] at hu
    injection hu with hu
    rw [nth_get hh, ← hu]; rfl
  · rw [List.getElem?_eq_none hh] at hu; cases hu
theorem store8 {w : World} {D : Nat} {T : TypeId} {a0 a1 a2 a3 a4 a5 a6 a7 b0 b1 b2 b3 b4 b5 b6 b7 : Value} (h : Blk w D T #[a0, a1, a2, a3, a4, a5, a6, a7]) :
    Blk ((((((((w.setCell ⟨D, 0, none⟩ b0).setCell ⟨D, 1, none⟩ b1).setCell ⟨D, 2, none⟩ b2).setCell ⟨D, 3, none⟩ b3).setCell ⟨D, 4, none⟩ b4).setCell ⟨D, 5, none⟩ b5).setCell ⟨D, 6, none⟩ b6).setCell ⟨D, 7, none⟩ b7) D T #[b0, b1, b2, b3, b4, b5, b6, b7] := by
  have h0 := h.set_ 0 b0
  rw [show (#[a0, a1, a2, a3, a4, a5, a6, a7] : Array Value).setIfInBounds 0 b0 = #[b0, a1, a2, a3, a4, a5, a6, a7] from rfl] at h0
  have h1 := h0.set_ 1 b1
  rw [show (#[b0, a1, a2, a3, a4, a5, a6, a7] : Array Value).setIfInBounds 1 b1 = #[b0, b1, a2, a3, a4, a5, a6, a7] from rfl] at h1
  have h2 := h1.set_ 2 b2
  rw [show (#[b0, b1, a2, a3, a4, a5, a6, a7] : Array Value).setIfInBounds 2 b2 = #[b0, b1, b2, a3, a4, a5, a6, a7] from rfl] at h2
  have h3 := h2.set_ 3 b3
  rw [show (#[b0, b1, b2, a3, a4, a5, a6, a7] : Array Value).setIfInBounds 3 b3 = #[b0, b1, b2, b3, a4, a5, a6, a7] from rfl] at h3
  have h4 := h3.set_ 4 b4
  rw [show (#[b0, b1, b2, b3, a4, a5, a6, a7] : Array Value).setIfInBounds 4 b4 = #[b0, b1, b2, b3, b4, a5, a6, a7] from rfl] at h4
  have h5 := h4.set_ 5 b5
  rw [show (#[b0, b1, b2, b3, b4, a5, a6, a7] : Array Value).setIfInBounds 5 b5 = #[b0, b1, b2, b3, b4, b5, a6, a7] from rfl] at h5
  have h6 := h5.set_ 6 b6
  rw [show (#[b0, b1, b2, b3, b4, b5, a6, a7] : Array Value).setIfInBounds 6 b6 = #[b0, b1, b2, b3, b4, b5, b6, a7] from rfl] at h6
  have h7 := h6.set_ 7 b7
  rw [show (#[b0, b1, b2, b3, b4, b5, b6, a7] : Array Value).setIfInBounds 7 b7 = #[b0, b1, b2, b3, b4, b5, b6, b7] from rfl] at h7
  exact h7
theorem below8 {w0 w : World} {D : Nat} {b0 b1 b2 b3 b4 b5 b6 b7 : Value} (h : Below D w0 w) :
    Below D w0 ((((((((w.setCell ⟨D, 0, none⟩ b0).setCell ⟨D, 1, none⟩ b1).setCell ⟨D, 2, none⟩ b2).setCell ⟨D, 3, none⟩ b3).setCell ⟨D, 4, none⟩ b4).setCell ⟨D, 5, none⟩ b5).setCell ⟨D, 6, none⟩ b6).setCell ⟨D, 7, none⟩ b7) :=
  (((((((h.setCell (Nat.le_refl _) b0).setCell (Nat.le_refl _) b1).setCell (Nat.le_refl _) b2).setCell (Nat.le_refl _) b3).setCell (Nat.le_refl _) b4).setCell (Nat.le_refl _) b5).setCell (Nat.le_refl _) b6).setCell (Nat.le_refl _) b7
theorem below_of_alloc {w w' : World} {o : Obj} (h : Below (w.alloc o).heap.size (w.alloc o) w') : Below w.heap.size w w' := ((Below.refl _ _).alloc (Nat.le_refl _) o).trans (h.mono (by rw [World.size_alloc]; omega))
theorem kp_nil_below {w w' : World} (h : Kp (Value.slice none 0 0).ownBlock.toList w w') : Below w.heap.size w w' := h.below
set_option maxHeartbeats 16000000 in
set_option maxRecDepth 100000 in
theorem decoded_any {Lz : List Nat} (hR0 : ResOk w Res Z N s l) (hZ : Blk w Z 5 (ints .u8 Lz)) (hN : N = Lz.length) (hN2 : N ≤ 4000) :
    Calls Tryz.prog 30 #[.pointer (some ⟨Res, 0, none⟩), .nilIface] w fun e w' => ∃ (a1 a2 : Option Addr) (l1 c1 l2 c2 : Nat) (x y z u : Int), e = .returned (.tuple #[.agg #[.string s, .slice a1 l1 c1, .slice a2 l2 c2, .string (lvName l), .int .i64 x, .int .i64 y, .int .i64 z, .int .i64 u], .bool true]) ∧ Below w.heap.size w w' := by
  obtain ⟨bs, hR, hsg⟩ := hR0
  have HLZ := Lib.hid hN.symm
  clear hN
  rcases hsg with rfl | ⟨b2, c2, I, n, xs, rfl, hc, hbl, hI, hxl, hn⟩
  · have hR : ResB w Res Z N s none 0 0 l := hR
    go_enter Tryz.func30, Tryz.ntmps30
    go_wp2_with fail
    have hR1 : ResB (w.alloc (.cells #[.string ⟨#[]⟩, .slice none 0 0, .slice none 0 0, .string ⟨#[]⟩, .int .i64 0, .int .i64 0, .int .i64 0, .int .i64 0] 33)) Res Z N s none 0 0 l := hR.alloc _
    have hZ1 := hZ.alloc (.cells #[.string ⟨#[]⟩, .slice none 0 0, .slice none 0 0, .string ⟨#[]⟩, .int .i64 0, .int .i64 0, .int .i64 0, .int .i64 0] 33)
    have hD1 := Blk.new w 33 #[.string ⟨#[]⟩, .slice none 0 0, .slice none 0 0, .string ⟨#[]⟩, .int .i64 0, .int .i64 0, .int .i64 0, .int .i64 0]
    have hb1 : Below w.heap.size w (w.alloc (.cells #[.string ⟨#[]⟩, .slice none 0 0, .slice none 0 0, .string ⟨#[]⟩, .int .i64 0, .int .i64 0, .int .i64 0, .int .i64 0] 33)) := (Below.refl _ _).alloc (Nat.le_refl _) _
    obtain ⟨w1, hw1⟩ : ∃ w1, w1 = w.alloc (.cells #[.string ⟨#[]⟩, .slice none 0 0, .slice none 0 0, .string ⟨#[]⟩, .int .i64 0, .int .i64 0, .int .i64 0, .int .i64 0] 33) := ⟨_, rfl⟩
    rw [← hw1] at hR1 hZ1 hD1 hb1 ⊢
    clear hw1
    obtain ⟨Dd, hDd⟩ : ∃ Dd, Dd = w.heap.size := ⟨_, rfl⟩
    rw [← hDd] at hD1 hb1 ⊢
    have HDd := Lib.hid hDd
    clear hDd
    refine (resbs_any hR1).mono ?_
    rintro e w2' ⟨rfl, rfl⟩
    have hcz := cells_at hZ1
    have HCZ := Lib.hid hcz
    clear hcz
    go_wp2_with fail
    refine wp_loop_rounds 1 ?_
    rw [rounds_succ]
    go_wp2_with fail
    refine (restx_any hR1).mono ?_
    rintro e w2' ⟨rfl, rfl⟩
    go_wp2_with fail
    refine (resrw_any hR1).mono ?_
    rintro e w2' ⟨rfl, rfl⟩
    go_wp2_with (first
      | (at_builtin; refine wpList_appendN (.const (.slice none 0 0)) (.tmp 28) (t := 30) Tryz.underlying30 (e := 5) (z := .int .u8 0) (b := 1) (by kernel_rfl) rfl rfl rfl (by decide) (v := .slice none 0 0) (n := 0) (xs := []) rfl (own_nil _) (ad := ⟨Z, 0, none⟩) (m := N) (c := N) (us := Lz.map U8) rfl (by rw [List.length_map]; exact HLZ.out) HCZ.out (one_cells _) (by omega) ?_; intro v7 w7 hown7 hk7 hv7; have hk7b := kp_nil_below hk7; obtain ⟨a7, l7, c7, rfl⟩ := own_slice hown7; clear hown7 hv7 hk7; have hD7 := hD1.below hk7b hD1.lt; have q0 := hD7.cell 0; have q1 := hD7.cell 1; have q2 := hD7.cell 2; have q3 := hD7.cell 3; have q4 := hD7.cell 4; have q5 := hD7.cell 5; have q6 := hD7.cell 6; have q7 := hD7.cell 7; have f0 := hD7.frozen 0; have f1 := hD7.frozen 1; have f2 := hD7.frozen 2; have f3 := hD7.frozen 3; have f4 := hD7.frozen 4; have f5 := hD7.frozen 5; have f6 := hD7.frozen 6; have f7 := hD7.frozen 7; simp only [List.getElem?_toArray, List.getElem?_cons_zero, List.getElem?_cons_succ] at q0 q1 q2 q3 q4 q5 q6 q7)
      | (go_at_call 83; refine (resec_any (hR1.below hk7b hR1.lt)).mono ?_; rintro e w2' ⟨rfl, rfl⟩)
      | (go_at_call 84; refine (reser_any (hR1.below hk7b hR1.lt)).mono ?_; rintro e w2' ⟨rfl, rfl⟩)
      | (go_at_call 85; refine (ressq_any (hR1.below hk7b hR1.lt)).mono ?_; rintro e w2' ⟨rfl, rfl⟩)
      | (go_at_call 86; refine (respa_any (hR1.below hk7b hR1.lt)).mono ?_; rintro e w2' ⟨rfl, rfl⟩)
      | (go_at_call 87; refine (resmd_any (hR1.below hk7b hR1.lt)).mono ?_; rintro e w2' ⟨rfl, rfl⟩))
    have hDf := store8 (b0 := .string s) (b1 := .slice a7 l7 c7) (b2 := .slice none 0 0) (b3 := .string (lvName l)) (b4 := .int .i64 0) (b5 := .int .i64 (-1)) (b6 := .int .i64 (-1)) (b7 := .int .i64 1) hD7
    have hbf := below8 (b0 := .string s) (b1 := .slice a7 l7 c7) (b2 := .slice none 0 0) (b3 := .string (lvName l)) (b4 := .int .i64 0) (b5 := .int .i64 (-1)) (b6 := .int .i64 (-1)) (b7 := .int .i64 1) (below_trans' hb1 hk7b (by have := hD1.lt; omega))
    obtain ⟨w8, hw8⟩ : ∃ w8, w8 = (((((((w7.setCell ⟨Dd, 0, none⟩ (.string s)).setCell ⟨Dd, 1, none⟩ (.slice a7 l7 c7)).setCell ⟨Dd, 2, none⟩ (.slice none 0 0)).setCell ⟨Dd, 3, none⟩ (.string (lvName l))).setCell ⟨Dd, 4, none⟩ (.int .i64 0)).setCell ⟨Dd, 5, none⟩ (.int .i64 (-1))).setCell ⟨Dd, 6, none⟩ (.int .i64 (-1))).setCell ⟨Dd, 7, none⟩ (.int .i64 1) := ⟨_, rfl⟩
    rw [← hw8] at hDf hbf ⊢
    clear hw8 q0 q1 q2 q3 q4 q5 q6 q7
    have e0 : w8.cell? ⟨Dd, 0, none⟩ = some (.string s) := hDf.cell 0
    have e1 : w8.cell? ⟨Dd, 1, none⟩ = some (.slice a7 l7 c7) := hDf.cell 1
    have e2 : w8.cell? ⟨Dd, 2, none⟩ = some (.slice none 0 0) := hDf.cell 2
    have e3 : w8.cell? ⟨Dd, 3, none⟩ = some (.string (lvName l)) := hDf.cell 3
    have e4 : w8.cell? ⟨Dd, 4, none⟩ = some (.int .i64 0) := hDf.cell 4
    have e5 : w8.cell? ⟨Dd, 5, none⟩ = some (.int .i64 (-1)) := hDf.cell 5
    have e6 : w8.cell? ⟨Dd, 6, none⟩ = some (.int .i64 (-1)) := hDf.cell 6
    have e7 : w8.cell? ⟨Dd, 7, none⟩ = some (.int .i64 1) := hDf.cell 7
    exact bodyPost_ret (v := .tuple #[.agg #[.string s, .slice a7 l7 c7, (.slice none 0 0), .string (lvName l), .int .i64 0, .int .i64 (-1), .int .i64 (-1), .int .i64 1], .bool true]) (by simp [results, Tryz.results30, go_sem, e0, e1, e2, e3, e4, e5, e6, e7]) rfl ⟨_, _, _, _, _, _, _, _, _, _, rfl, by rw [← HDd.out]; exact hbf⟩
  · have hR : ResB w Res Z N s (some ⟨b2, 0, none⟩) 1 c2 l := hR
    go_enter Tryz.func30, Tryz.ntmps30
    go_wp2_with fail
    have hb1 : Below w.heap.size w (w.alloc (.cells #[.string ⟨#[]⟩, .slice none 0 0, .slice none 0 0, .string ⟨#[]⟩, .int .i64 0, .int .i64 0, .int .i64 0, .int .i64 0] 33)) := (Below.refl _ _).alloc (Nat.le_refl _) _
    have hD0 := Blk.new w 33 #[.string ⟨#[]⟩, .slice none 0 0, .slice none 0 0, .string ⟨#[]⟩, .int .i64 0, .int .i64 0, .int .i64 0, .int .i64 0]
    obtain ⟨w1, hw1⟩ : ∃ w1, w1 = w.alloc (.cells #[.string ⟨#[]⟩, .slice none 0 0, .slice none 0 0, .string ⟨#[]⟩, .int .i64 0, .int .i64 0, .int .i64 0, .int .i64 0] 33) := ⟨_, rfl⟩
    rw [← hw1] at hD0 hb1 ⊢
    clear hw1
    have hR0 : ResB w1 Res Z N s (some ⟨b2, 0, none⟩) 1 c2 l := Blk.below hR hb1 hR.lt
    have hZ0 := hZ.below hb1 hZ.lt
    have hI0 := hI.below hb1 hI.lt
    have hc0 := (hb1.cell (p := ⟨b2, 0, none⟩) hbl).trans hc
    have hs1 := hb1.size
    obtain ⟨Dd, hDd⟩ : ∃ Dd, Dd = w.heap.size := ⟨_, rfl⟩
    rw [← hDd] at hD0 hb1 ⊢
    have HDd := Lib.hid hDd
    clear hDd hc
    refine (resbs_any hR0).mono ?_
    rintro e w2' ⟨rfl, rfl⟩
    have hci := cells_at hI0
    have HCI := Lib.hid hci
    have HXL := Lib.hid hxl
    clear hci hxl
    go_wp2_with fail
    refine wp_loop_rounds 2 ?_
    rw [rounds_succ]
    go_upto_region 8 with (first
      | (at_builtin; refine wpList_appendN (.const (.slice none 0 0)) (.tmp 20) (t := 30) Tryz.underlying30 (e := 5) (z := .int .u8 0) (b := 1) (by kernel_rfl) rfl rfl rfl (by decide) (v := .slice none 0 0) (n := 0) (xs := []) rfl (own_nil _) (ad := ⟨I, 0, none⟩) (m := n) (c := n) (us := xs.map U8) rfl (by rw [List.length_map]; exact HXL.out) HCI.out (one_cells _) (by omega) ?_; intro v4 w4 hown4 hk4 hv4; have hk4b := kp_nil_below hk4; obtain ⟨a4, l4, c4, rfl⟩ := own_slice hown4; clear hown4 hv4 hk4)
      | (at_builtin; refine wpList_append1 (.tmp 19) (.tmp 22) (t := 31) Tryz.underlying31 (e := 30) (z := .slice none 0 0) (b := 24) (by kernel_rfl) rfl rfl rfl (by decide) (v := .slice none 0 0) (n := 0) (xs := []) rfl (own_nils _) (ad := ⟨w4.heap.size, 0, none⟩) (c := 1) (u := .slice a4 l4 c4) rfl ((Blk.new w4 _ _).cell 0) rfl (by omega) ?_; intro v5 w5 hown5 hk5 hv5; have hk5b := kp_nil_below hk5; obtain ⟨a5, l5, c5, rfl⟩ := own_slice hown5; clear hown5 hv5 hk5))
    have hb15 : Below w1.heap.size w1 w5 := below_trans' hk4b (below_of_alloc hk5b) hk4b.size
    have hs5 := hb15.size
    have hR1 : ResB w5 Res Z N s (some ⟨b2, 0, none⟩) 1 c2 l := Blk.below hR0 hb15 hR0.lt
    have hZ1 := hZ0.below hb15 hZ0.lt
    have hD1 := hD0.below hb15 hD0.lt
    have hcz := cells_at hZ1
    have HCZ := Lib.hid hcz
    have hb01 : Below Dd w w5 := below_trans' hb1 hb15 (by have := hD0.lt; omega)
    clear hcz hc0 hk4b hk5b
    go_wp2_with fail
    rw [rounds_succ]
    go_wp2_with fail
    refine (restx_any hR1).mono ?_
    rintro e w2' ⟨rfl, rfl⟩
    go_wp2_with fail
    refine (resrw_any hR1).mono ?_
    rintro e w2' ⟨rfl, rfl⟩
    go_wp2_with (first
      | (at_builtin; refine wpList_appendN (.const (.slice none 0 0)) (.tmp 28) (t := 30) Tryz.underlying30 (e := 5) (z := .int .u8 0) (b := 1) (by kernel_rfl) rfl rfl rfl (by decide) (v := .slice none 0 0) (n := 0) (xs := []) rfl (own_nil _) (ad := ⟨Z, 0, none⟩) (m := N) (c := N) (us := Lz.map U8) rfl (by rw [List.length_map]; exact HLZ.out) HCZ.out (one_cells _) (by omega) ?_; intro v7 w7 hown7 hk7 hv7; have hk7b := kp_nil_below hk7; obtain ⟨a7, l7, c7, rfl⟩ := own_slice hown7; clear hown7 hv7 hk7; have hD7 := hD1.below hk7b hD1.lt; have q0 := hD7.cell 0; have q1 := hD7.cell 1; have q2 := hD7.cell 2; have q3 := hD7.cell 3; have q4 := hD7.cell 4; have q5 := hD7.cell 5; have q6 := hD7.cell 6; have q7 := hD7.cell 7; have f0 := hD7.frozen 0; have f1 := hD7.frozen 1; have f2 := hD7.frozen 2; have f3 := hD7.frozen 3; have f4 := hD7.frozen 4; have f5 := hD7.frozen 5; have f6 := hD7.frozen 6; have f7 := hD7.frozen 7; simp only [List.getElem?_toArray, List.getElem?_cons_zero, List.getElem?_cons_succ] at q0 q1 q2 q3 q4 q5 q6 q7)
      | (go_at_call 83; refine (resec_any (hR1.below hk7b hR1.lt)).mono ?_; rintro e w2' ⟨rfl, rfl⟩)
      | (go_at_call 84; refine (reser_any (hR1.below hk7b hR1.lt)).mono ?_; rintro e w2' ⟨rfl, rfl⟩)
      | (go_at_call 85; refine (ressq_any (hR1.below hk7b hR1.lt)).mono ?_; rintro e w2' ⟨rfl, rfl⟩)
      | (go_at_call 86; refine (respa_any (hR1.below hk7b hR1.lt)).mono ?_; rintro e w2' ⟨rfl, rfl⟩)
      | (go_at_call 87; refine (resmd_any (hR1.below hk7b hR1.lt)).mono ?_; rintro e w2' ⟨rfl, rfl⟩))
    have hDf := store8 (b0 := .string s) (b1 := .slice a7 l7 c7) (b2 := .slice a5 l5 c5) (b3 := .string (lvName l)) (b4 := .int .i64 0) (b5 := .int .i64 (-1)) (b6 := .int .i64 (-1)) (b7 := .int .i64 1) hD7
    have hbf := below8 (b0 := .string s) (b1 := .slice a7 l7 c7) (b2 := .slice a5 l5 c5) (b3 := .string (lvName l)) (b4 := .int .i64 0) (b5 := .int .i64 (-1)) (b6 := .int .i64 (-1)) (b7 := .int .i64 1) (below_trans' hb01 hk7b (by have := hD1.lt; omega))
    obtain ⟨w8, hw8⟩ : ∃ w8, w8 = (((((((w7.setCell ⟨Dd, 0, none⟩ (.string s)).setCell ⟨Dd, 1, none⟩ (.slice a7 l7 c7)).setCell ⟨Dd, 2, none⟩ (.slice a5 l5 c5)).setCell ⟨Dd, 3, none⟩ (.string (lvName l))).setCell ⟨Dd, 4, none⟩ (.int .i64 0)).setCell ⟨Dd, 5, none⟩ (.int .i64 (-1))).setCell ⟨Dd, 6, none⟩ (.int .i64 (-1))).setCell ⟨Dd, 7, none⟩ (.int .i64 1) := ⟨_, rfl⟩
    rw [← hw8] at hDf hbf ⊢
    clear hw8 q0 q1 q2 q3 q4 q5 q6 q7
    have e0 : w8.cell? ⟨Dd, 0, none⟩ = some (.string s) := hDf.cell 0
    have e1 : w8.cell? ⟨Dd, 1, none⟩ = some (.slice a7 l7 c7) := hDf.cell 1
    have e2 : w8.cell? ⟨Dd, 2, none⟩ = some (.slice a5 l5 c5) := hDf.cell 2
    have e3 : w8.cell? ⟨Dd, 3, none⟩ = some (.string (lvName l)) := hDf.cell 3
    have e4 : w8.cell? ⟨Dd, 4, none⟩ = some (.int .i64 0) := hDf.cell 4
    have e5 : w8.cell? ⟨Dd, 5, none⟩ = some (.int .i64 (-1)) := hDf.cell 5
    have e6 : w8.cell? ⟨Dd, 6, none⟩ = some (.int .i64 (-1)) := hDf.cell 6
    have e7 : w8.cell? ⟨Dd, 7, none⟩ = some (.int .i64 1) := hDf.cell 7
    exact bodyPost_ret (v := .tuple #[.agg #[.string s, .slice a7 l7 c7, (.slice a5 l5 c5), .string (lvName l), .int .i64 0, .int .i64 (-1), .int .i64 (-1), .int .i64 1], .bool true]) (by simp [results, Tryz.results30, go_sem, e0, e1, e2, e3, e4, e5, e6, e7]) rfl ⟨_, _, _, _, _, _, _, _, _, _, rfl, by rw [← HDd.out]; exact hbf⟩
end
end Go.Proofs.YtcekbhhpcmhicaaGreatDoor
namespace Go.Proofs.YtcekbhhpcmhicaaGreatDoor
open Go.RowKit Go.QW Go.QGF Go.QI Go.QM Go.QV Go.QZ
section
variable {w : World}
/-- the decoder says the text and the level -/
def SaysB (s : ByteArray) (l : Nat) (w : World) (e : Ending) (w' : World) : Prop := ∃ (a1 a2 : Option Addr) (l1 c1 l2 c2 : Nat) (x y z u : Int), e = .returned (.tuple #[.agg #[.string s, .slice a1 l1 c1, .slice a2 l2 c2, .string (lvName l), .int .i64 x, .int .i64 y, .int .i64 z, .int .i64 u], .bool true]) ∧ Below w.heap.size w w'
set_option maxHeartbeats 4000000 in
set_option maxRecDepth 100000 in
theorem qrdecode_any {hb c v l k m N : Nat} {s : ByteArray} {cw : List Nat} {es : Nat → List Nat} {f : Nat → Nat → Bool} (hM : BoolMap w hb (17 + 4 * v) f) (hB : Bears v l k m N s cw es f) :
    Calls Tryz.prog 9 #[.slice (some ⟨hb, 0, none⟩) (17 + 4 * v) c] w (SaysB s l w) := by
  have HB := Lib.hid hB
  clear hB
  have hdm := fun (w : World) (D RD F : Nat) (hD : DecOk w D RD F) (hM : BoolMap w hb (17 + 4 * v) f) => decmap0_any (c := c) hD hM HB.out
  obtain ⟨d, hd⟩ : ∃ d, d = 17 + 4 * v := ⟨_, rfl⟩
  rw [← hd] at hM hdm ⊢
  have HDM := Lib.hid hdm
  clear hd hdm
  go_enter Tryz.func9, Tryz.ntmps9
  go_wp2_with fail
  have hb1 : Below w.heap.size w (w.alloc (.cells #[.string ⟨#[]⟩, .slice none 0 0, .slice none 0 0, .string ⟨#[]⟩, .int .i64 0, .int .i64 0, .int .i64 0, .int .i64 0] 33)) := (Below.refl _ _).alloc (Nat.le_refl _) _
  have hD0 := Blk.new w 33 #[.string ⟨#[]⟩, .slice none 0 0, .slice none 0 0, .string ⟨#[]⟩, .int .i64 0, .int .i64 0, .int .i64 0, .int .i64 0]
  obtain ⟨w1, hw1⟩ : ∃ w1, w1 = w.alloc (.cells #[.string ⟨#[]⟩, .slice none 0 0, .slice none 0 0, .string ⟨#[]⟩, .int .i64 0, .int .i64 0, .int .i64 0, .int .i64 0] 33) := ⟨_, rfl⟩
  rw [← hw1] at hD0 hb1 ⊢
  clear hw1
  have hM1 := hM.below hb1
  have hs1 := hb1.size
  obtain ⟨Dd, hDd⟩ : ∃ Dd, Dd = w.heap.size := ⟨_, rfl⟩
  rw [← hDd] at hD0 hb1 ⊢
  have HDd := Lib.hid hDd
  clear hDd
  refine newdec_any.mono ?_
  rintro e w2 ⟨D, RD, F, rfl, hD2, hb2⟩
  have hs2 := hb2.size
  go_wp2_with fail
  refine (HDM.out _ _ _ _ hD2 (hM1.below hb2)).mono ?_
  rintro e w3 ⟨Res, Z, rfl, hRes, hZ, hb3⟩
  have hs3 := hb3.size
  go_wp2_with fail
  refine (decoded_any hRes hZ (by unfold bytesAt; rw [tab_length]) (by rw [HB.out.hN]; have := (lv_ok v l HB.out.h1 (by have := HB.out.h27; omega) HB.out.hl).tot; unfold dataB; omega)).mono ?_
  rintro e w4 ⟨a1, a2, l1, c1, l2, c2, x, y, z, u, rfl, hb4⟩
  have hb14 : Below w1.heap.size w1 w4 := below_trans' (below_trans' hb2 hb3 hs2) hb4 (by omega)
  have hD4 := hD0.below hb14 hD0.lt
  have hbd := below_trans' hb1 hb14 (by have := hD0.lt; omega)
  have q0 := hD4.cell 0
  have q1 := hD4.cell 1
  have q2 := hD4.cell 2
  have q3 := hD4.cell 3
  have q4 := hD4.cell 4
  have q5 := hD4.cell 5
  have q6 := hD4.cell 6
  have q7 := hD4.cell 7
  have f0 := hD4.frozen 0
  have f1 := hD4.frozen 1
  have f2 := hD4.frozen 2
  have f3 := hD4.frozen 3
  have f4 := hD4.frozen 4
  have f5 := hD4.frozen 5
  have f6 := hD4.frozen 6
  have f7 := hD4.frozen 7
  simp only [List.getElem?_toArray, List.getElem?_cons_zero, List.getElem?_cons_succ] at q0 q1 q2 q3 q4 q5 q6 q7
  have hDf := store8 (b0 := .string s) (b1 := .slice a1 l1 c1) (b2 := .slice a2 l2 c2) (b3 := .string (lvName l)) (b4 := .int .i64 x) (b5 := .int .i64 y) (b6 := .int .i64 z) (b7 := .int .i64 u) hD4
  have hbf := below8 (b0 := .string s) (b1 := .slice a1 l1 c1) (b2 := .slice a2 l2 c2) (b3 := .string (lvName l)) (b4 := .int .i64 x) (b5 := .int .i64 y) (b6 := .int .i64 z) (b7 := .int .i64 u) hbd
  have HDF := Lib.hid hDf
  have HBF := Lib.hid hbf
  clear hDf hbf
  go_wp2_with fail
  have hDf := HDF.out
  have hbf := HBF.out
  obtain ⟨w8, hw8⟩ : ∃ w8, w8 = (((((((w4.setCell ⟨Dd, 0, none⟩ (.string s)).setCell ⟨Dd, 1, none⟩ (.slice a1 l1 c1)).setCell ⟨Dd, 2, none⟩ (.slice a2 l2 c2)).setCell ⟨Dd, 3, none⟩ (.string (lvName l))).setCell ⟨Dd, 4, none⟩ (.int .i64 x)).setCell ⟨Dd, 5, none⟩ (.int .i64 y)).setCell ⟨Dd, 6, none⟩ (.int .i64 z)).setCell ⟨Dd, 7, none⟩ (.int .i64 u) := ⟨_, rfl⟩
  rw [← hw8] at hDf hbf ⊢
  clear hw8 q0 q1 q2 q3 q4 q5 q6 q7 HDF HBF
  have e0 : w8.cell? ⟨Dd, 0, none⟩ = some (.string s) := hDf.cell 0
  have e1 : w8.cell? ⟨Dd, 1, none⟩ = some (.slice a1 l1 c1) := hDf.cell 1
  have e2 : w8.cell? ⟨Dd, 2, none⟩ = some (.slice a2 l2 c2) := hDf.cell 2
  have e3 : w8.cell? ⟨Dd, 3, none⟩ = some (.string (lvName l)) := hDf.cell 3
  have e4 : w8.cell? ⟨Dd, 4, none⟩ = some (.int .i64 x) := hDf.cell 4
  have e5 : w8.cell? ⟨Dd, 5, none⟩ = some (.int .i64 y) := hDf.cell 5
  have e6 : w8.cell? ⟨Dd, 6, none⟩ = some (.int .i64 z) := hDf.cell 6
  have e7 : w8.cell? ⟨Dd, 7, none⟩ = some (.int .i64 u) := hDf.cell 7
  exact bodyPost_ret (v := .tuple #[.agg #[.string s, .slice a1 l1 c1, .slice a2 l2 c2, .string (lvName l), .int .i64 x, .int .i64 y, .int .i64 z, .int .i64 u], .bool true]) (by simp [results, Tryz.results9, go_sem, e0, e1, e2, e3, e4, e5, e6, e7]) rfl ⟨_, _, _, _, _, _, _, _, _, _, rfl, by rw [← HDd.out]; exact hbf⟩
end
end Go.Proofs.YtcekbhhpcmhicaaGreatDoor
namespace Go.Proofs.YtcekbhhpcmhicaaGreatDoor
open Go.RowKit Go.QW Go.QGF Go.QI Go.QM Go.QV Go.QZ Go.QP
theorem corn_all : ∀ v : Fin 28, 1 ≤ v.val → (∀ i : Fin 8, tpos (17 + 4 * v.val) i.val i.val = 15 ∧ (c8 (17 + 4 * v.val) (fun _ _ => -1) i.val i.val == 1) = [true, false, true, true, true, false, true, false].getD i.val false) ∧
    ∀ j : Fin 2, tpos (17 + 4 * v.val) (17 + 4 * v.val - 1) j.val = 15 ∧ (c8 (17 + 4 * v.val) (fun _ _ => -1) (17 + 4 * v.val - 1) j.val == 1) = true := by decide +kernel
theorem sym_corn {v T k : Nat} {S : List Bool} {f : Cells} (h : Sym v T k S f) (h1 : 1 ≤ v) (h27 : v ≤ 27) : Corn (17 + 4 * v) (fun y x => f y x == 1) := by
  have ha := corn_all ⟨v, by omega⟩ h1
  refine ⟨by omega, by omega, fun i hi => ?_, ?_, ?_⟩
  · have hb := ha.1 ⟨i, hi⟩
    simp only at hb
    rw [h.cor i i (by unfold C8; omega) hb.1]
    exact hb.2
  · have hb := ha.2 ⟨0, by omega⟩
    simp only at hb
    rw [h.cor (17 + 4 * v - 1) 0 (by unfold C8; omega) hb.1]
    exact hb.2
  · have hb := ha.2 ⟨1, by omega⟩
    simp only at hb
    rw [h.cor (17 + 4 * v - 1) 1 (by unfold C8; omega) hb.1]
    exact hb.2
end Go.Proofs.YtcekbhhpcmhicaaGreatDoor
namespace Go.Proofs.YtcekbhhpcmhicaaGreatDoor
open Go.RowKit Go.QW Go.QGF Go.QI Go.QM Go.QV Go.QZ
section
variable {w : World}
theorem qmat_any {Q : Nat} {a b c d e : Value} (h : Qr w Q a b c d e) : Calls Tryz.prog 16 #[.pointer (some ⟨Q, 0, none⟩)] w fun r w' => r = .returned e ∧ w = w' := by
  have a1 := h.cell 4
  simp only [List.getElem?_toArray, List.getElem?_cons_zero, List.getElem?_cons_succ] at a1
  go_enter Tryz.func16, Tryz.ntmps16
  go_wp2
  go_ret
  exact ⟨rfl, rfl⟩
theorem qver_any {Q : Nat} {a b c d e : Value} (h : Qr w Q a b c d e) : Calls Tryz.prog 17 #[.pointer (some ⟨Q, 0, none⟩)] w fun r w' => r = .returned c ∧ w = w' := by
  have a1 := h.cell 2
  simp only [List.getElem?_toArray, List.getElem?_cons_zero, List.getElem?_cons_succ] at a1
  go_enter Tryz.func17, Tryz.ntmps17
  go_wp2
  go_ret
  exact ⟨rfl, rfl⟩
theorem qmask_any {Q : Nat} {a b c d e : Value} (h : Qr w Q a b c d e) : Calls Tryz.prog 19 #[.pointer (some ⟨Q, 0, none⟩)] w fun r w' => r = .returned d ∧ w = w' := by
  have a1 := h.cell 3
  simp only [List.getElem?_toArray, List.getElem?_cons_zero, List.getElem?_cons_succ] at a1
  go_enter Tryz.func19, Tryz.ntmps19
  go_wp2
  go_ret
  exact ⟨rfl, rfl⟩
theorem qlev_any {Q : Nat} {a b c d e : Value} (h : Qr w Q a b c d e) : Calls Tryz.prog 20 #[.pointer (some ⟨Q, 0, none⟩)] w fun r w' => r = .returned b ∧ w = w' := by
  have a1 := h.cell 1
  simp only [List.getElem?_toArray, List.getElem?_cons_zero, List.getElem?_cons_succ] at a1
  go_enter Tryz.func20, Tryz.ntmps20
  go_wp2
  go_ret
  exact ⟨rfl, rfl⟩
theorem qmode_any {Q : Nat} {a b c d e : Value} (h : Qr w Q a b c d e) : Calls Tryz.prog 22 #[.pointer (some ⟨Q, 0, none⟩)] w fun r w' => r = .returned a ∧ w = w' := by
  have a1 := h.cell 0
  simp only [List.getElem?_toArray, List.getElem?_cons_zero] at a1
  go_enter Tryz.func22, Tryz.ntmps22
  go_wp2
  go_ret
  exact ⟨rfl, rfl⟩
theorem mdbits_any (m : Nat) : Calls Tryz.prog 23 #[.int .i64 m] w fun r w' => r = .returned (.int .i64 m) ∧ w = w' := by
  go_enter Tryz.func23, Tryz.ntmps23
  go_wp2
  go_ret
  exact ⟨rfl, rfl⟩
theorem rep_false (n : Nat) : madeCells (Value.bool false).cells n = bools n (fun _ => false) := by
  unfold madeCells bools
  apply Array.ext
  · simp
  · intro i h1 h2
    simp [Value.cells, Nat.mod_one]
theorem make_bools {P : Program} {t e : TypeId} (ht : P.underlying t = some (.slice e)) (hi : (P.info? e).map (fun i => (i.zero, i.size, i.bytes)) = some (some (.bool false), 1, 1))
    (n : Nat) (hn : n ≤ 1000000000) (w : World) :
    (Instr.makeSlice t (.int .i64 (n : Int)) (.int .i64 (n : Int))).run P w = .ok (.slice (some ⟨w.heap.size, 0, none⟩) n n) (w.alloc (.cells (bools n (fun _ => false)) e)) := by
  obtain ⟨i, hi1, hz, hs, hb'⟩ := info_parts hi
  have := run_make (P := P) w t e i _ ht hi1 hz .i64 .i64 n n (by omega) (by omega) (by rw [hb']; omega) (by omega)
  rw [this, hs, Int.toNat_natCast, Nat.mul_one, rep_false]
theorem bools_set (n : Nat) (f : Nat → Bool) (x : Nat) (b : Bool) : (bools n f).setIfInBounds x (.bool b) = bools n (fun i => if i = x then b else f i) := by
  apply Array.ext_getElem?
  intro i
  rw [Array.getElem?_setIfInBounds]
  by_cases hi : i < n
  · rw [bools_get hi, bools_get hi]
    by_cases e : x = i
    · subst e; rw [if_pos rfl, if_pos (by simp [bools]; exact hi), if_pos rfl]
    · rw [if_neg e, if_neg (fun h => e h.symm)]
  · have h1 : ∀ g, (bools n g)[i]? = none := fun g => Array.getElem?_eq_none (by simp [bools]; omega)
    rw [h1, h1]
    by_cases e : x = i
    · rw [if_pos e, if_neg (by simp [bools]; omega)]
    · rw [if_neg e]
theorem bools_congr {n : Nat} {f g : Nat → Bool} (h : ∀ x, x < n → f x = g x) : bools n f = bools n g := by
  unfold bools
  congr 1
  apply List.map_congr_left
  intro x hx
  rw [List.mem_range] at hx
  rw [h x hx]
/-- the cells as bools -/
def fB (f : Cells) : Nat → Nat → Bool := fun y x => f y x == 1
/-- i rows stand in the slice mv -/
structure RowsS (w0 wr : World) (B O v k l m d i : Nat) (mv : Value) (rs : List Nat) (f : Cells) : Prop where
  out : Blk wr O 25 #[.int .i64 (v : Nat), .int .i64 (k : Nat), .int .i64 (l : Nat), .int .i64 (m : Nat), mv]
  own : wr.ownsRow 0 42 1 mv i (rs.map fun r : Nat => Value.slice (some ⟨r, 0, none⟩) d d)
  len : rs.length = i
  row : ∀ j, j < i → Blk wr (nth rs j) 4 (bools d (fB f j))
  below : Below B w0 wr
  new : B ≤ O ∧ ∀ q, mv.ownBlock = some q → B ≤ q
  size : B ≤ wr.heap.size
theorem RowsS.kp {w0 wr w' : World} {B O v k l m d i G : Nat} {mv : Value} {rs : List Nat} {f : Cells} (h : RowsS w0 wr B O v k l m d i mv rs f) (hk : Kp [G] wr w') (hG : wr.heap.size ≤ G) : RowsS w0 w' B O v k l m d i mv rs f := by
  have hs := h.size
  refine ⟨h.out.kp hk (by simp; have := h.out.lt; omega), ownsRow_kp h.own hk (fun q hq hS => by simp at hS; have := own_lt h.own q hq; omega), h.len, fun j hj => (h.row j hj).kp hk (by simp; have := (h.row j hj).lt; omega), below_of_kp h.below hk hs (by intro q hq; simp at hq; omega), h.new, by have := hk.size; omega⟩
theorem RowsS.push {w0 _wr w4 w5 : World} {B O v k l m d i G : Nat} {a : Option Addr} {ln c : Nat} {mv : Value} {rs : List Nat} {f : Cells} (h : RowsS w0 w4 B O v k l m d i mv rs f) (hG : Blk w4 G 4 (bools d (fB f i)))
    (hown : w5.ownsRow 0 42 1 (.slice a ln c) (i + 1) ((rs.map fun r : Nat => Value.slice (some ⟨r, 0, none⟩) d d) ++ [.slice (some ⟨G, 0, none⟩) d d])) (hk : Kp mv.ownBlock.toList (w4.alloc (.cells #[.slice (some ⟨G, 0, none⟩) d d] 42)) w5)
    (hv : (Value.slice a ln c).ownBlock = mv.ownBlock ∨ (Value.slice a ln c).ownBlock = some (w4.alloc (.cells #[.slice (some ⟨G, 0, none⟩) d d] 42)).heap.size) :
    RowsS w0 (w5.setCell ⟨O, 4, none⟩ (.slice a ln c)) B O v k l m d (i + 1) (.slice a ln c) (rs ++ [G]) f := by
  have hs := h.size
  have hk0 : Kp mv.ownBlock.toList w4 w5 := ((Kp.refl _ w4).alloc _).trans hk (by intro q hq _; exact hq)
  have hnb : ∀ q, q ∈ mv.ownBlock.toList → B ≤ q := fun q hq => h.new.2 q (by simpa using hq)
  have hO5 := h.out.kp hk0 (own_ne h.own h.out (by decide))
  have hset := hO5.set_ 4 (.slice a ln c)
  have hOl := h.out.lt
  have hne : ∀ q, (Value.slice a ln c).ownBlock = some q → q ≠ O := by
    intro q hq e
    subst e
    have := own_ne hown hO5 (by decide)
    rw [hq] at this
    simp at this
  refine ⟨hset, ?_, by rw [List.length_append, h.len]; rfl, ?_, (below_of_kp h.below hk0 hs hnb).setCell h.new.1 _, ⟨h.new.1, ?_⟩, ?_⟩
  · rw [List.map_append]
    exact ownsRow_kp hown ((Kp.refl [O] w5).setCell (p := ⟨O, 4, none⟩) (by simp) _) (fun q hq hS => by simp at hS; exact hne q hq hS)
  · intro j hj
    have hfar : ∀ {q : Nat} {cs : Array Value}, Blk w5 q 4 cs → Blk (w5.setCell ⟨O, 4, none⟩ (.slice a ln c)) q 4 cs := fun hb => hb.far (hb.ne_ hO5 (by decide)) _
    by_cases e : j = i
    · subst e
      rw [show nth (rs ++ [G]) j = G by rw [← h.len]; have := nth_append_right (l := rs) (m := [G]) (i := 0); rw [Nat.add_zero] at this; rw [this]; rfl]
      exact hfar (hG.kp hk0 (own_ne h.own hG (by decide)))
    · have hji : j < i := by omega
      rw [nth_append_left (by rw [h.len]; exact hji)]
      exact hfar ((h.row j hji).kp hk0 (own_ne h.own (h.row j hji) (by decide)))
  · intro q hq
    rcases hv with hv | hv
    · exact h.new.2 q (by rw [← hv]; exact hq)
    · rw [hv] at hq
      injection hq with hq
      rw [World.size_alloc] at hq
      omega
  · have := hk0.size
    simp [World.setCell]; omega
theorem RowsS.map {w0 wr : World} {B O v k l m d : Nat} {mv : Value} {rs : List Nat} {f : Cells} (h : RowsS w0 wr B O v k l m d d mv rs f) (hd : 1 ≤ d) : ∃ hb c, mv = .slice (some ⟨hb, 0, none⟩) d c ∧ BoolMap wr hb d (fB f) := by
  obtain ⟨b, c, hv, hb, -, -, hc, -, -⟩ := ownsRow_form h.own hd
  refine ⟨b, c, hv, hb, fun y hy => ⟨nth rs y, ?_, h.row y hy⟩⟩
  rw [hc y hy, List.getElem?_map, List.getElem?_eq_getElem (by rw [h.len]; exact hy), nth_get (by rw [h.len]; exact hy)]
  rfl
/-- the encoder's matrix bears the text -/
theorem bears_of {v l k m p : Nat} {s : ByteArray} {cw : List Nat} {es : Nat → List Nat} {f : Cells} (hm : m = modeOf (bytesOf s)) (hl : l ≤ 3) (hF : Found (bytesOf s) m l p v) (hk : k < 8) (hs : Sym v (fmtT (l * 8 + k)) k (cw.flatMap (bitsOf 8)) f) (hok : CwOk v l (streamOf v l m s) cw es) (hcb : ∀ i, nth cw i < 256) (h1 : 1 ≤ s.size) (h600 : s.size ≤ 1000) :
    Bears v l k m (dataB v l) s cw es (fB f) := by
  have hb01 : ∀ b, (b01 b == 1) = b := fun b => by cases b <;> rfl
  have hcc := hF.cc
  have hq := hF.hq
  refine ⟨hF.q1, hF.q2, hl, hk, ?_, ?_, ?_, hok, hcb, hm, rfl, by omega, by rw [← bytesOf_length]; exact hF.n, h1, h600, sym_corn hs hF.q1 hF.q2⟩
  · intro y x hy hx ht
    unfold fB
    rw [hs.fmt y x hy hx ht, hb01]
  · intro h7 y x hy hx ht
    unfold fB
    rw [hs.ver h7 y x hy hx ht, hb01]
  · intro y x hy hx hf
    unfold fB
    rw [hs.dat y x hy hx hf, hb01]
end
end Go.Proofs.YtcekbhhpcmhicaaGreatDoor
