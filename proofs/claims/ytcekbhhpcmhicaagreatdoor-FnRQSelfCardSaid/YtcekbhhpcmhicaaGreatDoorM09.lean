/- versionOf, one number after the other. Printed by vers.py; versionOf, one number after the other. Printed by vers.py; versionOf, one number after the other. Printed by vers.py; versionOf at each number up to 27; GetVersionForNumber and what is read of a version; Counts of blocks and of check numbers. -/
import Derived.Test.YtcekbhhpcmhicaaGreatDoorM08
namespace Go.Proofs.YtcekbhhpcmhicaaGreatDoor
open Go.RowKit Go.QW Go.QGF Go.QV
set_option maxHeartbeats 4000000 in
set_option maxRecDepth 100000 in
theorem ver_12 (w : World) :
    Calls Tryz.prog 107 #[.int .i64 12] w fun e w' => ∃ A, e = .returned (.pointer (some ⟨A, 0, none⟩)) ∧ Ver w' A 12 ∧ Below w.heap.size w w' ∧ w.heap.size ≤ A := by
  go_enter Tryz.func107, Tryz.ntmps107
  go_wp2_with fail
  refine (ver_fin 12 (24, [(2, 92), (2, 93)]) (22, [(6, 36), (2, 37)]) (26, [(4, 20), (6, 21)]) (28, [(7, 14), (4, 15)]) rfl (by decide) (by decide) (by decide) 3 2 rfl rfl _ _ _ _ _ _ w rfl rfl rfl rfl rfl rfl).mono ?_
  rintro e w1 ⟨A, rfl, h⟩
  go_wp2_with fail
  go_ret
  exact ⟨A, rfl, h⟩
set_option maxHeartbeats 4000000 in
set_option maxRecDepth 100000 in
theorem ver_13 (w : World) :
    Calls Tryz.prog 107 #[.int .i64 13] w fun e w' => ∃ A, e = .returned (.pointer (some ⟨A, 0, none⟩)) ∧ Ver w' A 13 ∧ Below w.heap.size w w' ∧ w.heap.size ≤ A := by
  go_enter Tryz.func107, Tryz.ntmps107
  go_wp2_with fail
  refine (ver_fin 13 (26, [(4, 107)]) (22, [(8, 37), (1, 38)]) (24, [(8, 20), (4, 21)]) (22, [(12, 11), (4, 12)]) rfl (by decide) (by decide) (by decide) 3 1 rfl rfl _ _ _ _ _ _ w rfl rfl rfl rfl rfl rfl).mono ?_
  rintro e w1 ⟨A, rfl, h⟩
  go_wp2_with fail
  go_ret
  exact ⟨A, rfl, h⟩
set_option maxHeartbeats 4000000 in
set_option maxRecDepth 100000 in
theorem ver_14 (w : World) :
    Calls Tryz.prog 107 #[.int .i64 14] w fun e w' => ∃ A, e = .returned (.pointer (some ⟨A, 0, none⟩)) ∧ Ver w' A 14 ∧ Below w.heap.size w w' ∧ w.heap.size ≤ A := by
  go_enter Tryz.func107, Tryz.ntmps107
  go_wp2_with fail
  refine (ver_fin 14 (30, [(3, 115), (1, 116)]) (24, [(4, 40), (5, 41)]) (20, [(11, 16), (5, 17)]) (24, [(11, 12), (5, 13)]) rfl (by decide) (by decide) (by decide) 4 2 rfl rfl _ _ _ _ _ _ w rfl rfl rfl rfl rfl rfl).mono ?_
  rintro e w1 ⟨A, rfl, h⟩
  go_wp2_with fail
  go_ret
  exact ⟨A, rfl, h⟩
set_option maxHeartbeats 4000000 in
set_option maxRecDepth 100000 in
theorem ver_15 (w : World) :
    Calls Tryz.prog 107 #[.int .i64 15] w fun e w' => ∃ A, e = .returned (.pointer (some ⟨A, 0, none⟩)) ∧ Ver w' A 15 ∧ Below w.heap.size w w' ∧ w.heap.size ≤ A := by
  go_enter Tryz.func107, Tryz.ntmps107
  go_wp2_with fail
  refine (ver_fin 15 (22, [(5, 87), (1, 88)]) (24, [(5, 41), (5, 42)]) (30, [(5, 24), (7, 25)]) (24, [(11, 12), (7, 13)]) rfl (by decide) (by decide) (by decide) 4 2 rfl rfl _ _ _ _ _ _ w rfl rfl rfl rfl rfl rfl).mono ?_
  rintro e w1 ⟨A, rfl, h⟩
  go_wp2_with fail
  go_ret
  exact ⟨A, rfl, h⟩
set_option maxHeartbeats 4000000 in
set_option maxRecDepth 100000 in
theorem ver_16 (w : World) :
    Calls Tryz.prog 107 #[.int .i64 16] w fun e w' => ∃ A, e = .returned (.pointer (some ⟨A, 0, none⟩)) ∧ Ver w' A 16 ∧ Below w.heap.size w w' ∧ w.heap.size ≤ A := by
  go_enter Tryz.func107, Tryz.ntmps107
  go_wp2_with fail
  refine (ver_fin 16 (24, [(5, 98), (1, 99)]) (28, [(7, 45), (3, 46)]) (24, [(15, 19), (2, 20)]) (30, [(3, 15), (13, 16)]) rfl (by decide) (by decide) (by decide) 4 2 rfl rfl _ _ _ _ _ _ w rfl rfl rfl rfl rfl rfl).mono ?_
  rintro e w1 ⟨A, rfl, h⟩
  go_wp2_with fail
  go_ret
  exact ⟨A, rfl, h⟩
set_option maxHeartbeats 4000000 in
set_option maxRecDepth 100000 in
theorem ver_17 (w : World) :
    Calls Tryz.prog 107 #[.int .i64 17] w fun e w' => ∃ A, e = .returned (.pointer (some ⟨A, 0, none⟩)) ∧ Ver w' A 17 ∧ Below w.heap.size w w' ∧ w.heap.size ≤ A := by
  go_enter Tryz.func107, Tryz.ntmps107
  go_wp2_with fail
  refine (ver_fin 17 (28, [(1, 107), (5, 108)]) (28, [(10, 46), (1, 47)]) (28, [(1, 22), (15, 23)]) (28, [(2, 14), (17, 15)]) rfl (by decide) (by decide) (by decide) 4 2 rfl rfl _ _ _ _ _ _ w rfl rfl rfl rfl rfl rfl).mono ?_
  rintro e w1 ⟨A, rfl, h⟩
  go_wp2_with fail
  go_ret
  exact ⟨A, rfl, h⟩
set_option maxHeartbeats 4000000 in
set_option maxRecDepth 100000 in
theorem ver_18 (w : World) :
    Calls Tryz.prog 107 #[.int .i64 18] w fun e w' => ∃ A, e = .returned (.pointer (some ⟨A, 0, none⟩)) ∧ Ver w' A 18 ∧ Below w.heap.size w w' ∧ w.heap.size ≤ A := by
  go_enter Tryz.func107, Tryz.ntmps107
  go_wp2_with fail
  refine (ver_fin 18 (30, [(5, 120), (1, 121)]) (26, [(9, 43), (4, 44)]) (28, [(17, 22), (1, 23)]) (28, [(2, 14), (19, 15)]) rfl (by decide) (by decide) (by decide) 4 2 rfl rfl _ _ _ _ _ _ w rfl rfl rfl rfl rfl rfl).mono ?_
  rintro e w1 ⟨A, rfl, h⟩
  go_wp2_with fail
  go_ret
  exact ⟨A, rfl, h⟩
set_option maxHeartbeats 4000000 in
set_option maxRecDepth 100000 in
theorem ver_19 (w : World) :
    Calls Tryz.prog 107 #[.int .i64 19] w fun e w' => ∃ A, e = .returned (.pointer (some ⟨A, 0, none⟩)) ∧ Ver w' A 19 ∧ Below w.heap.size w w' ∧ w.heap.size ≤ A := by
  go_enter Tryz.func107, Tryz.ntmps107
  go_wp2_with fail
  refine (ver_fin 19 (28, [(3, 113), (4, 114)]) (26, [(3, 44), (11, 45)]) (26, [(17, 21), (4, 22)]) (26, [(9, 13), (16, 14)]) rfl (by decide) (by decide) (by decide) 4 2 rfl rfl _ _ _ _ _ _ w rfl rfl rfl rfl rfl rfl).mono ?_
  rintro e w1 ⟨A, rfl, h⟩
  go_wp2_with fail
  go_ret
  exact ⟨A, rfl, h⟩
end Go.Proofs.YtcekbhhpcmhicaaGreatDoor
namespace Go.Proofs.YtcekbhhpcmhicaaGreatDoor
open Go.RowKit Go.QW Go.QGF Go.QV
set_option maxHeartbeats 4000000 in
set_option maxRecDepth 100000 in
theorem ver_20 (w : World) :
    Calls Tryz.prog 107 #[.int .i64 20] w fun e w' => ∃ A, e = .returned (.pointer (some ⟨A, 0, none⟩)) ∧ Ver w' A 20 ∧ Below w.heap.size w w' ∧ w.heap.size ≤ A := by
  go_enter Tryz.func107, Tryz.ntmps107
  go_wp2_with fail
  refine (ver_fin 20 (28, [(3, 107), (5, 108)]) (26, [(3, 41), (13, 42)]) (30, [(15, 24), (5, 25)]) (28, [(15, 15), (10, 16)]) rfl (by decide) (by decide) (by decide) 4 2 rfl rfl _ _ _ _ _ _ w rfl rfl rfl rfl rfl rfl).mono ?_
  rintro e w1 ⟨A, rfl, h⟩
  go_wp2_with fail
  go_ret
  exact ⟨A, rfl, h⟩
set_option maxHeartbeats 4000000 in
set_option maxRecDepth 100000 in
theorem ver_21 (w : World) :
    Calls Tryz.prog 107 #[.int .i64 21] w fun e w' => ∃ A, e = .returned (.pointer (some ⟨A, 0, none⟩)) ∧ Ver w' A 21 ∧ Below w.heap.size w w' ∧ w.heap.size ≤ A := by
  go_enter Tryz.func107, Tryz.ntmps107
  go_wp2_with fail
  refine (ver_fin 21 (28, [(4, 116), (4, 117)]) (26, [(17, 42)]) (28, [(17, 22), (6, 23)]) (30, [(19, 16), (6, 17)]) rfl (by decide) (by decide) (by decide) 5 2 rfl rfl _ _ _ _ _ _ w rfl rfl rfl rfl rfl rfl).mono ?_
  rintro e w1 ⟨A, rfl, h⟩
  go_wp2_with fail
  go_ret
  exact ⟨A, rfl, h⟩
set_option maxHeartbeats 4000000 in
set_option maxRecDepth 100000 in
theorem ver_22 (w : World) :
    Calls Tryz.prog 107 #[.int .i64 22] w fun e w' => ∃ A, e = .returned (.pointer (some ⟨A, 0, none⟩)) ∧ Ver w' A 22 ∧ Below w.heap.size w w' ∧ w.heap.size ≤ A := by
  go_enter Tryz.func107, Tryz.ntmps107
  go_wp2_with fail
  refine (ver_fin 22 (28, [(2, 111), (7, 112)]) (28, [(17, 46)]) (30, [(7, 24), (16, 25)]) (24, [(34, 13)]) rfl (by decide) (by decide) (by decide) 5 2 rfl rfl _ _ _ _ _ _ w rfl rfl rfl rfl rfl rfl).mono ?_
  rintro e w1 ⟨A, rfl, h⟩
  go_wp2_with fail
  go_ret
  exact ⟨A, rfl, h⟩
set_option maxHeartbeats 4000000 in
set_option maxRecDepth 100000 in
theorem ver_23 (w : World) :
    Calls Tryz.prog 107 #[.int .i64 23] w fun e w' => ∃ A, e = .returned (.pointer (some ⟨A, 0, none⟩)) ∧ Ver w' A 23 ∧ Below w.heap.size w w' ∧ w.heap.size ≤ A := by
  go_enter Tryz.func107, Tryz.ntmps107
  go_wp2_with fail
  refine (ver_fin 23 (30, [(4, 121), (5, 122)]) (28, [(4, 47), (14, 48)]) (30, [(11, 24), (14, 25)]) (30, [(16, 15), (14, 16)]) rfl (by decide) (by decide) (by decide) 5 2 rfl rfl _ _ _ _ _ _ w rfl rfl rfl rfl rfl rfl).mono ?_
  rintro e w1 ⟨A, rfl, h⟩
  go_wp2_with fail
  go_ret
  exact ⟨A, rfl, h⟩
set_option maxHeartbeats 4000000 in
set_option maxRecDepth 100000 in
theorem ver_24 (w : World) :
    Calls Tryz.prog 107 #[.int .i64 24] w fun e w' => ∃ A, e = .returned (.pointer (some ⟨A, 0, none⟩)) ∧ Ver w' A 24 ∧ Below w.heap.size w w' ∧ w.heap.size ≤ A := by
  go_enter Tryz.func107, Tryz.ntmps107
  go_wp2_with fail
  refine (ver_fin 24 (30, [(6, 117), (4, 118)]) (28, [(6, 45), (14, 46)]) (30, [(11, 24), (16, 25)]) (30, [(30, 16), (2, 17)]) rfl (by decide) (by decide) (by decide) 5 2 rfl rfl _ _ _ _ _ _ w rfl rfl rfl rfl rfl rfl).mono ?_
  rintro e w1 ⟨A, rfl, h⟩
  go_wp2_with fail
  go_ret
  exact ⟨A, rfl, h⟩
end Go.Proofs.YtcekbhhpcmhicaaGreatDoor
namespace Go.Proofs.YtcekbhhpcmhicaaGreatDoor
open Go.RowKit Go.QW Go.QGF Go.QV
set_option maxHeartbeats 4000000 in
set_option maxRecDepth 100000 in
theorem ver_25 (w : World) :
    Calls Tryz.prog 107 #[.int .i64 25] w fun e w' => ∃ A, e = .returned (.pointer (some ⟨A, 0, none⟩)) ∧ Ver w' A 25 ∧ Below w.heap.size w w' ∧ w.heap.size ≤ A := by
  go_enter Tryz.func107, Tryz.ntmps107
  go_wp2_with fail
  refine (ver_fin 25 (26, [(8, 106), (4, 107)]) (28, [(8, 47), (13, 48)]) (30, [(7, 24), (22, 25)]) (30, [(22, 15), (13, 16)]) rfl (by decide) (by decide) (by decide) 5 2 rfl rfl _ _ _ _ _ _ w rfl rfl rfl rfl rfl rfl).mono ?_
  rintro e w1 ⟨A, rfl, h⟩
  go_wp2_with fail
  go_ret
  exact ⟨A, rfl, h⟩
set_option maxHeartbeats 4000000 in
set_option maxRecDepth 100000 in
theorem ver_26 (w : World) :
    Calls Tryz.prog 107 #[.int .i64 26] w fun e w' => ∃ A, e = .returned (.pointer (some ⟨A, 0, none⟩)) ∧ Ver w' A 26 ∧ Below w.heap.size w w' ∧ w.heap.size ≤ A := by
  go_enter Tryz.func107, Tryz.ntmps107
  go_wp2_with fail
  refine (ver_fin 26 (28, [(10, 114), (2, 115)]) (28, [(19, 46), (4, 47)]) (28, [(28, 22), (6, 23)]) (30, [(33, 16), (4, 17)]) rfl (by decide) (by decide) (by decide) 5 2 rfl rfl _ _ _ _ _ _ w rfl rfl rfl rfl rfl rfl).mono ?_
  rintro e w1 ⟨A, rfl, h⟩
  go_wp2_with fail
  go_ret
  exact ⟨A, rfl, h⟩
set_option maxHeartbeats 4000000 in
set_option maxRecDepth 100000 in
theorem ver_27 (w : World) :
    Calls Tryz.prog 107 #[.int .i64 27] w fun e w' => ∃ A, e = .returned (.pointer (some ⟨A, 0, none⟩)) ∧ Ver w' A 27 ∧ Below w.heap.size w w' ∧ w.heap.size ≤ A := by
  go_enter Tryz.func107, Tryz.ntmps107
  go_wp2_with fail
  refine (ver_fin 27 (30, [(8, 122), (4, 123)]) (28, [(22, 45), (3, 46)]) (30, [(8, 23), (26, 24)]) (30, [(12, 15), (28, 16)]) rfl (by decide) (by decide) (by decide) 5 2 rfl rfl _ _ _ _ _ _ w rfl rfl rfl rfl rfl rfl).mono ?_
  rintro e w1 ⟨A, rfl, h⟩
  go_wp2_with fail
  go_ret
  exact ⟨A, rfl, h⟩
end Go.Proofs.YtcekbhhpcmhicaaGreatDoor
namespace Go.Proofs.YtcekbhhpcmhicaaGreatDoor
open Go.RowKit Go.QW Go.QGF Go.QV

theorem versionOf_any (v : Nat) (h1 : 1 ≤ v) (h2 : v ≤ 27) (w : World) :
    Calls Tryz.prog 107 #[.int .i64 v] w fun e w' => ∃ A, e = .returned (.pointer (some ⟨A, 0, none⟩)) ∧ Ver w' A v ∧ Below w.heap.size w w' ∧ w.heap.size ≤ A := by
  match v, h1, h2 with
  | 1, _, _ => exact ver_1 w
  | 2, _, _ => exact ver_2 w
  | 3, _, _ => exact ver_3 w
  | 4, _, _ => exact ver_4 w
  | 5, _, _ => exact ver_5 w
  | 6, _, _ => exact ver_6 w
  | 7, _, _ => exact ver_7 w
  | 8, _, _ => exact ver_8 w
  | 9, _, _ => exact ver_9 w
  | 10, _, _ => exact ver_10 w
  | 11, _, _ => exact ver_11 w
  | 12, _, _ => exact ver_12 w
  | 13, _, _ => exact ver_13 w
  | 14, _, _ => exact ver_14 w
  | 15, _, _ => exact ver_15 w
  | 16, _, _ => exact ver_16 w
  | 17, _, _ => exact ver_17 w
  | 18, _, _ => exact ver_18 w
  | 19, _, _ => exact ver_19 w
  | 20, _, _ => exact ver_20 w
  | 21, _, _ => exact ver_21 w
  | 22, _, _ => exact ver_22 w
  | 23, _, _ => exact ver_23 w
  | 24, _, _ => exact ver_24 w
  | 25, _, _ => exact ver_25 w
  | 26, _, _ => exact ver_26 w
  | 27, _, _ => exact ver_27 w
  | n + 28, _, h => exact absurd h (by omega)
theorem getver_any (v : Nat) (h1 : 1 ≤ v) (h2 : v ≤ 27) (w : World) :
    Calls Tryz.prog 49 #[.int .i64 v] w fun e w' => ∃ A, e = .returned (.tuple #[.pointer (some ⟨A, 0, none⟩), .nilIface]) ∧ Ver w' A v ∧ Below w.heap.size w w' ∧ w.heap.size ≤ A := by
  have hd1 : decide ((v : Int) < 1) = false := by simp; omega
  have hd2 : decide ((40 : Int) < (v : Int)) = false := by simp; omega
  go_enter Tryz.func49, Tryz.ntmps49
  go_wp2_with fail
  refine (versionOf_any v h1 h2 w).mono ?_
  rintro e w1 ⟨A, rfl, h⟩
  go_wp2_with fail
  go_ret2
  exact ⟨A, rfl, h⟩
theorem vernum_any (A v : Nat) (w : World) (h : Ver w A v) :
    Calls Tryz.prog 18 #[.pointer (some ⟨A, 0, none⟩)] w fun e w' => e = .returned (.int .i64 v) ∧ w = w' := by
  obtain ⟨ga, ge, g0, g1, g2, g3, L0, L1, L2, L3, hl, b1, -⟩ := h.ex
  have c0 := b1.cell 0
  simp only [List.getElem?_toArray, List.getElem?_cons_zero] at c0
  go_enter Tryz.func18, Tryz.ntmps18
  go_wp2
  go_ret
  exact ⟨rfl, rfl⟩
theorem vertot_any (A v : Nat) (w : World) (h : Ver w A v) :
    Calls Tryz.prog 58 #[.pointer (some ⟨A, 0, none⟩)] w fun e w' => e = .returned (.int .i64 (total v : Nat)) ∧ w = w' := by
  obtain ⟨ga, ge, g0, g1, g2, g3, L0, L1, L2, L3, hl, b1, -⟩ := h.ex
  have c0 := b1.cell 3
  simp only [List.getElem?_toArray, List.getElem?_cons_zero, List.getElem?_cons_succ] at c0
  go_enter Tryz.func58, Tryz.ntmps58
  go_wp2
  go_ret
  exact ⟨rfl, rfl⟩
theorem verdim_any (A v : Nat) (w : World) (h : Ver w A v) (hv : v ≤ 100) :
    Calls Tryz.prog 67 #[.pointer (some ⟨A, 0, none⟩)] w fun e w' => e = .returned (.int .i64 (17 + 4 * v : Nat)) ∧ w = w' := by
  obtain ⟨ga, ge, g0, g1, g2, g3, L0, L1, L2, L3, hl, b1, -⟩ := h.ex
  have c0 := b1.cell 0
  simp only [List.getElem?_toArray, List.getElem?_cons_zero] at c0
  go_enter Tryz.func67, Tryz.ntmps67
  go_wp2
  go_ret
  exact ⟨ret_int (by omega), rfl⟩

/-- the place of an error correction level in a version's list -/
def lvIx (l : Nat) : Nat := if l = 1 then 0 else if l = 0 then 1 else if l = 3 then 2 else 3
/-- the pointer ⟨ge, o⟩ is to the blocks (ec, bl) -/
def EcB (w : World) (ge o : Nat) (L : Nat × List (Nat × Nat)) : Prop :=
  ∃ gs, w.cell? ⟨ge, o, none⟩ = some (.int .i64 (L.1 : Nat)) ∧ w.cell? ⟨ge, o + 1, none⟩ = some (.slice (some ⟨gs, 0, none⟩) L.2.length L.2.length) ∧ Blk w gs 211 (ecbs L.2) ∧ ge < w.heap.size ∧ ∃ cs, Blk w ge 201 cs
theorem ecfor_any (A v l : Nat) (w : World) (h : Ver w A v) (hl : l ≤ 3) :
    Calls Tryz.prog 57 #[.pointer (some ⟨A, 0, none⟩), .int .i64 l] w fun e w' => ∃ ge o, e = .returned (.pointer (some ⟨ge, o, none⟩)) ∧ EcB w ge o ((levels v).getD (lvIx l) (0, [])) ∧ w = w' := by
  obtain ⟨ga, ge, g0, g1, g2, g3, L0, L1, L2, L3, hL, b1, b2, b3, b4, b5, b6, b7⟩ := h.ex
  have c0 := b1.cell 2
  simp only [List.getElem?_toArray, List.getElem?_cons_zero, List.getElem?_cons_succ] at c0
  rw [hL]
  match l, hl with
  | 0, _ =>
    go_enter Tryz.func57, Tryz.ntmps57
    go_wp2
    go_ret
    exact ⟨ge, 2, rfl, ⟨g1, b3.cell 2, b3.cell 3, b5, b3.lt, _, b3⟩, rfl⟩
  | 1, _ =>
    go_enter Tryz.func57, Tryz.ntmps57
    go_wp2
    go_ret
    exact ⟨ge, 0, rfl, ⟨g0, b3.cell 0, b3.cell 1, b4, b3.lt, _, b3⟩, rfl⟩
  | 2, _ =>
    go_enter Tryz.func57, Tryz.ntmps57
    go_wp2
    go_ret
    exact ⟨ge, 6, rfl, ⟨g3, b3.cell 6, b3.cell 7, b7, b3.lt, _, b3⟩, rfl⟩
  | 3, _ =>
    go_enter Tryz.func57, Tryz.ntmps57
    go_wp2
    go_ret
    exact ⟨ge, 4, rfl, ⟨g2, b3.cell 4, b3.cell 5, b6, b3.lt, _, b3⟩, rfl⟩
end Go.Proofs.YtcekbhhpcmhicaaGreatDoor
namespace Go.Proofs.YtcekbhhpcmhicaaGreatDoor
open Go.RowKit Go.QW Go.QGF Go.QV

def numB (bl : List (Nat × Nat)) : Nat := (bl.map fun x => x.1).sum
theorem numB_snoc (bl : List (Nat × Nat)) (i : Nat) (h : i < bl.length) : numB (bl.take (i + 1)) = numB (bl.take i) + (bl.getD i (0, 0)).1 := by
  unfold numB
  rw [List.take_add_one, List.getElem?_eq_getElem h, List.getD_eq_getElem?_getD, List.getElem?_eq_getElem h]
  simp only [Option.toList, List.map_append, List.sum_append, List.map_cons, List.map_nil, List.sum_cons, List.sum_nil, Option.getD_some, Nat.add_zero]
theorem numB_le (l : List (Nat × Nat)) (hb : ∀ x, x ∈ l → x.1 ≤ 100) : numB l ≤ 100 * l.length := by
  unfold numB
  induction l with
  | nil => exact Nat.le_refl _
  | cons x l ih =>
    have h1 := ih (fun y hy => hb y (List.mem_cons_of_mem _ hy))
    have h2 := hb x List.mem_cons_self
    rw [List.map_cons, List.sum_cons, List.length_cons]
    omega
theorem EcB.below {w w' : World} {ge o : Nat} {L : Nat × List (Nat × Nat)} (h : EcB w ge o L) (hb : Below w.heap.size w w') : EcB w' ge o L := by
  obtain ⟨gs, h1, h2, h3, h4, cs, h5⟩ := h
  exact ⟨gs, (hb.cell (p := ⟨ge, o, none⟩) h4).trans h1, (hb.cell (p := ⟨ge, o + 1, none⟩) h4).trans h2, h3.below hb h3.lt, Nat.lt_of_lt_of_le h4 hb.size, cs, h5.below hb h4⟩
theorem EcB.kp {w w' : World} {S : List Nat} {ge o : Nat} {L : Nat × List (Nat × Nat)} (h : EcB w ge o L) (hk : Kp S w w') (ho : Off w S [201, 211]) : EcB w' ge o L := by
  obtain ⟨gs, h1, h2, h3, h4, cs, h5⟩ := h
  have hn : ge ∉ S := fun hS => ho ge hS _ _ h5 (by simp)
  exact ⟨gs, (hk.cell (p := ⟨ge, o, none⟩) h4 hn).trans h1, (hk.cell (p := ⟨ge, o + 1, none⟩) h4 hn).trans h2, h3.kp hk (fun hS => ho gs hS _ _ h3 (by simp)), Nat.lt_of_lt_of_le h4 hk.size, cs, h5.kp hk hn⟩

set_option maxHeartbeats 2000000 in
set_option maxRecDepth 100000 in
theorem numblk_any (ge o : Nat) (L : Nat × List (Nat × Nat)) (w : World) (h : EcB w ge o L) (hB : ∀ x, x ∈ L.2 → x.1 ≤ 100) (hl : L.2.length ≤ 4) :
    Calls Tryz.prog 62 #[.pointer (some ⟨ge, o, none⟩)] w fun e w' => e = .returned (.int .i64 (numB L.2 : Nat)) ∧ Below w.heap.size w w' := by
  obtain ⟨gs, e0, e1, hS, hgl, -⟩ := h
  have hSl := hS.lt
  obtain ⟨ec, bl⟩ := L
  simp only at hS e0 e1 hB hl ⊢
  go_enter Tryz.func62, Tryz.ntmps62
  go_wp2_with fail
  go_loopw [3, 5, 11] (fun t3 _ t wr => ∃ i : Nat, i ≤ bl.length ∧ t = .int .i64 (i : Nat) ∧ t3 = .int .i64 (numB (bl.take i) : Nat) ∧ Below w.heap.size w wr) (fun _ _ t _ => bl.length - (intOf t).toNat)
  case atStart => exact ⟨0, by omega, rfl, rfl, Below.refl _ _⟩
  case round =>
    obtain ⟨i, hi, rfl, rfl, hw⟩ := hrel
    have hsz := hw.size
    by_cases hlt : i < bl.length
    · obtain ⟨c1, c2⟩ := ecbs_get bl i hlt
      obtain ⟨x, hx⟩ : ∃ x, x = bl.getD i (0, 0) := ⟨_, rfl⟩
      rw [← hx] at c1 c2
      have d1 := ((hS.below hw hSl).cell (2 * i)).trans c1
      have d2 := ((hS.below hw hSl).cell (2 * i + 1)).trans c2
      rw [Nat.mul_comm 2 i] at d1 d2
      have hnl := numB_le (bl.take i) (fun y hy => hB y (List.mem_of_mem_take hy))
      have htl : (bl.take i).length ≤ 4 := by rw [List.length_take]; omega
      have hx1 : x.1 ≤ 100 := hB x (by rw [hx, List.getD_eq_getElem?_getD, List.getElem?_eq_getElem hlt]; exact List.getElem_mem hlt)
      have hsn := numB_snoc bl i hlt
      rw [← hx] at hsn
      have HX := Lib.hid hsn
      clear hx hsn
      obtain ⟨m, hm⟩ : ∃ m, m = numB (bl.take i) := ⟨_, rfl⟩
      rw [← hm] at hnl HX ⊢
      clear hm
      go_wp2_with fail
      refine (count_any _ _ _).mono ?_
      rintro e w1 ⟨rfl, hb1⟩
      have hs1 := hb1.size
      rw [World.size_alloc] at hs1
      go_wp2_with fail
      go_roundw
      case rel => exact ⟨i + 1, by omega, by go_num, by rw [HX.out]; go_num, (hw.alloc hsz _).trans (hb1.mono (by rw [World.size_alloc]; omega))⟩
      case measure => simp [intOf]; omega
    · have hie : i = bl.length := by omega
      subst hie
      rw [List.take_length]
      go_wp2_with fail
      go_ret
      exact ⟨rfl, hw⟩
set_option maxHeartbeats 2000000 in
set_option maxRecDepth 100000 in
theorem totec_any (ge o : Nat) (L : Nat × List (Nat × Nat)) (w : World) (h : EcB w ge o L) (hB : ∀ x, x ∈ L.2 → x.1 ≤ 100) (hl : L.2.length ≤ 4) (hec : L.1 ≤ 100) :
    Calls Tryz.prog 59 #[.pointer (some ⟨ge, o, none⟩)] w fun e w' => e = .returned (.int .i64 (L.1 * numB L.2 : Nat)) ∧ Below w.heap.size w w' := by
  obtain ⟨gs, e0, e1, hS, hgl, hcs⟩ := h
  have hE : EcB w ge o L := ⟨gs, e0, e1, hS, hgl, hcs⟩
  have hnl := numB_le L.2 hB
  have hval : IntKind.i64.wrap ((L.1 : Int) * ((numB L.2 : Nat) : Int)) = ((L.1 * numB L.2 : Nat) : Int) := by
    have : L.1 * numB L.2 ≤ 100 * 400 := Nat.mul_le_mul hec (by omega)
    rw [← Int.natCast_mul, wrap_nat_i64 _ (by omega)]
  go_enter Tryz.func59, Tryz.ntmps59
  go_wp2_with fail
  have hS0 : w.drew.cell? ⟨ge, o, none⟩ = some (.int .i64 (L.1 : Nat)) ∧ ge < w.drew.heap.size ∧ Below w.heap.size w w.drew ∧ w.heap.size ≤ w.drew.heap.size := ⟨e0, hgl, (Below.refl _ _).drew, Nat.le_refl _⟩
  go_region_held3 (fun w' => w'.cell? ⟨ge, o, none⟩ = some (.int .i64 (L.1 : Nat)) ∧ ge < w'.heap.size ∧ Below w.heap.size w w' ∧ w.heap.size ≤ w'.heap.size) (first | assumption | go_keep) (first | (go_at_call 62; refine (numblk_any ge o L _ ?_ hB hl).mono ?_; (exact hE.below (Below.refl _ _).drew); rintro e w' ⟨rfl, hb⟩; have hS1 : w'.cell? ⟨ge, o, none⟩ = some (.int .i64 (L.1 : Nat)) ∧ ge < w'.heap.size ∧ Below w.heap.size w w' ∧ w.heap.size ≤ w'.heap.size := ⟨(hb.cell (p := ⟨ge, o, none⟩) hgl).trans e0, Nat.lt_of_lt_of_le hgl hb.size, (Below.refl _ _).drew.trans (hb.mono (Nat.le_refl _)), hb.size⟩))
  clear hval
  go_wp2_with fail
  go_ret
  exact ⟨ret_int (Int.natCast_mul _ _).symm, hS1.2.2.1⟩
end Go.Proofs.YtcekbhhpcmhicaaGreatDoor
