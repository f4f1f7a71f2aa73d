/- The white functions of penalty rule 3. -/
import Derived.Test.YtcekbhhpcmhicaaGreatDoorM18
import Derived.Deep.DeepCutAuto
import Derived.Deep.LoopGhost
namespace Go.Proofs.YtcekbhhpcmhicaaGreatDoor
open Go.RowKit Go.QW Go.QM Go.QV Go.QZ
def SomeB (w : World) (e : Ending) (w' : World) : Prop := ∃ r : Bool, e = .returned (.bool r) ∧ w = w'
def SomeV (s : Value) : Prop := ∃ b : Bool, s = .bool b
def PNext (p : Nat) (s : Value) : Prop := ∃ p' : Nat, s = .int .i64 (p' : Nat) ∧ p' ≤ p + 1
theorem someB_mk (r : Bool) (w : World) : SomeB w (.returned (.bool r)) w := ⟨r, rfl, rfl⟩
section
variable {w : World} {A R d : Nat} {f : Cells}
set_option maxHeartbeats 8000000 in
set_option maxRecDepth 100000 in
theorem whiteH_any {g : Nat} {r0 : Nat → Int} (hB : Blk w g 64 (i8s d r0)) (a b : Int) (ha : -10 ≤ a) (ha2 : a ≤ 300) (hb : -10 ≤ b) (hb2 : b ≤ 300) (hd : d ≤ 200) :
    Calls Tryz.prog 196 #[.slice (some ⟨g, 0, none⟩) d d, .int .i64 a, .int .i64 b] w (SomeB w) := by
  by_cases h1 : a < 0
  · have d1 : decide (a < 0) = true := by simp; omega
    by_cases h2 : (d : Int) < b
    · have d2 : decide ((d : Int) < b) = true := by simp; omega
      go_enter Tryz.func196, Tryz.ntmps196
      go_wp2_with fail
      go_loop [7] (fun t => ∃ i : Nat, i ≤ 400 ∧ t = .int .i64 i) (fun t => ((d : Int) - intOf t).toNat)
      case atStart => exact ⟨0, by omega, rfl⟩
      case round =>
        obtain ⟨i, hi, rfl⟩ := hrel
        by_cases hlt : (i : Int) < (d : Int)
        · have hda : decide ((i : Int) < (d : Int)) = true := by simp; omega
          have hid : i < d := by omega
          have c0 := hB.cell i
          rw [i8s_get hid] at c0
          obtain ⟨z, hz⟩ : ∃ z, z = r0 i := ⟨_, rfl⟩
          rw [← hz] at c0
          clear hz
          cases t1 : (z == 1) with
          | true =>
            go_wp2_with fail
            go_ret
            exact someB_mk _ _
          | false =>
            go_wp2_with fail
            go_round
            case rel => exact ⟨i + 1, by omega, by go_num⟩
            case measure => simp [intOf]; omega
        · have hda : decide ((i : Int) < (d : Int)) = false := by simp; omega
          go_wp2_with fail
          go_ret
          exact someB_mk _ _
    · have d2 : decide ((d : Int) < b) = false := by simp; omega
      go_enter Tryz.func196, Tryz.ntmps196
      go_wp2_with fail
      go_loop [7] (fun t => ∃ i : Nat, i ≤ 400 ∧ t = .int .i64 i) (fun t => (b - intOf t).toNat)
      case atStart => exact ⟨0, by omega, rfl⟩
      case round =>
        obtain ⟨i, hi, rfl⟩ := hrel
        by_cases hlt : (i : Int) < b
        · have hda : decide ((i : Int) < b) = true := by simp; omega
          have hid : i < d := by omega
          have c0 := hB.cell i
          rw [i8s_get hid] at c0
          obtain ⟨z, hz⟩ : ∃ z, z = r0 i := ⟨_, rfl⟩
          rw [← hz] at c0
          clear hz
          cases t1 : (z == 1) with
          | true =>
            go_wp2_with fail
            go_ret
            exact someB_mk _ _
          | false =>
            go_wp2_with fail
            go_round
            case rel => exact ⟨i + 1, by omega, by go_num⟩
            case measure => simp [intOf]; omega
        · have hda : decide ((i : Int) < b) = false := by simp; omega
          go_wp2_with fail
          go_ret
          exact someB_mk _ _
  · have d1 : decide (a < 0) = false := by simp; omega
    by_cases h2 : (d : Int) < b
    · have d2 : decide ((d : Int) < b) = true := by simp; omega
      go_enter Tryz.func196, Tryz.ntmps196
      go_wp2_with fail
      go_loop [7] (fun t => ∃ i : Nat, i ≤ 400 ∧ t = .int .i64 i) (fun t => ((d : Int) - intOf t).toNat)
      case atStart => exact ⟨a.toNat, by omega, congrArg (Value.int .i64) (by omega)⟩
      case round =>
        obtain ⟨i, hi, rfl⟩ := hrel
        by_cases hlt : (i : Int) < (d : Int)
        · have hda : decide ((i : Int) < (d : Int)) = true := by simp; omega
          have hid : i < d := by omega
          have c0 := hB.cell i
          rw [i8s_get hid] at c0
          obtain ⟨z, hz⟩ : ∃ z, z = r0 i := ⟨_, rfl⟩
          rw [← hz] at c0
          clear hz
          cases t1 : (z == 1) with
          | true =>
            go_wp2_with fail
            go_ret
            exact someB_mk _ _
          | false =>
            go_wp2_with fail
            go_round
            case rel => exact ⟨i + 1, by omega, by go_num⟩
            case measure => simp [intOf]; omega
        · have hda : decide ((i : Int) < (d : Int)) = false := by simp; omega
          go_wp2_with fail
          go_ret
          exact someB_mk _ _
    · have d2 : decide ((d : Int) < b) = false := by simp; omega
      go_enter Tryz.func196, Tryz.ntmps196
      go_wp2_with fail
      go_loop [7] (fun t => ∃ i : Nat, i ≤ 400 ∧ t = .int .i64 i) (fun t => (b - intOf t).toNat)
      case atStart => exact ⟨a.toNat, by omega, congrArg (Value.int .i64) (by omega)⟩
      case round =>
        obtain ⟨i, hi, rfl⟩ := hrel
        by_cases hlt : (i : Int) < b
        · have hda : decide ((i : Int) < b) = true := by simp; omega
          have hid : i < d := by omega
          have c0 := hB.cell i
          rw [i8s_get hid] at c0
          obtain ⟨z, hz⟩ : ∃ z, z = r0 i := ⟨_, rfl⟩
          rw [← hz] at c0
          clear hz
          cases t1 : (z == 1) with
          | true =>
            go_wp2_with fail
            go_ret
            exact someB_mk _ _
          | false =>
            go_wp2_with fail
            go_round
            case rel => exact ⟨i + 1, by omega, by go_num⟩
            case measure => simp [intOf]; omega
        · have hda : decide ((i : Int) < b) = false := by simp; omega
          go_wp2_with fail
          go_ret
          exact someB_mk _ _
set_option maxHeartbeats 8000000 in
set_option maxRecDepth 100000 in
theorem whiteV_any {j : Nat} (h : Mat w A R d f) (hj : j < d) (a b : Int) (ha : -10 ≤ a) (ha2 : a ≤ 300) (hb : -10 ≤ b) (hb2 : b ≤ 300) (hd : d ≤ 200) :
    Calls Tryz.prog 197 #[.slice (some ⟨R, 0, none⟩) d d, .int .i64 j, .int .i64 a, .int .i64 b] w (SomeB w) := by
  by_cases h1 : a < 0
  · have d1 : decide (a < 0) = true := by simp; omega
    by_cases h2 : (d : Int) < b
    · have d2 : decide ((d : Int) < b) = true := by simp; omega
      go_enter Tryz.func197, Tryz.ntmps197
      go_wp2_with fail
      go_loop [9] (fun t => ∃ i : Nat, i ≤ 400 ∧ t = .int .i64 i) (fun t => ((d : Int) - intOf t).toNat)
      case atStart => exact ⟨0, by omega, rfl⟩
      case round =>
        obtain ⟨i, hi, rfl⟩ := hrel
        by_cases hlt : (i : Int) < (d : Int)
        · have hda : decide ((i : Int) < (d : Int)) = true := by simp; omega
          have hid : i < d := by omega
          have r0 := h.hR.cell i
          rw [rowPtrs_get hid] at r0
          have c0 := (h.rows i hid).cell j
          rw [i8s_get hj] at c0
          obtain ⟨z, hz⟩ : ∃ z, z = f i j := ⟨_, rfl⟩
          rw [← hz] at c0
          clear hz
          cases t1 : (z == 1) with
          | true =>
            go_wp2_with fail
            go_ret
            exact someB_mk _ _
          | false =>
            go_wp2_with fail
            go_round
            case rel => exact ⟨i + 1, by omega, by go_num⟩
            case measure => simp [intOf]; omega
        · have hda : decide ((i : Int) < (d : Int)) = false := by simp; omega
          go_wp2_with fail
          go_ret
          exact someB_mk _ _
    · have d2 : decide ((d : Int) < b) = false := by simp; omega
      go_enter Tryz.func197, Tryz.ntmps197
      go_wp2_with fail
      go_loop [9] (fun t => ∃ i : Nat, i ≤ 400 ∧ t = .int .i64 i) (fun t => (b - intOf t).toNat)
      case atStart => exact ⟨0, by omega, rfl⟩
      case round =>
        obtain ⟨i, hi, rfl⟩ := hrel
        by_cases hlt : (i : Int) < b
        · have hda : decide ((i : Int) < b) = true := by simp; omega
          have hid : i < d := by omega
          have r0 := h.hR.cell i
          rw [rowPtrs_get hid] at r0
          have c0 := (h.rows i hid).cell j
          rw [i8s_get hj] at c0
          obtain ⟨z, hz⟩ : ∃ z, z = f i j := ⟨_, rfl⟩
          rw [← hz] at c0
          clear hz
          cases t1 : (z == 1) with
          | true =>
            go_wp2_with fail
            go_ret
            exact someB_mk _ _
          | false =>
            go_wp2_with fail
            go_round
            case rel => exact ⟨i + 1, by omega, by go_num⟩
            case measure => simp [intOf]; omega
        · have hda : decide ((i : Int) < b) = false := by simp; omega
          go_wp2_with fail
          go_ret
          exact someB_mk _ _
  · have d1 : decide (a < 0) = false := by simp; omega
    by_cases h2 : (d : Int) < b
    · have d2 : decide ((d : Int) < b) = true := by simp; omega
      go_enter Tryz.func197, Tryz.ntmps197
      go_wp2_with fail
      go_loop [9] (fun t => ∃ i : Nat, i ≤ 400 ∧ t = .int .i64 i) (fun t => ((d : Int) - intOf t).toNat)
      case atStart => exact ⟨a.toNat, by omega, congrArg (Value.int .i64) (by omega)⟩
      case round =>
        obtain ⟨i, hi, rfl⟩ := hrel
        by_cases hlt : (i : Int) < (d : Int)
        · have hda : decide ((i : Int) < (d : Int)) = true := by simp; omega
          have hid : i < d := by omega
          have r0 := h.hR.cell i
          rw [rowPtrs_get hid] at r0
          have c0 := (h.rows i hid).cell j
          rw [i8s_get hj] at c0
          obtain ⟨z, hz⟩ : ∃ z, z = f i j := ⟨_, rfl⟩
          rw [← hz] at c0
          clear hz
          cases t1 : (z == 1) with
          | true =>
            go_wp2_with fail
            go_ret
            exact someB_mk _ _
          | false =>
            go_wp2_with fail
            go_round
            case rel => exact ⟨i + 1, by omega, by go_num⟩
            case measure => simp [intOf]; omega
        · have hda : decide ((i : Int) < (d : Int)) = false := by simp; omega
          go_wp2_with fail
          go_ret
          exact someB_mk _ _
    · have d2 : decide ((d : Int) < b) = false := by simp; omega
      go_enter Tryz.func197, Tryz.ntmps197
      go_wp2_with fail
      go_loop [9] (fun t => ∃ i : Nat, i ≤ 400 ∧ t = .int .i64 i) (fun t => (b - intOf t).toNat)
      case atStart => exact ⟨a.toNat, by omega, congrArg (Value.int .i64) (by omega)⟩
      case round =>
        obtain ⟨i, hi, rfl⟩ := hrel
        by_cases hlt : (i : Int) < b
        · have hda : decide ((i : Int) < b) = true := by simp; omega
          have hid : i < d := by omega
          have r0 := h.hR.cell i
          rw [rowPtrs_get hid] at r0
          have c0 := (h.rows i hid).cell j
          rw [i8s_get hj] at c0
          obtain ⟨z, hz⟩ : ∃ z, z = f i j := ⟨_, rfl⟩
          rw [← hz] at c0
          clear hz
          cases t1 : (z == 1) with
          | true =>
            go_wp2_with fail
            go_ret
            exact someB_mk _ _
          | false =>
            go_wp2_with fail
            go_round
            case rel => exact ⟨i + 1, by omega, by go_num⟩
            case measure => simp [intOf]; omega
        · have hda : decide ((i : Int) < b) = false := by simp; omega
          go_wp2_with fail
          go_ret
          exact someB_mk _ _
def findReg (n : Nat) : Code → Option Code
  | .region k o x => if k == n then some (.region k o x) else none
  | .loop c => findReg n c
  | .seq a b => match findReg n a with
    | some c => some c
    | none => findReg n b
  | .block _ c => findReg n c
  | .scope c => findReg n c
  | .cond _ a b => match findReg n a with
    | some c => some c
    | none => findReg n b
  | _ => none
end
end Go.Proofs.YtcekbhhpcmhicaaGreatDoor
