/- Floats that are small whole numbers: quotients, products, halves; by the kernel. -/
import Derived.Laws.FloatArith
namespace Go.QF
open Go
/-- the bits of a whole number -/
def fl (n : Nat) : Nat := floatOfInt .f64 (n : Int)
theorem fl_eq (n : Nat) : floatOfInt .f64 (n : Int) = fl n := rfl
theorem div7_all : ∀ s : Fin 7, floatBits .quo .f64 (floatOfInt .f64 ((7 * s.val : Nat) : Int)) (floatOfInt .f64 7) = some (floatOfInt .f64 (s.val : Int)) := by decide +kernel
theorem divn_all : ∀ s : Fin 7, 1 ≤ s.val → ∀ n : Fin 130, floatBits .quo .f64 (floatOfInt .f64 ((s.val * n.val : Nat) : Int)) (floatOfInt .f64 (s.val : Int)) = some (floatOfInt .f64 (n.val : Int)) := by decide +kernel
theorem half_all : ∀ s : Fin 7, ((floatBits .quo .f64 (floatOfInt .f64 (s.val : Int)) (floatOfInt .f64 2)).bind fun r => floatToIntVal .f64 r .i64) = some ((s.val / 2 : Nat) : Int) := by decide +kernel
theorem round_all : ∀ n : Fin 130, ((floatBits .add .f64 (floatOfInt .f64 (n.val : Int)) 4602678819172646912).bind fun r => floatToIntVal .f64 r .i64) = some ((n.val : Nat) : Int) := by decide +kernel
theorem neg_all : ∀ n : Fin 130, (FloatKind.f64.format.order (floatOfInt .f64 (n.val : Int)) 0 == some .lt) = false := by decide +kernel
theorem mul_all : ∀ s : Fin 7, ∀ n : Fin 130, ((floatBits .mul .f64 (floatOfInt .f64 (n.val : Int)) (floatOfInt .f64 (s.val : Int))).bind fun r => floatToIntVal .f64 r .i64) = some ((n.val * s.val : Nat) : Int) := by decide +kernel
theorem of_bind {o : Option Nat} {n : Int} (h : (o.bind fun r => floatToIntVal .f64 r .i64) = some n) : ∃ r, o = some r ∧ floatToIntVal .f64 r .i64 = some n := by
  cases o with
  | none => cases h
  | some r => exact ⟨r, rfl, h⟩
theorem div7 {s : Nat} (h : s ≤ 6) : floatBits .quo .f64 (fl (7 * s)) (fl 7) = some (fl s) := div7_all ⟨s, by omega⟩
theorem divn {s n : Nat} (h1 : 1 ≤ s) (h : s ≤ 6) (hn : n < 130) : floatBits .quo .f64 (fl (s * n)) (fl s) = some (fl n) := divn_all ⟨s, by omega⟩ h1 ⟨n, hn⟩
theorem half {s : Nat} (h : s ≤ 6) : ∃ r, floatBits .quo .f64 (fl s) (fl 2) = some r ∧ floatToIntVal .f64 r .i64 = some ((s / 2 : Nat) : Int) := of_bind (half_all ⟨s, by omega⟩)
theorem round {n : Nat} (hn : n < 130) : ∃ r, floatBits .add .f64 (fl n) 4602678819172646912 = some r ∧ floatToIntVal .f64 r .i64 = some ((n : Nat) : Int) := of_bind (round_all ⟨n, hn⟩)
theorem neg {n : Nat} (hn : n < 130) : (FloatKind.f64.format.order (fl n) 0 == some .lt) = false := neg_all ⟨n, hn⟩
theorem mul {s n : Nat} (h : s ≤ 6) (hn : n < 130) : ∃ r, floatBits .mul .f64 (fl n) (fl s) = some r ∧ floatToIntVal .f64 r .i64 = some ((n * s : Nat) : Int) := of_bind (mul_all ⟨s, by omega⟩ ⟨n, hn⟩)
theorem fl7 : fl 7 = 4619567317775286272 := by decide +kernel
theorem fl2 : fl 2 = 4611686018427387904 := by decide +kernel
end Go.QF
