/- Alignment patterns: where they stand; The cells that are not data: as the encoder leaves them, as the decoder says them; where format and version stand; The data cells: masked bits in the order of the visit; ByteMatrix: a square of cells; NewByteMatrix, Get, Set, SetBool, Clear; What is painted in the corners: tables of patterns, squares, separators. -/
import Derived.Test.YtcekbhhpcmhicaaGreatDoorM02
import Derived.Test.YtcekbhhpcmhicaaGreatDoorM08
import Derived.Test.YtcekbhhpcmhicaaGreatDoorM12
import Derived.KernelRfl
namespace Go.QM
open Go.QV Go.QZ Go.QW
def C8B (d y x : Nat) : Bool := (Nat.blt y 8 && Nat.blt x 8) || (Nat.blt y 8 && Nat.ble (d - 8) x && Nat.blt x d) || (Nat.ble (d - 8) y && Nat.blt y d && Nat.blt x 8)
theorem C8B_iff (d y x : Nat) : C8B d y x = true ↔ C8 d y x := by
  unfold C8B C8
  simp only [Bool.or_eq_true, Bool.and_eq_true, Nat.blt_eq, Nat.ble_eq, or_assoc, and_assoc]
def alOkP (d : Nat) (l : List Nat) (i j : Nat) : Bool :=
  Nat.ble 2 (l.getD i 0) && Nat.blt (l.getD i 0 + 2) d && Nat.ble 2 (l.getD j 0) && Nat.blt (l.getD j 0 + 2) d &&
  (bif corner d (l.getD i 0) (l.getD j 0) then C8B d (l.getD i 0) (l.getD j 0) else
    (!(Nat.blt (l.getD i 0) 10 && (Nat.blt (l.getD j 0) 10 || Nat.ble (d - 8) (l.getD j 0 + 2))) && !(Nat.ble (d - 8) (l.getD i 0 + 2) && Nat.blt (l.getD j 0) 10))) &&
  (List.range l.length).all fun i' => (List.range l.length).all fun j' => (i' == i && j' == j) || !(near (l.getD i' 0) (l.getD i 0) && near (l.getD j' 0) (l.getD j 0))
def alOkB (d : Nat) (l : List Nat) : Bool := Nat.ble l.length 7 && (List.range l.length).all fun i => (List.range l.length).all fun j => alOkP d l i j
def alAll : Nat → Bool
  | 0 => true
  | v + 1 => alOkB (17 + 4 * (v + 1)) (aligns (v + 1)) && alAll v
set_option maxRecDepth 100000 in
theorem al_all : alAll 27 = true := by kernel_rfl
theorem alOk_of : ∀ n v, alAll n = true → 1 ≤ v → v ≤ n → alOkB (17 + 4 * v) (aligns v) = true
  | 0, v, _, h1, h2 => absurd h2 (by omega)
  | n + 1, v, h, h1, h2 => by
    rw [alAll, Bool.and_eq_true] at h
    by_cases e : v = n + 1
    · rw [e]; exact h.1
    · exact alOk_of n v h.2 h1 (by omega)
theorem near_iff (c x : Nat) : near c x = true ↔ c ≤ x + 2 ∧ x ≤ c + 2 := by
  unfold near; rw [Bool.and_eq_true, Nat.ble_eq, Nat.ble_eq]
structure AlOk (v i j : Nat) : Prop where
  lo1 : 2 ≤ nth (aligns v) i
  hi1 : nth (aligns v) i + 2 < 17 + 4 * v
  lo2 : 2 ≤ nth (aligns v) j
  hi2 : nth (aligns v) j + 2 < 17 + 4 * v
  cor : corner (17 + 4 * v) (nth (aligns v) i) (nth (aligns v) j) = true → C8 (17 + 4 * v) (nth (aligns v) i) (nth (aligns v) j)
  far : corner (17 + 4 * v) (nth (aligns v) i) (nth (aligns v) j) = false → ¬ (nth (aligns v) i < 10 ∧ (nth (aligns v) j < 10 ∨ 9 + 4 * v ≤ nth (aligns v) j + 2)) ∧ ¬ (9 + 4 * v ≤ nth (aligns v) i + 2 ∧ nth (aligns v) j < 10)
  one : ∀ i' j', i' < (aligns v).length → j' < (aligns v).length → near (nth (aligns v) i') (nth (aligns v) i) = true → near (nth (aligns v) j') (nth (aligns v) j) = true → i' = i ∧ j' = j
theorem al_len (v : Nat) (h1 : 1 ≤ v) (h2 : v ≤ 27) : (aligns v).length ≤ 7 := by
  have h := alOk_of 27 v al_all h1 h2
  simp only [alOkB, Bool.and_eq_true, Nat.ble_eq] at h
  exact h.1
theorem al_ok (v i j : Nat) (h1 : 1 ≤ v) (h2 : v ≤ 27) (hi : i < (aligns v).length) (hj : j < (aligns v).length) : AlOk v i j := by
  have h := alOk_of 27 v al_all h1 h2
  simp only [alOkB, Bool.and_eq_true] at h
  have h := List.all_eq_true.1 (List.all_eq_true.1 h.2 i (List.mem_range.2 hi)) j (List.mem_range.2 hj)
  simp only [alOkP, Bool.and_eq_true, ← nth_eq, Nat.ble_eq, Nat.blt_eq] at h
  obtain ⟨⟨⟨⟨⟨a1, a2⟩, a3⟩, a4⟩, a5⟩, a6⟩ := h
  refine ⟨a1, a2, a3, a4, ?_, ?_, ?_⟩
  · intro hc
    rw [hc, cond_true] at a5
    exact (C8B_iff _ _ _).1 a5
  · intro hc
    rw [hc, cond_false] at a5
    have e : 17 + 4 * v - 8 = 9 + 4 * v := by omega
    rw [e] at a5
    rw [Bool.and_eq_true, Bool.not_eq_true', Bool.not_eq_true'] at a5
    obtain ⟨b1, b2⟩ := a5
    refine ⟨fun h => ?_, fun h => ?_⟩
    · have e : (Nat.blt (nth (aligns v) i) 10 && (Nat.blt (nth (aligns v) j) 10 || Nat.ble (9 + 4 * v) (nth (aligns v) j + 2))) = true := by
        rw [Bool.and_eq_true, Bool.or_eq_true, Nat.blt_eq, Nat.blt_eq, Nat.ble_eq]; exact h
      rw [e] at b1; cases b1
    · have e : (Nat.ble (9 + 4 * v) (nth (aligns v) i + 2) && Nat.blt (nth (aligns v) j) 10) = true := by
        rw [Bool.and_eq_true, Nat.blt_eq, Nat.ble_eq]; exact h
      rw [e] at b2; cases b2
  · intro i' j' hi' hj' n1 n2
    have := List.all_eq_true.1 (List.all_eq_true.1 a6 i' (List.mem_range.2 hi')) j' (List.mem_range.2 hj')
    rw [n1, n2] at this
    simpa using this
/-- a cell of the alignment patterns of the first a rows and b columns of centres -/
def alK (v a b y x : Nat) : Prop := ∃ i j, i < (aligns v).length ∧ j < (aligns v).length ∧ (i < a ∨ (i = a ∧ j < b)) ∧ corner (17 + 4 * v) (nth (aligns v) i) (nth (aligns v) j) = false ∧ near (nth (aligns v) i) y = true ∧ near (nth (aligns v) j) x = true
theorem alK_zero (v y x : Nat) : ¬ alK v 0 0 y x := by
  rintro ⟨i, j, -, -, h, -⟩; omega
theorem alK_row (v a b y x : Nat) (hb : (aligns v).length ≤ b) : alK v a b y x ↔ alK v (a + 1) 0 y x := by
  constructor
  · rintro ⟨i, j, h1, h2, h3, h4⟩; exact ⟨i, j, h1, h2, by omega, h4⟩
  · rintro ⟨i, j, h1, h2, h3, h4⟩; exact ⟨i, j, h1, h2, by omega, h4⟩
theorem alK_skip (v a b y x : Nat) (h : (aligns v).length ≤ a ∨ (aligns v).length ≤ b ∨ corner (17 + 4 * v) (nth (aligns v) a) (nth (aligns v) b) = true) : alK v a b y x ↔ alK v a (b + 1) y x := by
  constructor
  · rintro ⟨i, j, h1, h2, h3, h4⟩; exact ⟨i, j, h1, h2, by omega, h4⟩
  · rintro ⟨i, j, h1, h2, h3, h4, h5⟩
    refine ⟨i, j, h1, h2, ?_, h4, h5⟩
    rcases h3 with h3 | ⟨rfl, h3⟩
    · exact .inl h3
    · by_cases e : j = b
      · subst e
        rcases h with h | h | h
        · omega
        · omega
        · rw [h] at h4; cases h4
      · exact .inr ⟨rfl, by omega⟩
theorem alK_step (v a b y x : Nat) (ha : a < (aligns v).length) (hb : b < (aligns v).length) (hc : corner (17 + 4 * v) (nth (aligns v) a) (nth (aligns v) b) = false) :
    alK v a (b + 1) y x ↔ alK v a b y x ∨ (near (nth (aligns v) a) y = true ∧ near (nth (aligns v) b) x = true) := by
  constructor
  · rintro ⟨i, j, h1, h2, h3, h4, h5⟩
    by_cases e : i = a ∧ j = b
    · obtain ⟨rfl, rfl⟩ := e; exact .inr h5
    · exact .inl ⟨i, j, h1, h2, by omega, h4, h5⟩
  · rintro (⟨i, j, h1, h2, h3, h4⟩ | h)
    · exact ⟨i, j, h1, h2, by omega, h4⟩
    · exact ⟨a, b, ha, hb, by omega, hc, h⟩
/-- all of them -/
theorem alK_all (v y x : Nat) (a : Nat) (ha : (aligns v).length ≤ a) : alK v a 0 y x ↔ alB (17 + 4 * v) (aligns v) y x = true := by
  unfold alB
  rw [List.any_eq_true]
  constructor
  · rintro ⟨i, j, h1, h2, h3, h4, h5, h6⟩
    refine ⟨nth (aligns v) i, by rw [nth_get h1]; exact List.getElem_mem _, ?_⟩
    rw [h5, Bool.true_and, List.any_eq_true]
    exact ⟨nth (aligns v) j, by rw [nth_get h2]; exact List.getElem_mem _, by rw [h6, h4]; rfl⟩
  · rintro ⟨cy, hm, h⟩
    obtain ⟨i, hi, rfl⟩ := List.mem_iff_getElem.1 hm
    rw [Bool.and_eq_true, List.any_eq_true] at h
    obtain ⟨h1, cx, hm2, h2⟩ := h
    obtain ⟨j, hj, rfl⟩ := List.mem_iff_getElem.1 hm2
    rw [Bool.and_eq_true, Bool.not_eq_true'] at h2
    exact ⟨i, j, hi, hj, by omega, by rw [nth_get hi, nth_get hj]; exact h2.2, by rw [nth_get hi]; exact h1, by rw [nth_get hj]; exact h2.1⟩
end Go.QM
namespace Go.QM
open Go.QV Go.QZ Go.QW
def tim (d y x : Nat) : Prop := (y = 6 ∧ 8 ≤ x ∧ x < d - 8) ∨ (x = 6 ∧ 8 ≤ y ∧ y < d - 8)
instance (d y x : Nat) : Decidable (tim d y x) := by unfold tim; infer_instance
/-- which bit of the format stands in row y, column x (15: none) -/
def tpos (d y x : Nat) : Nat :=
  if x = 8 ∧ y ≤ 5 then y else if x = 8 ∧ y = 7 then 6 else if x = 8 ∧ y = 8 then 7 else if y = 8 ∧ x = 7 then 8 else if y = 8 ∧ x ≤ 5 then 14 - x
  else if y = 8 ∧ d - 8 ≤ x ∧ x < d then d - 1 - x else if x = 8 ∧ d - 7 ≤ y ∧ y < d then y + 15 - d else 15
def tx (i : Nat) : Nat := if i ≤ 7 then 8 else if i = 8 then 7 else 14 - i
def ty (i : Nat) : Nat := if i ≤ 5 then i else if i = 6 then 7 else 8
theorem tpos_le {d : Nat} (hd : 21 ≤ d) (y x : Nat) : tpos d y x ≤ 15 := by unfold tpos; repeat' split
                                                                            all_goals omega
theorem tpos_one {d i : Nat} (_hd : 21 ≤ d) (hi : i < 15) : tpos d (ty i) (tx i) = i := by
  unfold tpos tx ty
  by_cases h1 : i ≤ 5
  · rw [if_pos h1, if_pos (show i ≤ 7 by omega), if_pos (by omega)]
  · rw [if_neg h1]
    by_cases h2 : i = 6
    · subst h2; simp
    · rw [if_neg h2]
      by_cases h3 : i ≤ 7
      · rw [if_pos h3, if_neg (by omega), if_neg (by omega), if_pos (by omega)]; omega
      · rw [if_neg h3]
        by_cases h4 : i = 8
        · subst h4; simp
        · rw [if_neg h4, if_neg (by omega), if_neg (by omega), if_neg (by omega), if_neg (by omega), if_pos (by omega)]; omega
theorem tpos_two1 {d i : Nat} (hd : 21 ≤ d) (hi : i < 8) : tpos d 8 (d - i - 1) = i := by
  unfold tpos
  rw [if_neg (by omega), if_neg (by omega), if_neg (by omega), if_neg (by omega), if_neg (by omega), if_pos (by omega)]; omega
theorem tpos_two2 {d i : Nat} (hd : 21 ≤ d) (h8 : 8 ≤ i) (hi : i < 15) : tpos d (d - 7 + (i - 8)) 8 = i := by
  unfold tpos
  rw [if_neg (by omega), if_neg (by omega), if_neg (by omega), if_neg (by omega), if_neg (by omega), if_neg (by omega), if_pos (by omega)]; omega
theorem tpos_only {d i y x : Nat} (hd : 21 ≤ d) (hi : i < 15) (h : tpos d y x = i) : (y = ty i ∧ x = tx i) ∨ (i < 8 ∧ y = 8 ∧ x = d - i - 1) ∨ (8 ≤ i ∧ y = d - 7 + (i - 8) ∧ x = 8) := by
  subst h
  unfold tpos tx ty at *
  repeat' split at hi
  all_goals first | (exfalso; omega) | skip
  · rename_i h1
    rw [if_pos h1, if_pos h1.2, if_pos (by omega)]; omega
  · rename_i h1 h2
    simp [h2]
  · rename_i h1 h2 h3
    simp [h3]
  · rename_i h1 h2 h3 h4
    simp [h4]
  · rename_i h1 h2 h3 h4 h5
    rw [if_neg h1, if_neg h2, if_neg h3, if_neg h4, if_pos h5]
    left
    rw [if_neg (by omega), if_neg (by omega), if_neg (by omega), if_neg (by omega)]
    omega
  · rename_i h1 h2 h3 h4 h5 h6
    rw [if_neg h1, if_neg h2, if_neg h3, if_neg h4, if_neg h5, if_pos h6]
    right; left; omega
  · rename_i h1 h2 h3 h4 h5 h6 h7
    rw [if_neg h1, if_neg h2, if_neg h3, if_neg h4, if_neg h5, if_neg h6, if_pos h7]
    right; right; omega
/-- the format's cells hold the bits of T below i -/
def tinfo (d T i : Nat) (f : Cells) : Cells := fun y x => if tpos d y x < i then (if T.testBit (tpos d y x) then 1 else 0) else f y x
/-- which bit of the version stands in row y, column x (18: none) -/
def vpos (d y x : Nat) : Nat :=
  if x < 6 ∧ d - 11 ≤ y ∧ y < d - 8 then 3 * x + (y - (d - 11)) else if y < 6 ∧ d - 11 ≤ x ∧ x < d - 8 then 3 * y + (x - (d - 11)) else 18
theorem vpos_one {d i j : Nat} (hd : 21 ≤ d) (hi : i < 6) (hj : j < 3) : vpos d (d - 11 + j) i = 3 * i + j := by
  unfold vpos; rw [if_pos (by omega)]; omega
theorem vpos_two {d i j : Nat} (hd : 21 ≤ d) (hi : i < 6) (hj : j < 3) : vpos d i (d - 11 + j) = 3 * i + j := by
  unfold vpos
  rw [if_neg (by omega), if_pos (by omega)]; omega
theorem vpos_only {d i j y x : Nat} (hd : 21 ≤ d) (hi : i < 6) (hj : j < 3) (h : vpos d y x = 3 * i + j) : (y = d - 11 + j ∧ x = i) ∨ (y = i ∧ x = d - 11 + j) := by
  unfold vpos at h
  split at h
  · left; omega
  · split at h
    · right; omega
    · omega
def vinfo (d T i : Nat) (f : Cells) : Cells := fun y x => if vpos d y x < i then (if T.testBit (vpos d y x) then 1 else 0) else f y x
theorem fp_iff (v y x : Nat) (h1 : 1 ≤ v) (hy : y < 17 + 4 * v) (hx : x < 17 + 4 * v) :
    fp v y x = true ↔ C8 (17 + 4 * v) y x ∨ (y = 9 + 4 * v ∧ x = 8) ∨ alB (17 + 4 * v) (aligns v) y x = true ∨ tim (17 + 4 * v) y x ∨ tpos (17 + 4 * v) y x < 15 ∨ (7 ≤ v ∧ vpos (17 + 4 * v) y x < 18) := by
  have ht : tpos (17 + 4 * v) y x < 15 ↔ (x = 8 ∧ (y ≤ 5 ∨ y = 7 ∨ y = 8)) ∨ (y = 8 ∧ (x = 7 ∨ x ≤ 5)) ∨ (y = 8 ∧ 9 + 4 * v ≤ x) ∨ (x = 8 ∧ 10 + 4 * v ≤ y) := by
    unfold tpos
    repeat' split
    all_goals omega
  have hv : vpos (17 + 4 * v) y x < 18 ↔ (x < 6 ∧ 6 + 4 * v ≤ y ∧ y < 9 + 4 * v) ∨ (y < 6 ∧ 6 + 4 * v ≤ x ∧ x < 9 + 4 * v) := by
    unfold vpos
    repeat' split
    all_goals omega
  rw [ht, hv]
  unfold fp fpB C8 tim
  simp only [Bool.or_eq_true, Bool.and_eq_true, Nat.blt_eq, Nat.ble_eq, Nat.beq_eq]
  generalize alB (17 + 4 * v) (aligns v) y x = q
  constructor
  · rintro ((((((h | h) | h) | h) | h) | h) | h)
    · rcases (show (y < 8 ∧ x < 8) ∨ (y = 8 ∧ x ≠ 6) ∨ (x = 8 ∧ y ≠ 6) ∨ (y = 8 ∧ x = 6) ∨ (x = 8 ∧ y = 6) by omega) with e | e | e | e | e
      · exact .inl (.inl e)
      · exact .inr (.inr (.inr (.inr (.inl (by omega)))))
      · exact .inr (.inr (.inr (.inr (.inl (by omega)))))
      · exact .inr (.inr (.inr (.inl (.inr (by omega)))))
      · exact .inr (.inr (.inr (.inl (.inl (by omega)))))
    · by_cases e : y < 8
      · exact .inl (.inr (.inl (by omega)))
      · exact .inr (.inr (.inr (.inr (.inl (by omega)))))
    · by_cases e : x < 8
      · exact .inl (.inr (.inr (by omega)))
      · by_cases e2 : y = 9 + 4 * v
        · exact .inr (.inl (by omega))
        · exact .inr (.inr (.inr (.inr (.inl (by omega)))))
    · rcases (show y < 8 ∨ 9 + 4 * v ≤ y ∨ (8 ≤ y ∧ y < 9 + 4 * v) by omega) with e | e | e
      · exact .inl (.inl (by omega))
      · exact .inl (.inr (.inr (by omega)))
      · exact .inr (.inr (.inr (.inl (.inr (by omega)))))
    · rcases (show x < 8 ∨ 9 + 4 * v ≤ x ∨ (8 ≤ x ∧ x < 9 + 4 * v) by omega) with e | e | e
      · exact .inl (.inl (by omega))
      · exact .inl (.inr (.inl (by omega)))
      · exact .inr (.inr (.inr (.inl (.inl (by omega)))))
    · exact .inr (.inr (.inl h))
    · exact .inr (.inr (.inr (.inr (.inr ⟨by omega, by omega⟩))))
  · rintro (h | h | h | h | h | ⟨h0, h⟩)
    · rcases h with h | h | h
      · exact .inl (.inl (.inl (.inl (.inl (.inl (by omega))))))
      · exact .inl (.inl (.inl (.inl (.inl (.inr (by omega))))))
      · exact .inl (.inl (.inl (.inl (.inr (by omega)))))
    · exact .inl (.inl (.inl (.inl (.inr (by omega)))))
    · exact .inl (.inr h)
    · rcases h with h | h
      · exact .inl (.inl (.inr (by omega)))
      · exact .inl (.inl (.inl (.inr (by omega))))
    · rcases h with h | h | h | h
      · exact .inl (.inl (.inl (.inl (.inl (.inl (by omega))))))
      · exact .inl (.inl (.inl (.inl (.inl (.inl (by omega))))))
      · exact .inl (.inl (.inl (.inl (.inl (.inr (by omega))))))
      · exact .inl (.inl (.inl (.inl (.inr (by omega)))))
    · refine .inr ⟨by omega, ?_⟩
      rcases h with h | h
      · exact .inr (by omega)
      · exact .inl (by omega)
end Go.QM
namespace Go.QM
open Go.QV Go.QZ Go.QW
/-- is the cell turned by mask k -/
def mbit (k y x : Nat) : Bool :=
  if k = 0 then (y + x) % 2 == 0 else if k = 1 then y % 2 == 0 else if k = 2 then x % 3 == 0 else if k = 3 then (y + x) % 3 == 0 else if k = 4 then (y / 2 + x / 3) % 2 == 0
  else if k = 5 then (y * x) % 2 + (y * x) % 3 == 0 else if k = 6 then ((y * x) % 2 + (y * x) % 3) % 2 == 0 else ((y * x) % 3 + (y + x) % 2) % 2 == 0
def b01 (b : Bool) : Int := if b then 1 else 0
theorem b01_bd (b : Bool) : 0 ≤ b01 b ∧ b01 b ≤ 1 := by cases b <;> simp [b01]
/-- the first n cells visited hold the bits S, masked -/
def datC (v k : Nat) (S : List Bool) (n : Nat) (f : Cells) : Cells := fun y x =>
  if fp v y x = true then f y x else if idx (17 + 4 * v) y x < n then b01 ((S.getD (cnt v (idx (17 + 4 * v) y x)) false) ^^ mbit k y x) else -1
theorem fp_six (v y : Nat) : fp v y 6 = true := by
  unfold fp fpB
  simp
theorem datC_zero (v k : Nat) (S : List Bool) (f : Cells) (y x : Nat) (h : fp v y x = false → f y x = -1) : f y x = datC v k S 0 f y x := by
  unfold datC
  by_cases hf : fp v y x = true
  · rw [if_pos hf]
  · rw [if_neg hf, if_neg (by omega)]
    exact h (by simpa using hf)
section
variable {v k c t i : Nat} {S : List Bool} {f : Cells}
theorem only_at (h1 : 1 ≤ v) (hc : c < 8 + 2 * v) (ht : t < 17 + 4 * v) (hi : i < 2) {Y X : Nat} (hY : Y < 17 + 4 * v) (hX : X < 17 + 4 * v) (hf : ¬ fp v Y X = true) (h : idx (17 + 4 * v) Y X = 2 * (c * (17 + 4 * v) + t) + i) :
    Y = rowY (17 + 4 * v) c t ∧ X = colX (17 + 4 * v) c - i := by
  obtain ⟨a1, a2, a3, -, -⟩ := col_facts (d := 17 + 4 * v) (c := c) (i := i) (by omega) (by omega) (by omega) hi
  have h6 : X ≠ 6 := by rintro rfl; exact hf (fp_six v Y)
  exact idx_inj (by omega) (by omega) hY hX h6 (row_facts ht) (by omega) a3 (by rw [h, idx_at (by omega) (by omega) (by omega) ht hi])
theorem datC_skip (h1 : 1 ≤ v) (hc : c < 8 + 2 * v) (ht : t < 17 + 4 * v) (hi : i < 2) (hf : fp v (rowY (17 + 4 * v) c t) (colX (17 + 4 * v) c - i) = true) {Y X : Nat} (hY : Y < 17 + 4 * v) (hX : X < 17 + 4 * v) :
    datC v k S (2 * (c * (17 + 4 * v) + t) + i) f Y X = datC v k S (2 * (c * (17 + 4 * v) + t) + i + 1) f Y X := by
  unfold datC
  by_cases g : fp v Y X = true
  · rw [if_pos g, if_pos g]
  · rw [if_neg g, if_neg g]
    have hne : idx (17 + 4 * v) Y X ≠ 2 * (c * (17 + 4 * v) + t) + i := by
      intro e
      obtain ⟨rfl, rfl⟩ := only_at h1 hc ht hi hY hX g e
      exact g hf
    by_cases l : idx (17 + 4 * v) Y X < 2 * (c * (17 + 4 * v) + t) + i
    · rw [if_pos l, if_pos (by omega)]
    · rw [if_neg l, if_neg (by omega)]
theorem datC_put (h1 : 1 ≤ v) (hc : c < 8 + 2 * v) (ht : t < 17 + 4 * v) (hi : i < 2) (hf : ¬ fp v (rowY (17 + 4 * v) c t) (colX (17 + 4 * v) c - i) = true) {Y X : Nat} (hY : Y < 17 + 4 * v) (hX : X < 17 + 4 * v) :
    upd (datC v k S (2 * (c * (17 + 4 * v) + t) + i) f) (rowY (17 + 4 * v) c t) (colX (17 + 4 * v) c - i) (b01 ((S.getD (cnt v (2 * (c * (17 + 4 * v) + t) + i)) false) ^^ mbit k (rowY (17 + 4 * v) c t) (colX (17 + 4 * v) c - i))) Y X
      = datC v k S (2 * (c * (17 + 4 * v) + t) + i + 1) f Y X := by
  have hid := idx_at (d := 17 + 4 * v) (c := c) (t := t) (i := i) (by omega) (by omega) (by omega) ht hi
  unfold upd
  by_cases e : Y = rowY (17 + 4 * v) c t ∧ X = colX (17 + 4 * v) c - i
  · obtain ⟨rfl, rfl⟩ := e
    rw [if_pos ⟨rfl, rfl⟩]
    unfold datC
    rw [if_neg hf, hid, if_pos (by omega)]
  · rw [if_neg e]
    unfold datC
    by_cases g : fp v Y X = true
    · rw [if_pos g, if_pos g]
    · rw [if_neg g, if_neg g]
      have hne : idx (17 + 4 * v) Y X ≠ 2 * (c * (17 + 4 * v) + t) + i := fun h => e (only_at h1 hc ht hi hY hX g h)
      by_cases l : idx (17 + 4 * v) Y X < 2 * (c * (17 + 4 * v) + t) + i
      · rw [if_pos l, if_pos (by omega)]
      · rw [if_neg l, if_neg (by omega)]
/-- before its visit a data cell is empty, another one is not -/
theorem datC_empty (h1 : 1 ≤ v) (hc : c < 8 + 2 * v) (ht : t < 17 + 4 * v) (hi : i < 2) (hfull : ∀ y x, fp v y x = true → y < 17 + 4 * v → x < 17 + 4 * v → f y x ≠ -1) :
    (datC v k S (2 * (c * (17 + 4 * v) + t) + i) f (rowY (17 + 4 * v) c t) (colX (17 + 4 * v) c - i) = -1 ↔ ¬ fp v (rowY (17 + 4 * v) c t) (colX (17 + 4 * v) c - i) = true) := by
  have hid := idx_at (d := 17 + 4 * v) (c := c) (t := t) (i := i) (by omega) (by omega) (by omega) ht hi
  obtain ⟨a1, a2, a3, -, -⟩ := col_facts (d := 17 + 4 * v) (c := c) (i := i) (by omega) (by omega) (by omega) hi
  unfold datC
  by_cases g : fp v (rowY (17 + 4 * v) c t) (colX (17 + 4 * v) c - i) = true
  · rw [if_pos g]
    exact ⟨fun h => absurd h (hfull _ _ g (row_facts ht) (by omega)), fun h => absurd g h⟩
  · rw [if_neg g, hid, if_neg (by omega)]
    exact ⟨fun _ => g, fun _ => rfl⟩
theorem cnt_skip (h : fp v (rowY (17 + 4 * v) c t) (colX (17 + 4 * v) c - i) = true) (ht : t < 17 + 4 * v) (hi : i < 2) : cnt v (2 * (c * (17 + 4 * v) + t) + i + 1) = cnt v (2 * (c * (17 + 4 * v) + t) + i) := by
  obtain ⟨e1, e2⟩ := cN_at (d := 17 + 4 * v) (c := c) ht hi
  rw [cnt, e1, e2, if_pos h, Nat.add_zero]
theorem cnt_put (h : ¬ fp v (rowY (17 + 4 * v) c t) (colX (17 + 4 * v) c - i) = true) (ht : t < 17 + 4 * v) (hi : i < 2) : cnt v (2 * (c * (17 + 4 * v) + t) + i + 1) = cnt v (2 * (c * (17 + 4 * v) + t) + i) + 1 := by
  obtain ⟨e1, e2⟩ := cN_at (d := 17 + 4 * v) (c := c) ht hi
  rw [cnt, e1, e2, if_neg h]
end
end Go.QM
namespace Go.Proofs.YtcekbhhpcmhicaaGreatDoor
open Go.RowKit Go.QW Go.QM

def i8s (d : Nat) (f : Nat → Int) : Array Value := ((List.range d).map fun x => Value.int .i8 (f x)).toArray
theorem i8s_get {d x : Nat} {f : Nat → Int} (h : x < d) : (i8s d f)[x]? = some (.int .i8 (f x)) := by
  unfold i8s
  rw [List.getElem?_toArray, List.getElem?_map, List.getElem?_range h]; rfl
theorem i8s_size (d : Nat) (f : Nat → Int) : (i8s d f).size = d := by simp [i8s]
theorem i8s_congr {d : Nat} {f g : Nat → Int} (h : ∀ x, x < d → f x = g x) : i8s d f = i8s d g := by
  unfold i8s
  congr 1
  apply List.map_congr_left
  intro x hx
  rw [h x (List.mem_range.1 hx)]
theorem i8s_set (d : Nat) (f : Nat → Int) (x : Nat) (v : Int) : (i8s d f).setIfInBounds x (.int .i8 v) = i8s d (fun i => if i = x then v else f i) := by
  apply Array.ext
  · simp [i8s]
  · intro i h1 h2
    rw [i8s_size] at h2
    have e2 : (i8s d fun i => if i = x then v else f i)[i]? = some (.int .i8 (if i = x then v else f i)) := i8s_get h2
    have e1 : (i8s d f)[i]? = some (.int .i8 (f i)) := i8s_get h2
    rw [Array.getElem?_eq_getElem (by rw [i8s_size]; exact h2)] at e1 e2
    injection e1 with e1
    injection e2 with e2
    rw [Array.getElem_setIfInBounds (by rw [i8s_size]; exact h2), e2]
    by_cases h : x = i
    · rw [if_pos h, if_pos h.symm]
    · rw [if_neg h, if_neg (fun e => h e.symm), e1]
theorem i8s_zero (d : Nat) : madeCells (Value.int .i8 0).cells d = i8s d (fun _ => 0) := by
  unfold madeCells i8s
  apply Array.ext
  · simp
  · intro i h1 h2
    simp [Value.cells, Nat.mod_one]
def rowPtrs (R d : Nat) : Array Value := ((List.range d).map fun y => Value.slice (some ⟨R + 1 + y, 0, none⟩) d d).toArray
theorem rowPtrs_size (R d : Nat) : (rowPtrs R d).size = d := by simp [rowPtrs]
theorem rowPtrs_get {R d y : Nat} (h : y < d) : (rowPtrs R d)[y]? = some (.slice (some ⟨R + 1 + y, 0, none⟩) d d) := by
  unfold rowPtrs
  rw [List.getElem?_toArray, List.getElem?_map, List.getElem?_range h]; rfl
/-- the blocks of the rows -/
def rowsOf (R d : Nat) : List Nat := List.range' (R + 1) d
theorem mem_rowsOf {R d k : Nat} : k ∈ rowsOf R d ↔ R + 1 ≤ k ∧ k < R + 1 + d := by
  unfold rowsOf; rw [List.mem_range'_1]
/-- block A is the square of side d whose cell in row y and column x is f y x; R: the rows' pointers, the rows behind it -/
structure Mat (w : World) (A R d : Nat) (f : Nat → Nat → Int) : Prop where
  hA : Blk w A 144 #[.slice (some ⟨R, 0, none⟩) d d, .int .i64 d, .int .i64 d]
  hR : Blk w R 145 (rowPtrs R d)
  rows : ∀ y, y < d → Blk w (R + 1 + y) 64 (i8s d (f y))
  le : d ≤ 200
  bd : ∀ y x, y < d → x < d → -1 ≤ f y x ∧ f y x ≤ 1
theorem Mat.congr {w : World} {A R d : Nat} {f g : Nat → Nat → Int} (h : Mat w A R d f) (e : ∀ y x, y < d → x < d → f y x = g y x) : Mat w A R d g :=
  ⟨h.hA, h.hR, fun y hy => by rw [← i8s_congr (fun x hx => e y x hy hx)]; exact h.rows y hy, h.le, fun y x hy hx => by rw [← e y x hy hx]; exact h.bd y x hy hx⟩
theorem Mat.offA {w : World} {A R d : Nat} {f : Nat → Nat → Int} (h : Mat w A R d f) : A ∉ rowsOf R d := by
  intro hm
  rw [mem_rowsOf] at hm
  obtain ⟨y, rfl⟩ : ∃ y, A = R + 1 + y := ⟨A - (R + 1), by omega⟩
  exact (h.hA.ne_ (h.rows y (by omega)) (by decide)) rfl
theorem Mat.kp {w w' : World} {S : List Nat} {A R d : Nat} {f : Nat → Nat → Int} (h : Mat w A R d f) (hk : Kp S w w') (h1 : A ∉ S) (h2 : R ∉ S) (h3 : ∀ k, k ∈ S → k < w.heap.size → k ∉ rowsOf R d) : Mat w' A R d f :=
  ⟨h.hA.kp hk h1, h.hR.kp hk h2, fun y hy => (h.rows y hy).kp hk (fun hm => h3 _ hm (h.rows y hy).lt (mem_rowsOf.2 (by omega))), h.le, h.bd⟩
theorem Mat.heap {w w' : World} {A R d : Nat} {f : Nat → Nat → Int} (h : Mat w A R d f) (e : w'.heap = w.heap) : Mat w' A R d f := by
  refine ⟨?_, ?_, ?_, h.le, h.bd⟩
  · have := h.hA; unfold Blk at this ⊢; rw [e]; exact this
  · have := h.hR; unfold Blk at this ⊢; rw [e]; exact this
  · intro y hy; have := h.rows y hy; unfold Blk at this ⊢; rw [e]; exact this
theorem Mat.below {w w' : World} {A R d : Nat} {f : Nat → Nat → Int} (h : Mat w A R d f) (hb : Below w.heap.size w w') : Mat w' A R d f :=
  ⟨h.hA.below hb h.hA.lt, h.hR.below hb h.hR.lt, fun y hy => (h.rows y hy).below hb (h.rows y hy).lt, h.le, h.bd⟩
theorem Mat.put {w : World} {A R d : Nat} {f : Nat → Nat → Int} (h : Mat w A R d f) (x y : Nat) (hy : y < d) (v : Int) (hv : -1 ≤ v ∧ v ≤ 1) : Mat (w.setCell ⟨R + 1 + y, x, none⟩ (.int .i8 v)) A R d (upd f y x v) := by
  have hr := h.rows y hy
  refine ⟨h.hA.far (h.hA.ne_ hr (by decide)) _, h.hR.far (h.hR.ne_ hr (by decide)) _, fun Y hY => ?_, h.le, fun Y X hY hX => by unfold upd; split; exact hv; exact h.bd Y X hY hX⟩
  by_cases e : Y = y
  · subst e
    have := hr.set_ x (.int .i8 v)
    rw [i8s_set] at this
    rw [i8s_congr (g := fun i => if i = x then v else f Y i) (fun i _ => by simp [upd])]
    exact this
  · rw [i8s_congr (g := f Y) (fun i _ => by simp [upd, e])]
    exact (h.rows Y hY).far (by simp only; omega) _

section
variable {w : World} {A R d : Nat} {f : Nat → Nat → Int}
theorem mw_any (h : Mat w A R d f) :
    Calls Tryz.prog 25 #[.pointer (some ⟨A, 0, none⟩)] w fun e w' => e = .returned (.int .i64 (d : Nat)) ∧ w = w' := by
  have a0 := h.hA.cell 1
  simp only [List.getElem?_toArray, List.getElem?_cons_zero, List.getElem?_cons_succ] at a0
  go_enter Tryz.func25, Tryz.ntmps25
  go_wp2
  go_ret
  exact ⟨rfl, rfl⟩
theorem mh_any (h : Mat w A R d f) :
    Calls Tryz.prog 24 #[.pointer (some ⟨A, 0, none⟩)] w fun e w' => e = .returned (.int .i64 (d : Nat)) ∧ w = w' := by
  have a0 := h.hA.cell 2
  simp only [List.getElem?_toArray, List.getElem?_cons_zero, List.getElem?_cons_succ] at a0
  go_enter Tryz.func24, Tryz.ntmps24
  go_wp2
  go_ret
  exact ⟨rfl, rfl⟩
theorem marray_any (h : Mat w A R d f) :
    Calls Tryz.prog 195 #[.pointer (some ⟨A, 0, none⟩)] w fun e w' => e = .returned (.slice (some ⟨R, 0, none⟩) d d) ∧ w = w' := by
  have a0 := h.hA.cell 0
  simp only [List.getElem?_toArray, List.getElem?_cons_zero] at a0
  go_enter Tryz.func195, Tryz.ntmps195
  go_wp2
  go_ret
  exact ⟨rfl, rfl⟩
/-- x and y as the walk spells them; their numbers are xn and yn -/
theorem mget_any (xn yn : Nat) {x y : Int} (h : Mat w A R d f) (hx : x = xn) (hy : y = yn) (hxd : xn < d) (hyd : yn < d) :
    Calls Tryz.prog 26 #[.pointer (some ⟨A, 0, none⟩), .int .i64 x, .int .i64 y] w fun e w' => e = .returned (.int .i8 (f yn xn)) ∧ w = w' := by
  subst hx hy
  have a0 := h.hA.cell 0
  have r0 := h.hR.cell yn
  rw [rowPtrs_get hyd] at r0
  have c0 := (h.rows yn hyd).cell xn
  rw [i8s_get hxd] at c0
  have hd := h.le
  simp only [List.getElem?_toArray, List.getElem?_cons_zero] at a0
  go_enter Tryz.func26, Tryz.ntmps26
  go_wp2
  go_ret
  exact ⟨rfl, rfl⟩
theorem mset_any (xn yn : Nat) {x y : Int} (v : Int) (h : Mat w A R d f) (hv : -1 ≤ v ∧ v ≤ 1) (hx : x = xn) (hy : y = yn) (hxd : xn < d) (hyd : yn < d) :
    Calls Tryz.prog 202 #[.pointer (some ⟨A, 0, none⟩), .int .i64 x, .int .i64 y, .int .i8 v] w fun e w' => e = .returned (.tuple #[]) ∧ Mat w' A R d (upd f yn xn v) ∧ Kp (rowsOf R d) w w' := by
  subst hx hy
  have a0 := h.hA.cell 0
  have r0 := h.hR.cell yn
  rw [rowPtrs_get hyd] at r0
  have hr := h.rows yn hyd
  have c0 := hr.cell xn
  rw [i8s_get hxd] at c0
  have f0 := hr.frozen xn
  have hd := h.le
  simp only [List.getElem?_toArray, List.getElem?_cons_zero] at a0
  go_enter Tryz.func202, Tryz.ntmps202
  go_wp2
  go_end0
  exact ⟨rfl, h.put xn yn hyd v hv, (Kp.refl _ _).setCell (fun _ => mem_rowsOf.2 (by simp only; omega)) _⟩
theorem msetb_any (xn yn : Nat) {x y : Int} (b : Bool) (h : Mat w A R d f) (hx : x = xn) (hy : y = yn) (hxd : xn < d) (hyd : yn < d) :
    Calls Tryz.prog 166 #[.pointer (some ⟨A, 0, none⟩), .int .i64 x, .int .i64 y, .bool b] w fun e w' => e = .returned (.tuple #[]) ∧ Mat w' A R d (upd f yn xn (b01 b)) ∧ Kp (rowsOf R d) w w' := by
  subst hx hy
  have a0 := h.hA.cell 0
  have r0 := h.hR.cell yn
  rw [rowPtrs_get hyd] at r0
  have hr := h.rows yn hyd
  have c0 := hr.cell xn
  rw [i8s_get hxd] at c0
  have f0 := hr.frozen xn
  have hd := h.le
  simp only [List.getElem?_toArray, List.getElem?_cons_zero] at a0
  cases b with
  | true =>
    go_enter Tryz.func166, Tryz.ntmps166
    go_wp2
    go_end0
    exact ⟨rfl, h.put xn yn hyd 1 (by decide), (Kp.refl _ _).setCell (fun _ => mem_rowsOf.2 (by simp only; omega)) _⟩
  | false =>
    go_enter Tryz.func166, Tryz.ntmps166
    go_wp2
    go_end0
    exact ⟨rfl, h.put xn yn hyd 0 (by decide), (Kp.refl _ _).setCell (fun _ => mem_rowsOf.2 (by simp only; omega)) _⟩
end
end Go.Proofs.YtcekbhhpcmhicaaGreatDoor
namespace Go.Proofs.YtcekbhhpcmhicaaGreatDoor
open Go.RowKit Go.QW Go.QM

theorem allocs_size : ∀ (os : List Obj) (w : World), (os.foldl World.alloc w).heap.size = w.heap.size + os.length
  | [], _ => rfl
  | o :: os, w => by rw [List.foldl_cons, allocs_size os, World.size_alloc, List.length_cons]; omega
theorem allocs_below : ∀ (os : List Obj) (w : World), Below w.heap.size w (os.foldl World.alloc w)
  | [], w => Below.refl _ _
  | o :: os, w => by
    rw [List.foldl_cons]
    exact ((Below.refl _ _).alloc (Nat.le_refl _) o).trans ((allocs_below os (w.alloc o)).mono (by simp))
theorem allocs_blk : ∀ (os : List Obj) (w : World) (k : Nat) (cs : Array Value) (t : TypeId), os[k]? = some (.cells cs t (0, 0)) → Blk (os.foldl World.alloc w) (w.heap.size + k) t cs
  | [], _, _, _, _, h => by cases h
  | o :: os, w, 0, cs, t, h => by
    simp only [List.getElem?_cons_zero, Option.some.injEq] at h
    subst h
    rw [List.foldl_cons]
    exact (Blk.new w t cs).below (allocs_below os _) (by simp)
  | o :: os, w, k + 1, cs, t, h => by
    rw [List.foldl_cons]
    have := allocs_blk os (w.alloc o) k cs t (by simpa using h)
    rw [World.size_alloc] at this
    rw [show w.heap.size + (k + 1) = w.heap.size + 1 + k by omega]
    exact this
/-- n rows of m small numbers: block b holds the rows' slices -/
def Tab8 (w : World) (B b n m : Nat) (p : Cells) : Prop := ∀ y, y < n → ∃ g, B ≤ g ∧ w.cell? ⟨b, y, none⟩ = some (.slice (some ⟨g, 0, none⟩) m m) ∧ b < w.heap.size ∧ Blk w g 64 (i8s m (p y))
def tabObjs (B n m : Nat) (p : Cells) : List Obj := (List.range n).map (fun y => Obj.cells (i8s m (p y)) 64) ++ [.cells ((List.range n).map fun y => Value.slice (some ⟨B + y, 0, none⟩) m m).toArray 145]
theorem tab8_fin (w : World) (n m : Nat) (p : Cells) : Tab8 ((tabObjs w.heap.size n m p).foldl World.alloc w) w.heap.size (w.heap.size + n) n m p := by
  intro y hy
  have hb := allocs_blk (tabObjs w.heap.size n m p) w n _ 145 (by
    unfold tabObjs
    rw [List.getElem?_append_right (by simp)]
    simp only [List.length_map, List.length_range, Nat.sub_self, List.getElem?_cons_zero]
    rfl)
  refine ⟨w.heap.size + y, by omega, ?_, hb.lt, ?_⟩
  · rw [hb.cell, List.getElem?_toArray, List.getElem?_map, List.getElem?_range hy]; rfl
  · refine allocs_blk (tabObjs w.heap.size n m p) w y _ 64 ?_
    unfold tabObjs
    rw [List.getElem?_append_left (by simpa using hy), List.getElem?_map, List.getElem?_range hy]; rfl
set_option maxHeartbeats 4000000 in
set_option maxRecDepth 100000 in
theorem pdptab_any (w : World) :
    Calls Tryz.prog 198 #[] w fun e w' => ∃ b, e = .returned (.slice (some ⟨b, 0, none⟩) 7 7) ∧ Tab8 w' w.heap.size b 7 7 pdp ∧ Below w.heap.size w w' := by
  have key := tab8_fin w 7 7 pdp
  have keyb := allocs_below (tabObjs w.heap.size 7 7 pdp) w
  have ho : tabObjs w.heap.size 7 7 pdp = [.cells #[.int .i8 1, .int .i8 1, .int .i8 1, .int .i8 1, .int .i8 1, .int .i8 1, .int .i8 1] 64, .cells #[.int .i8 1, .int .i8 0, .int .i8 0, .int .i8 0, .int .i8 0, .int .i8 0, .int .i8 1] 64,
      .cells #[.int .i8 1, .int .i8 0, .int .i8 1, .int .i8 1, .int .i8 1, .int .i8 0, .int .i8 1] 64, .cells #[.int .i8 1, .int .i8 0, .int .i8 1, .int .i8 1, .int .i8 1, .int .i8 0, .int .i8 1] 64, .cells #[.int .i8 1, .int .i8 0, .int .i8 1, .int .i8 1, .int .i8 1, .int .i8 0, .int .i8 1] 64,
      .cells #[.int .i8 1, .int .i8 0, .int .i8 0, .int .i8 0, .int .i8 0, .int .i8 0, .int .i8 1] 64, .cells #[.int .i8 1, .int .i8 1, .int .i8 1, .int .i8 1, .int .i8 1, .int .i8 1, .int .i8 1] 64,
      .cells #[.slice (some ⟨w.heap.size, 0, none⟩) 7 7, .slice (some ⟨w.heap.size + 1, 0, none⟩) 7 7, .slice (some ⟨w.heap.size + 1 + 1, 0, none⟩) 7 7, .slice (some ⟨w.heap.size + 1 + 1 + 1, 0, none⟩) 7 7, .slice (some ⟨w.heap.size + 1 + 1 + 1 + 1, 0, none⟩) 7 7, .slice (some ⟨w.heap.size + 1 + 1 + 1 + 1 + 1, 0, none⟩) 7 7, .slice (some ⟨w.heap.size + 1 + 1 + 1 + 1 + 1 + 1, 0, none⟩) 7 7] 145] := by kernel_rfl
  rw [ho] at key keyb
  simp only [List.foldl_cons, List.foldl_nil] at key keyb
  have K := Lib.hid key
  have KB := Lib.hid keyb
  clear key keyb ho
  go_enter Tryz.func198, Tryz.ntmps198
  go_wp2
  go_ret
  exact ⟨w.heap.size + 7, rfl, K.out, KB.out⟩
set_option maxHeartbeats 4000000 in
set_option maxRecDepth 100000 in
theorem paptab_any (w : World) :
    Calls Tryz.prog 236 #[] w fun e w' => ∃ b, e = .returned (.slice (some ⟨b, 0, none⟩) 5 5) ∧ Tab8 w' w.heap.size b 5 5 pap ∧ Below w.heap.size w w' := by
  have key := tab8_fin w 5 5 pap
  have keyb := allocs_below (tabObjs w.heap.size 5 5 pap) w
  have ho : tabObjs w.heap.size 5 5 pap = [.cells #[.int .i8 1, .int .i8 1, .int .i8 1, .int .i8 1, .int .i8 1] 64, .cells #[.int .i8 1, .int .i8 0, .int .i8 0, .int .i8 0, .int .i8 1] 64,
      .cells #[.int .i8 1, .int .i8 0, .int .i8 1, .int .i8 0, .int .i8 1] 64, .cells #[.int .i8 1, .int .i8 0, .int .i8 0, .int .i8 0, .int .i8 1] 64, .cells #[.int .i8 1, .int .i8 1, .int .i8 1, .int .i8 1, .int .i8 1] 64,
      .cells #[.slice (some ⟨w.heap.size, 0, none⟩) 5 5, .slice (some ⟨w.heap.size + 1, 0, none⟩) 5 5, .slice (some ⟨w.heap.size + 1 + 1, 0, none⟩) 5 5, .slice (some ⟨w.heap.size + 1 + 1 + 1, 0, none⟩) 5 5, .slice (some ⟨w.heap.size + 1 + 1 + 1 + 1, 0, none⟩) 5 5] 145] := by kernel_rfl
  rw [ho] at key keyb
  simp only [List.foldl_cons, List.foldl_nil] at key keyb
  have K := Lib.hid key
  have KB := Lib.hid keyb
  clear key keyb ho
  go_enter Tryz.func236, Tryz.ntmps236
  go_wp2
  go_ret
  exact ⟨w.heap.size + 5, rfl, K.out, KB.out⟩
section
variable {w : World} {A R d : Nat} {f : Cells}
theorem Mat.fresh (h : Mat w A R d f) {g : Nat} (hg : w.heap.size ≤ g) : g ∉ rowsOf R d := by
  intro hm
  rw [mem_rowsOf] at hm
  obtain ⟨y, rfl⟩ : ∃ y, g = R + 1 + y := ⟨g - (R + 1), by omega⟩
  have := (h.rows y (by omega)).lt
  omega
set_option maxHeartbeats 4000000 in
set_option maxRecDepth 100000 in
theorem embPdp_any (xn yn : Nat) {x y : Int} (h : Mat w A R d f) (hx : x = xn) (hy : y = yn) (hxd : xn + 7 ≤ d) (hyd : yn + 7 ≤ d) :
    Calls Tryz.prog 199 #[.int .i64 x, .int .i64 y, .pointer (some ⟨A, 0, none⟩)] w fun e w' => e = .returned (.tuple #[]) ∧ Mat w' A R d (sq 7 pdp yn xn f) ∧ Kp (rowsOf R d) w w' := by
  subst hx hy
  have hd := h.le
  go_enter Tryz.func199, Tryz.ntmps199
  go_wp2_with fail
  go_loopw [6, 7, 8] (fun t6 _ _ wr => ∃ k : Nat, k ≤ 7 ∧ t6 = .int .i64 k ∧ Mat wr A R d (sqk 7 pdp yn xn k 0 f) ∧ Kp (rowsOf R d) w wr) (fun t6 _ _ _ => 7 - (intOf t6).toNat)
  case atStart => exact ⟨0, by omega, rfl, h.congr (fun y x _ _ => sqk_zero _ _ _ _ _ _ _), Kp.refl _ _⟩
  case round =>
    obtain ⟨k, hk, rfl, hM, hkp⟩ := hrel
    by_cases hlt : k < 7
    · go_wp2_with fail
      refine (pdptab_any wr).mono ?_
      rintro e w1 ⟨b, rfl, hT, hb1⟩
      obtain ⟨g, hgB, c0, hbl, hg⟩ := hT k hlt
      clear hT
      have hs1 := hb1.size
      have hM1 := hM.below hb1
      go_wp2_with fail
      obtain ⟨wo, rfl⟩ : ∃ wo : World, wo = w1 := ⟨_, rfl⟩
      go_loopw [8] (fun t8 wr2 => ∃ j : Nat, j ≤ 7 ∧ t8 = .int .i64 j ∧ Mat wr2 A R d (sqk 7 pdp yn xn k j f) ∧ Kp (rowsOf R d) wo wr2) (fun t8 _ => 7 - (intOf t8).toNat)
      case atStart => exact ⟨0, by omega, rfl, hM1, Kp.refl _ _⟩
      case round =>
        obtain ⟨j, hj, rfl, hM2, hk2⟩ := hrel
        by_cases hlt2 : j < 7
        · have hgo : g ∉ rowsOf R d := hM.fresh hgB
          have c1 := (hg.kp hk2 hgo).cell j
          rw [i8s_get hlt2] at c1
          have hpb := pdp_bd k j
          go_wp2_with fail
          refine (mset_any (xn + j) (yn + k) _ hM2 (by omega) (by omega) (by omega) (by omega) (by omega)).mono ?_
          rintro e w3 ⟨rfl, hM3, hk3⟩
          go_wp2_with fail
          go_roundw
          case rel => exact ⟨j + 1, by omega, by go_num, hM3.congr (fun y x _ _ => sqk_put _ _ _ _ _ _ _ hlt2 y x), hk2.trans hk3 (fun _ h _ => h)⟩
          case measure => simp [intOf]; omega
        · have hje : j = 7 := by omega
          subst hje
          go_wp2_with fail
          go_roundw
          case rel => exact ⟨k + 1, by omega, by go_num, hM2.congr (fun y x _ _ => sqk_row _ _ _ _ _ _ y x), (hkp.trans (Kp.of_below hb1) (fun _ h _ => h)).trans hk2 (fun _ h _ => h)⟩
          case measure => simp [intOf]; omega
    · have hke : k = 7 := by omega
      subst hke
      go_wp2_with fail
      go_end0
      exact ⟨rfl, hM.congr (fun y x _ _ => sqk_all _ _ _ _ _ y x), hkp⟩
set_option maxHeartbeats 4000000 in
set_option maxRecDepth 100000 in
theorem embPap_any (xn yn : Nat) {x y : Int} (h : Mat w A R d f) (hx : x = xn) (hy : y = yn) (hxd : xn + 5 ≤ d) (hyd : yn + 5 ≤ d) :
    Calls Tryz.prog 204 #[.int .i64 x, .int .i64 y, .pointer (some ⟨A, 0, none⟩)] w fun e w' => e = .returned (.tuple #[]) ∧ Mat w' A R d (sq 5 pap yn xn f) ∧ Kp (rowsOf R d) w w' := by
  subst hx hy
  have hd := h.le
  go_enter Tryz.func204, Tryz.ntmps204
  go_wp2_with fail
  go_loopw [6, 7, 8] (fun t6 _ _ wr => ∃ k : Nat, k ≤ 5 ∧ t6 = .int .i64 k ∧ Mat wr A R d (sqk 5 pap yn xn k 0 f) ∧ Kp (rowsOf R d) w wr) (fun t6 _ _ _ => 5 - (intOf t6).toNat)
  case atStart => exact ⟨0, by omega, rfl, h.congr (fun y x _ _ => sqk_zero _ _ _ _ _ _ _), Kp.refl _ _⟩
  case round =>
    obtain ⟨k, hk, rfl, hM, hkp⟩ := hrel
    by_cases hlt : k < 5
    · go_wp2_with fail
      refine (paptab_any wr).mono ?_
      rintro e w1 ⟨b, rfl, hT, hb1⟩
      obtain ⟨g, hgB, c0, hbl, hg⟩ := hT k hlt
      clear hT
      have hs1 := hb1.size
      have hM1 := hM.below hb1
      go_wp2_with fail
      obtain ⟨wo, rfl⟩ : ∃ wo : World, wo = w1 := ⟨_, rfl⟩
      go_loopw [8] (fun t8 wr2 => ∃ j : Nat, j ≤ 5 ∧ t8 = .int .i64 j ∧ Mat wr2 A R d (sqk 5 pap yn xn k j f) ∧ Kp (rowsOf R d) wo wr2) (fun t8 _ => 5 - (intOf t8).toNat)
      case atStart => exact ⟨0, by omega, rfl, hM1, Kp.refl _ _⟩
      case round =>
        obtain ⟨j, hj, rfl, hM2, hk2⟩ := hrel
        by_cases hlt2 : j < 5
        · have hgo : g ∉ rowsOf R d := hM.fresh hgB
          have c1 := (hg.kp hk2 hgo).cell j
          rw [i8s_get hlt2] at c1
          have hpb := pap_bd k j
          go_wp2_with fail
          refine (mset_any (xn + j) (yn + k) _ hM2 (by omega) (by omega) (by omega) (by omega) (by omega)).mono ?_
          rintro e w3 ⟨rfl, hM3, hk3⟩
          go_wp2_with fail
          go_roundw
          case rel => exact ⟨j + 1, by omega, by go_num, hM3.congr (fun y x _ _ => sqk_put _ _ _ _ _ _ _ hlt2 y x), hk2.trans hk3 (fun _ h _ => h)⟩
          case measure => simp [intOf]; omega
        · have hje : j = 5 := by omega
          subst hje
          go_wp2_with fail
          go_roundw
          case rel => exact ⟨k + 1, by omega, by go_num, hM2.congr (fun y x _ _ => sqk_row _ _ _ _ _ _ y x), (hkp.trans (Kp.of_below hb1) (fun _ h _ => h)).trans hk2 (fun _ h _ => h)⟩
          case measure => simp [intOf]; omega
    · have hke : k = 5 := by omega
      subst hke
      go_wp2_with fail
      go_end0
      exact ⟨rfl, hM.congr (fun y x _ _ => sqk_all _ _ _ _ _ y x), hkp⟩
end
end Go.Proofs.YtcekbhhpcmhicaaGreatDoor
