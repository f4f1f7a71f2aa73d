/- The order of the bytes in a symbol: R blocks of q data bytes, the last m of them with one more, each with ec check bytes. -/
namespace Go.QI
/-- data bytes of block j -/
def dl (R q m j : Nat) : Nat := if R - m ≤ j then q + 1 else q
/-- data bytes ahead of block j -/
def off (R q m j : Nat) : Nat := j * q + (j - (R - m))
/-- where byte p of block j stands -/
def rank (R q m j p : Nat) : Nat := if p < q then p * R + j else if p < dl R q m j then q * R + (j - (R - m)) else q * R + m + ((p - dl R q m j) * R + j)
theorem dm {R j j' p p' : Nat} (h : j < R) (h' : j' < R) (e : p * R + j = p' * R + j') : p = p' ∧ j = j' := by
  have e1 : (p * R + j) / R = p := by rw [Nat.mul_comm, Nat.mul_add_div (by omega), Nat.div_eq_of_lt h, Nat.add_zero]
  have e2 : (p' * R + j') / R = p' := by rw [Nat.mul_comm, Nat.mul_add_div (by omega), Nat.div_eq_of_lt h', Nat.add_zero]
  have hp : p = p' := by rw [← e1, ← e2, e]
  subst hp
  exact ⟨rfl, by omega⟩
theorem mul_row {R j p q : Nat} (h : j < R) (hp : p < q) : p * R + j < q * R := by
  have : (p + 1) * R ≤ q * R := Nat.mul_le_mul_right _ hp
  rw [Nat.succ_mul] at this
  omega
section
variable {R q m ec j p j' p' : Nat}
theorem dl_cases (R q m j : Nat) : (R - m ≤ j ∧ dl R q m j = q + 1) ∨ (j < R - m ∧ dl R q m j = q) := by
  unfold dl
  by_cases h : R - m ≤ j
  · exact .inl ⟨h, if_pos h⟩
  · exact .inr ⟨by omega, if_neg h⟩
theorem rank1 (h : p < q) : rank R q m j p = p * R + j := by unfold rank; rw [if_pos h]
theorem rank2 (h : R - m ≤ j) : rank R q m j q = q * R + (j - (R - m)) := by
  unfold rank
  rcases dl_cases R q m j with ⟨_, e⟩ | ⟨h', _⟩
  · rw [if_neg (by omega), if_pos (by omega)]
  · omega
theorem rank3 (k : Nat) : rank R q m j (dl R q m j + k) = q * R + m + (k * R + j) := by
  unfold rank
  rcases dl_cases R q m j with ⟨_, e⟩ | ⟨_, e⟩ <;> rw [e] <;> rw [if_neg (by omega), if_neg (by omega), Nat.add_sub_cancel_left]
theorem rank_cases (hm : m < R) (hj : j < R) (p : Nat) : (p < q ∧ rank R q m j p = p * R + j ∧ p * R + j < q * R) ∨ (p = q ∧ R - m ≤ j ∧ rank R q m j p = q * R + (j - (R - m)) ∧ j - (R - m) < m) ∨ (∃ k, p = dl R q m j + k ∧ rank R q m j p = q * R + m + (k * R + j)) := by
  by_cases h : p < q
  · exact .inl ⟨h, rank1 h, mul_row hj h⟩
  · rcases dl_cases R q m j with ⟨h1, e⟩ | ⟨h1, e⟩
    · by_cases h2 : p = q
      · subst h2
        exact .inr (.inl ⟨rfl, h1, rank2 h1, by omega⟩)
      · refine .inr (.inr ⟨p - dl R q m j, by omega, ?_⟩)
        have := rank3 (R := R) (q := q) (m := m) (j := j) (p - dl R q m j)
        rw [show dl R q m j + (p - dl R q m j) = p by omega] at this
        exact this
    · refine .inr (.inr ⟨p - dl R q m j, by omega, ?_⟩)
      have := rank3 (R := R) (q := q) (m := m) (j := j) (p - dl R q m j)
      rw [show dl R q m j + (p - dl R q m j) = p by omega] at this
      exact this
theorem rank_inj (hm : m < R) (hj : j < R) (hj' : j' < R) (e : rank R q m j p = rank R q m j' p') : j = j' ∧ p = p' := by
  rcases rank_cases (q := q) hm hj p with ⟨h1, h2, h3⟩ | ⟨h1, h2, h3, h4⟩ | ⟨k, h1, h2⟩
  · rcases rank_cases (q := q) hm hj' p' with ⟨g1, g2, g3⟩ | ⟨g1, g2, g3, g4⟩ | ⟨k', g1, g2⟩
    · rw [h2, g2] at e
      have := dm hj hj' e
      exact ⟨this.2, this.1⟩
    · rw [h2, g3] at e; omega
    · rw [h2, g2] at e; omega
  · rcases rank_cases (q := q) hm hj' p' with ⟨g1, g2, g3⟩ | ⟨g1, g2, g3, g4⟩ | ⟨k', g1, g2⟩
    · rw [h3, g2] at e; omega
    · rw [h3, g3] at e; exact ⟨by omega, by omega⟩
    · rw [h3, g2] at e; omega
  · rcases rank_cases (q := q) hm hj' p' with ⟨g1, g2, g3⟩ | ⟨g1, g2, g3, g4⟩ | ⟨k', g1, g2⟩
    · rw [h2, g2] at e; omega
    · rw [h2, g3] at e; omega
    · rw [h2, g2] at e
      obtain ⟨e1, e2⟩ := dm (p := k) (p' := k') hj hj' (by omega)
      subst e1 e2
      exact ⟨rfl, by rw [h1, g1]⟩
theorem rank_lt (hm : m < R) (hj : j < R) (hp : p < dl R q m j + ec) : rank R q m j p < q * R + m + ec * R := by
  rcases rank_cases (q := q) hm hj p with ⟨h1, h2, h3⟩ | ⟨h1, h2, h3, h4⟩ | ⟨k, h1, h2⟩
  · omega
  · omega
  · have := mul_row (q := ec) (p := k) hj (by omega)
    omega
end
end Go.QI
