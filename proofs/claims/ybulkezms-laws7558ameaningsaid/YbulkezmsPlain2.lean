import Derived.Test.YbulkezmsPlain
namespace Go.Proofs.Ybulkezms.PM
/-! the loop of LawS7558AMeaning -/
def anyB (x : Nat) : Nat → Bool
  | 0 => false
  | k + 1 => if xb x k = 0 then true else anyB x k
def lowI (x : Nat) : Nat → Int
  | 0 => -1
  | k + 1 => if lowI x k < 0 then (if hit x k = true then (k : Int) else lowI x k) else lowI x k
theorem any_false (x : Nat) : ∀ k, anyB x k = false → ∀ j, j < k → ¬ xb x j = 0
  | 0, _, j, hj => absurd hj (by omega)
  | k + 1, h, j, hj => by
    simp only [anyB] at h
    by_cases c : xb x k = 0
    · rw [if_pos c] at h; cases h
    · rw [if_neg c] at h
      by_cases e : j < k
      · exact any_false x k h j e
      · obtain rfl : j = k := by omega
        exact c
theorem any_true (x : Nat) : ∀ k, anyB x k = true → ∃ j, j < k ∧ xb x j = 0
  | 0, h => by cases h
  | k + 1, h => by
    simp only [anyB] at h
    by_cases c : xb x k = 0
    · exact ⟨k, by omega, c⟩
    · rw [if_neg c] at h
      obtain ⟨j, hj, e⟩ := any_true x k h
      exact ⟨j, by omega, e⟩
theorem low_spec (x : Nat) : ∀ k, (lowI x k = -1 ∧ ∀ j, j < k → hit x j = false) ∨ (∃ j : Nat, j < k ∧ lowI x k = (j : Int) ∧ xb x j = 0)
  | 0 => Or.inl ⟨rfl, fun j hj => absurd hj (by omega)⟩
  | k + 1 => by
    simp only [lowI]
    rcases low_spec x k with ⟨h1, h2⟩ | ⟨j, hj, h1, h2⟩
    · rw [h1, if_pos (by decide)]
      cases c : hit x k with
      | true => right; exact ⟨k, by omega, by simp, zero_of_first x k h2 c⟩
      | false =>
        left
        refine ⟨by simp, fun j hj => ?_⟩
        by_cases e : j < k
        · exact h2 j e
        · obtain rfl : j = k := by omega
          exact c
    · right
      exact ⟨j, by omega, by rw [h1, if_neg (by omega)], h2⟩
theorem low_range (x k : Nat) : -1 ≤ lowI x k ∧ lowI x k < (k : Int) := by
  rcases low_spec x k with ⟨h1, _⟩ | ⟨j, hj, h1, _⟩ <;> rw [h1] <;> omega
theorem end_none (x : Nat) (h : x < 18446744073709551616) (ha : anyB x 8 = false) : mt x = 0 :=
  mt_zero x h (none_hit x (any_false x 8 ha) 8 (by omega))
theorem end_some (x : Nat) (ha : anyB x 8 = true) : ∃ j : Nat, j < 8 ∧ lowI x 8 = (j : Int) ∧ xb x j = 0 := by
  rcases low_spec x 8 with ⟨_, h2⟩ | h
  · obtain ⟨j, hj, e⟩ := any_true x 8 ha
    have := hit_of_zero x j e
    rw [h2 j hj] at this
    cases this
  · exact h
theorem mt_and (x k : Nat) (h : x < 18446744073709551616) (hk : k < 8) : mt x &&& 2 ^ (8 * k + 7) = if hit x k = true then 2 ^ (8 * k + 7) else 0 := by
  have hb := mt_bit x k h hk
  have ht : (mt x).testBit (8 * k + 7) = hit x k := by rw [Nat.testBit_eq_decide_div_mod_eq, hb]; cases hit x k <;> rfl
  apply Nat.eq_of_testBit_eq
  intro i
  rw [Nat.testBit_and, Nat.testBit_two_pow]
  by_cases c : 8 * k + 7 = i
  · subst c
    rw [ht]
    cases hit x k <;> simp
  · cases hit x k <;> simp [c]
theorem mt_lt (x : Nat) : mt x < 18446744073709551616 := Nat.lt_of_le_of_lt Nat.and_le_right (by decide)
theorem mt_not (x : Nat) : mt x &&& (18446744073709551615 - H) = 0 := by
  unfold mt
  rw [Nat.and_assoc]
  have : H &&& (18446744073709551615 - H) = 0 := by decide
  rw [this, Nat.and_zero]
end Go.Proofs.Ybulkezms.PM
