namespace Go.Proofs.YbulkfceeDoor
/-- the value of a hex digit; -1 where it is none -/
def hexD (c : Nat) : Int := if 48 ≤ c ∧ c ≤ 57 then (c : Int) - 48 else if 97 ≤ c ∧ c ≤ 102 then (c : Int) - 87 else if 65 ≤ c ∧ c ≤ 70 then (c : Int) - 55 else -1
theorem hexD_range (c : Nat) : -1 ≤ hexD c ∧ hexD c ≤ 15 := by unfold hexD; split <;> (try split) <;> (try split) <;> omega
/-- the number that a list of hex digits writes, behind 'acc'; -1 where one is no hex digit -/
def hexOf : Int → List UInt8 → Int
  | acc, [] => acc
  | acc, c :: r => if hexD c.toNat < 0 then -1 else hexOf (acc * 16 + hexD c.toNat) r
/-- what escapedRune and the model give -/
def er (bs : List UInt8) : Int :=
  if bs.length < 6 then -1 else if (bs.getD 0 0).toNat = 92 ∧ (bs.getD 1 0).toNat = 117 then hexOf 0 ((bs.drop 2).take 4) else -1
theorem hexOf_range : ∀ (l : List UInt8) (acc : Int), 0 ≤ acc → -1 ≤ hexOf acc l ∧ hexOf acc l < (acc + 1) * 16 ^ l.length
  | [], acc, h => by simp [hexOf]; omega
  | c :: r, acc, h => by
    have hd := hexD_range c.toNat
    simp only [hexOf]
    have hp : (1 : Int) ≤ 16 ^ (r.length + 1) := by
      have : (1 : Int) ≤ (16 ^ (r.length + 1) : Nat) := by have := Nat.pow_pos (n := r.length + 1) (show 0 < 16 by decide); omega
      simpa using this
    split
    · refine ⟨by omega, ?_⟩
      have : (0 : Int) ≤ (acc + 1) * 16 ^ (c :: r).length := Int.mul_nonneg (by omega) (by simp only [List.length_cons]; omega)
      omega
    · obtain ⟨h1, h2⟩ := hexOf_range r (acc * 16 + hexD c.toNat) (by omega)
      refine ⟨h1, Int.lt_of_lt_of_le h2 ?_⟩
      rw [List.length_cons, Int.pow_succ, Int.mul_comm (16 ^ r.length) 16, ← Int.mul_assoc]
      apply Int.mul_le_mul_of_nonneg_right
      · omega
      · exact Int.pow_nonneg (by decide)
end Go.Proofs.YbulkfceeDoor
