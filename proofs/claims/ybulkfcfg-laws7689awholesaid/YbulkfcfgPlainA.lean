namespace Go.Proofs.Ybulkfcfg.PA
/-- the samples of a series -/
def kk (z : Int) : Int := 1 + z % 4
theorem kk_range (z : Int) : 1 ≤ kk z ∧ kk z ≤ 4 := by unfold kk; omega
/-- where series j starts -/
def st (zs : List Int) : Nat → Int
  | 0 => 0
  | j + 1 => st zs j + kk (zs.getD j 0)
/-- the series below j with more than one sample -/
def wn (zs : List Int) : Nat → List Nat
  | 0 => []
  | j + 1 => if 1 < kk (zs.getD j 0) then wn zs j ++ [j] else wn zs j
theorem st_range (zs : List Int) : ∀ j : Nat, (j : Int) ≤ st zs j ∧ st zs j ≤ 4 * (j : Int)
  | 0 => by simp [st]
  | j + 1 => by
    have h := st_range zs j
    have k := kk_range (zs.getD j 0)
    simp only [st]
    omega
theorem st_gap (zs : List Int) (j : Nat) : ∀ d : Nat, (d : Int) ≤ st zs (j + d) - st zs j
  | 0 => by simp
  | d + 1 => by
    have h := st_gap zs j d
    have k := kk_range (zs.getD (j + d) 0)
    rw [← Nat.add_assoc]
    simp only [st]
    omega
theorem wn_len (zs : List Int) : ∀ j, (wn zs j).length ≤ j
  | 0 => by simp [wn]
  | j + 1 => by
    have h := wn_len zs j
    simp only [wn]
    split <;> simp <;> omega
theorem wn_mono (zs : List Int) (j : Nat) : ∀ d, (wn zs j).length ≤ (wn zs (j + d)).length
  | 0 => by simp
  | d + 1 => by
    have h := wn_mono zs j d
    rw [← Nat.add_assoc]
    simp only [wn]
    split <;> simp <;> omega
theorem wn_same (zs : List Int) (j : Nat) : ∀ d : Nat, st zs (j + d) - st zs j = (d : Int) → wn zs (j + d) = wn zs j
  | 0, _ => by simp
  | d + 1, h => by
    have g := st_gap zs j d
    have k := kk_range (zs.getD (j + d) 0)
    rw [← Nat.add_assoc] at h ⊢
    simp only [st] at h
    have e : kk (zs.getD (j + d) 0) = 1 := by omega
    simp only [wn]
    rw [e, if_neg (by decide)]
    exact wn_same zs j d (by omega)
end Go.Proofs.Ybulkfcfg.PA
