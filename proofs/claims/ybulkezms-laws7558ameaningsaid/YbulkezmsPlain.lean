namespace Go.Proofs.Ybulkezms.PM
def L : Nat := 72340172838076673
def H : Nat := 9259542123273814144
theorem and_split (a b c d : Nat) (ha : a < 256) (hc : c < 256) : (b * 256 + a) &&& (d * 256 + c) = (b &&& d) * 256 + (a &&& c) := by
  apply Nat.eq_of_testBit_eq
  intro i
  have h1 := Nat.testBit_two_pow_mul_add b (i := 8) (by omega : a < 2^8) i
  have h2 := Nat.testBit_two_pow_mul_add d (i := 8) (by omega : c < 2^8) i
  have h3 := Nat.testBit_two_pow_mul_add (b &&& d) (i := 8) (Nat.and_lt_two_pow _ (by omega) : a &&& c < 2^8) i
  rw [Nat.testBit_and, Nat.mul_comm b, Nat.mul_comm d, Nat.mul_comm (b &&& d)]
  rw [show (256:Nat) = 2^8 from rfl, h1, h2, h3]
  by_cases h : i < 8 <;> simp [h]
/-- the number whose eight bytes are these -/
def num8 (a0 a1 a2 a3 a4 a5 a6 a7 : Nat) : Nat := (((((((a7 * 256 + a6) * 256 + a5) * 256 + a4) * 256 + a3) * 256 + a2) * 256 + a1) * 256 + a0)
theorem and_num8 (a0 a1 a2 a3 a4 a5 a6 a7 b0 b1 b2 b3 b4 b5 b6 b7 : Nat)
    (ha0 : a0 < 256) (ha1 : a1 < 256) (ha2 : a2 < 256) (ha3 : a3 < 256) (ha4 : a4 < 256) (ha5 : a5 < 256) (ha6 : a6 < 256)
    (hb0 : b0 < 256) (hb1 : b1 < 256) (hb2 : b2 < 256) (hb3 : b3 < 256) (hb4 : b4 < 256) (hb5 : b5 < 256) (hb6 : b6 < 256) :
    num8 a0 a1 a2 a3 a4 a5 a6 a7 &&& num8 b0 b1 b2 b3 b4 b5 b6 b7 = num8 (a0 &&& b0) (a1 &&& b1) (a2 &&& b2) (a3 &&& b3) (a4 &&& b4) (a5 &&& b5) (a6 &&& b6) (a7 &&& b7) := by
  unfold num8
  rw [and_split _ _ _ _ ha0 hb0, and_split _ _ _ _ ha1 hb1, and_split _ _ _ _ ha2 hb2, and_split _ _ _ _ ha3 hb3, and_split _ _ _ _ ha4 hb4, and_split _ _ _ _ ha5 hb5, and_split _ _ _ _ ha6 hb6]
def xb (x k : Nat) : Nat := x / 2 ^ (8 * k) % 256
theorem xb_lt (x k : Nat) : xb x k < 256 := Nat.mod_lt _ (by decide)
theorem num8_of (x : Nat) (h : x < 18446744073709551616) : x = num8 (xb x 0) (xb x 1) (xb x 2) (xb x 3) (xb x 4) (xb x 5) (xb x 6) (xb x 7) := by
  unfold num8 xb
  simp only [Nat.reduceMul, Nat.reducePow]
  omega
theorem xb_num8 (a0 a1 a2 a3 a4 a5 a6 a7 : Nat)
    (ha0 : a0 < 256) (ha1 : a1 < 256) (ha2 : a2 < 256) (ha3 : a3 < 256) (ha4 : a4 < 256) (ha5 : a5 < 256) (ha6 : a6 < 256) (ha7 : a7 < 256) :
    let n := num8 a0 a1 a2 a3 a4 a5 a6 a7
    xb n 0 = a0 ∧ xb n 1 = a1 ∧ xb n 2 = a2 ∧ xb n 3 = a3 ∧ xb n 4 = a4 ∧ xb n 5 = a5 ∧ xb n 6 = a6 ∧ xb n 7 = a7 := by
  unfold num8 xb
  simp only [Nat.reduceMul, Nat.reducePow]
  omega
def bo (x : Nat) : Nat → Nat
  | 0 => 0
  | k + 1 => if xb x k < 1 + bo x k then 1 else 0
theorem bo_le (x k : Nat) : bo x k ≤ 1 := by
  cases k with
  | zero => simp [bo]
  | succ k => simp only [bo]; split <;> omega
def db (x k : Nat) : Nat := (xb x k + 255 - bo x k) % 256
theorem db_lt (x k : Nat) : db x k < 256 := Nat.mod_lt _ (by decide)
theorem db_bo (x k : Nat) : xb x k + 256 * bo x (k + 1) = db x k + 1 + bo x k := by
  have h1 := xb_lt x k
  have h2 := bo_le x k
  unfold db
  simp only [bo]
  split <;> omega
def dw (x : Nat) : Nat := (x + 18374403900871474943) % 18446744073709551616
theorem dw_num8 (x : Nat) (h : x < 18446744073709551616) : dw x = num8 (db x 0) (db x 1) (db x 2) (db x 3) (db x 4) (db x 5) (db x 6) (db x 7) := by
  have e := num8_of x h
  have b0 : bo x 0 = 0 := rfl
  have b8 := bo_le x 8
  have e0 := db_bo x 0
  have e1 := db_bo x 1
  have e2 := db_bo x 2
  have e3 := db_bo x 3
  have e4 := db_bo x 4
  have e5 := db_bo x 5
  have e6 := db_bo x 6
  have e7 := db_bo x 7
  have l0 := db_lt x 0
  have l1 := db_lt x 1
  have l2 := db_lt x 2
  have l3 := db_lt x 3
  have l4 := db_lt x 4
  have l5 := db_lt x 5
  have l6 := db_lt x 6
  have l7 := db_lt x 7
  unfold dw
  unfold num8 at *
  simp only [Nat.zero_add, Nat.reduceAdd] at *
  generalize xb x 0 = x0 at *
  generalize xb x 1 = x1 at *
  generalize xb x 2 = x2 at *
  generalize xb x 3 = x3 at *
  generalize xb x 4 = x4 at *
  generalize xb x 5 = x5 at *
  generalize xb x 6 = x6 at *
  generalize xb x 7 = x7 at *
  generalize db x 0 = d0 at *
  generalize db x 1 = d1 at *
  generalize db x 2 = d2 at *
  generalize db x 3 = d3 at *
  generalize db x 4 = d4 at *
  generalize db x 5 = d5 at *
  generalize db x 6 = d6 at *
  generalize db x 7 = d7 at *
  omega
theorem not_num8 (x : Nat) (h : x < 18446744073709551616) : 18446744073709551615 - x = num8 (255 - xb x 0) (255 - xb x 1) (255 - xb x 2) (255 - xb x 3) (255 - xb x 4) (255 - xb x 5) (255 - xb x 6) (255 - xb x 7) := by
  have e := num8_of x h
  have l0 := xb_lt x 0
  have l1 := xb_lt x 1
  have l2 := xb_lt x 2
  have l3 := xb_lt x 3
  have l4 := xb_lt x 4
  have l5 := xb_lt x 5
  have l6 := xb_lt x 6
  have l7 := xb_lt x 7
  unfold num8 at *
  omega
def hit (x k : Nat) : Bool := decide (128 ≤ db x k ∧ xb x k < 128)
def hb (x k : Nat) : Nat := if hit x k = true then 128 else 0
theorem and128 : ∀ n, n < 256 → n &&& 128 = if 128 ≤ n then 128 else 0 := by decide +kernel
theorem hb_eq (x k : Nat) : (db x k &&& (255 - xb x k)) &&& 128 = hb x k := by
  have h1 := and128 (db x k) (db_lt x k)
  have h2 := and128 (255 - xb x k) (by omega)
  have h3 := xb_lt x k
  have e : (db x k &&& (255 - xb x k)) &&& 128 = (db x k &&& 128) &&& ((255 - xb x k) &&& 128) := by
    apply Nat.eq_of_testBit_eq
    intro i
    simp only [Nat.testBit_and]
    cases (db x k).testBit i <;> cases (255 - xb x k).testBit i <;> cases Nat.testBit 128 i <;> rfl
  rw [e, h1, h2]
  unfold hb hit
  by_cases a : 128 ≤ db x k <;> by_cases b : xb x k < 128
  all_goals simp [a, b]
  all_goals try (rw [if_pos (by omega)])
  all_goals try (rw [if_neg (by omega)])
  all_goals try rfl
def mt (x : Nat) : Nat := (dw x &&& (18446744073709551615 - x)) &&& H
theorem mt_eq (x : Nat) (h : x < 18446744073709551616) : mt x = num8 (hb x 0) (hb x 1) (hb x 2) (hb x 3) (hb x 4) (hb x 5) (hb x 6) (hb x 7) := by
  unfold mt
  have eH : H = num8 128 128 128 128 128 128 128 128 := by decide
  have lt : ∀ k, (db x k &&& (255 - xb x k)) < 256 := fun k => Nat.lt_of_le_of_lt Nat.and_le_left (db_lt x k)
  have lt' : ∀ k, 255 - xb x k < 256 := fun k => by omega
  rw [dw_num8 x h, not_num8 x h, eH]
  rw [and_num8 _ _ _ _ _ _ _ _ _ _ _ _ _ _ _ _ (db_lt x 0) (db_lt x 1) (db_lt x 2) (db_lt x 3) (db_lt x 4) (db_lt x 5) (db_lt x 6) (lt' 0) (lt' 1) (lt' 2) (lt' 3) (lt' 4) (lt' 5) (lt' 6)]
  rw [and_num8 _ _ _ _ _ _ _ _ _ _ _ _ _ _ _ _ (lt 0) (lt 1) (lt 2) (lt 3) (lt 4) (lt 5) (lt 6) (by decide) (by decide) (by decide) (by decide) (by decide) (by decide) (by decide)]
  simp only [hb_eq]
def res (x : Nat) : Nat → Nat
  | 0 => 0
  | k + 1 => if hit x k = true then res x k ||| 2 ^ (8 * k + 7) else res x k
theorem res_lt (x k : Nat) : res x k < 2 ^ (8 * k) := by
  induction k with
  | zero => simp [res]
  | succ k ih =>
    have e : 2 ^ (8 * (k + 1)) = 256 * 2 ^ (8 * k) := by rw [Nat.mul_add, Nat.pow_add]; omega
    have f : 2 ^ (8 * k + 7) = 128 * 2 ^ (8 * k) := by rw [Nat.pow_add]; omega
    simp only [res]
    split
    · apply Nat.or_lt_two_pow
      · omega
      · omega
    · omega
theorem res_succ (x k : Nat) : res x (k + 1) = res x k + hb x k * 2 ^ (8 * k) := by
  have f : 2 ^ (8 * k + 7) = 128 * 2 ^ (8 * k) := by rw [Nat.pow_add]; omega
  have hl := res_lt x k
  simp only [res, hb]
  by_cases c : hit x k = true
  · rw [if_pos c, if_pos c]
    have := Nat.two_pow_add_eq_or_of_lt (i := 8 * k + 7) (b := res x k) (by omega) 1
    rw [Nat.mul_one] at this
    rw [Nat.or_comm, ← this, f]; omega
  · rw [if_neg c, if_neg c]; omega
theorem res_8 (x : Nat) : res x 8 = num8 (hb x 0) (hb x 1) (hb x 2) (hb x 3) (hb x 4) (hb x 5) (hb x 6) (hb x 7) := by
  rw [res_succ x 7, res_succ x 6, res_succ x 5, res_succ x 4, res_succ x 3, res_succ x 2, res_succ x 1, res_succ x 0]
  unfold num8
  simp only [res, Nat.reduceMul, Nat.reducePow]
  omega
theorem whole (x : Nat) (h : x < 18446744073709551616) : mt x = res x 8 := by rw [mt_eq x h, res_8]
/-! the meaning -/
theorem hb_lt (x k : Nat) : hb x k < 256 := by unfold hb; split <;> omega
theorem mt_bit (x k : Nat) (h : x < 18446744073709551616) (hk : k < 8) : mt x / 2 ^ (8 * k + 7) % 2 = if hit x k = true then 1 else 0 := by
  have e := mt_eq x h
  have hv : ∀ k, hb x k = 128 * (if hit x k = true then 1 else 0) := by intro k; unfold hb; split <;> rfl
  have hc : ∀ k, (if hit x k = true then 1 else 0) ≤ 1 := by intro k; split <;> omega
  have c0 := hc 0
  have c1 := hc 1
  have c2 := hc 2
  have c3 := hc 3
  have c4 := hc 4
  have c5 := hc 5
  have c6 := hc 6
  have c7 := hc 7
  rw [e]
  unfold num8
  simp only [hv]
  rcases (by omega : k = 0 ∨ k = 1 ∨ k = 2 ∨ k = 3 ∨ k = 4 ∨ k = 5 ∨ k = 6 ∨ k = 7) with rfl | rfl | rfl | rfl | rfl | rfl | rfl | rfl
  all_goals
    simp only [Nat.reduceMul, Nat.reduceAdd, Nat.reducePow]
    generalize (if hit x 0 = true then 1 else 0) = h0 at *
    generalize (if hit x 1 = true then 1 else 0) = h1 at *
    generalize (if hit x 2 = true then 1 else 0) = h2 at *
    generalize (if hit x 3 = true then 1 else 0) = h3 at *
    generalize (if hit x 4 = true then 1 else 0) = h4 at *
    generalize (if hit x 5 = true then 1 else 0) = h5 at *
    generalize (if hit x 6 = true then 1 else 0) = h6 at *
    generalize (if hit x 7 = true then 1 else 0) = h7 at *
    omega
theorem hit_of_zero (x k : Nat) (h : xb x k = 0) : hit x k = true := by
  have := bo_le x k
  unfold hit db
  rw [h]
  exact decide_eq_true (by omega)
theorem bo_zero (x : Nat) : ∀ k, (∀ j, j < k → hit x j = false) → bo x k = 0
  | 0, _ => rfl
  | k + 1, h => by
    have b := bo_zero x k (fun j hj => h j (by omega))
    simp only [bo]
    rw [b]
    by_cases c : xb x k = 0
    · have := hit_of_zero x k c
      rw [h k (by omega)] at this
      cases this
    · rw [if_neg (by omega)]
theorem zero_of_first (x k : Nat) (h : ∀ j, j < k → hit x j = false) (hk : hit x k = true) : xb x k = 0 := by
  have b := bo_zero x k h
  have l := xb_lt x k
  unfold hit db at hk
  rw [b] at hk
  have := of_decide_eq_true hk
  omega
theorem mt_zero (x : Nat) (h : x < 18446744073709551616) (hn : ∀ j, j < 8 → hit x j = false) : mt x = 0 := by
  rw [mt_eq x h]
  have e : ∀ k, k < 8 → hb x k = 0 := fun k hk => by unfold hb; rw [hn k hk]; rfl
  rw [e 0 (by decide), e 1 (by decide), e 2 (by decide), e 3 (by decide), e 4 (by decide), e 5 (by decide), e 6 (by decide), e 7 (by decide)]
  rfl
theorem none_hit (x : Nat) (hn : ∀ j, j < 8 → ¬ xb x j = 0) : ∀ k, k ≤ 8 → ∀ j, j < k → hit x j = false
  | 0, _, j, hj => absurd hj (by omega)
  | k + 1, hk, j, hj => by
    have ih := none_hit x hn k (by omega)
    by_cases c : j < k
    · exact ih j c
    · have : j = k := by omega
      subst this
      cases hh : hit x j with
      | false => rfl
      | true => exact absurd (zero_of_first x j ih hh) (hn j (by omega))
theorem low_byte : ∀ k, k < 8 → ∀ top, top < 256 → L * top / 2 ^ (8 * k) % 2 ^ 8 = top := by decide +kernel
def xw (t top : Nat) : Nat := t ^^^ (L * top)
theorem xw_lt (t top : Nat) (h : t < 18446744073709551616) (h2 : top < 256) : xw t top < 18446744073709551616 := by
  unfold xw L
  exact Nat.xor_lt_two_pow (n := 64) h (by omega)
theorem xb_xw (t top k : Nat) (h2 : top < 256) (hk : k < 8) : xb (xw t top) k = xb t k ^^^ top := by
  unfold xb xw
  rw [Nat.xor_div_two_pow, show (256 : Nat) = 2 ^ 8 from rfl, Nat.xor_mod_two_pow]
  rw [low_byte k hk top h2]
theorem xor_eq_zero' (a b : Nat) : a ^^^ b = 0 ↔ a = b := by
  constructor
  · intro h
    have : (a ^^^ b) ^^^ b = 0 ^^^ b := by rw [h]
    rwa [Nat.xor_assoc, Nat.xor_self, Nat.xor_zero, Nat.zero_xor] at this
  · rintro rfl; exact Nat.xor_self _
end Go.Proofs.Ybulkezms.PM
