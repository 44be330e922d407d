import Derived.Test.YbulkfceeDoorWalksD
namespace Go.Proofs.YbulkfceeDoor
open Go.RowKit
set_option linter.unusedVariables false
theorem hex_any (n : Nat) (hn : n < 256) (w : World) : Calls Ybad.prog 8 #[.int .u8 (n : Int)] w fun e w' => e = .returned (.int .i64 (hexD n)) ∧ w' = w := by
  by_cases h1 : 48 ≤ n ∧ n ≤ 57
  · have hD : hexD n = (n : Int) - 48 := by unfold hexD; rw [if_pos h1]
    rw [hD]
    obtain ⟨p, q⟩ := h1
    clear hD
    go_enter Ybad.func8, Ybad.ntmps8
    go_wp2
    go_ret
    exact ⟨rfl, rfl⟩
  · by_cases h2 : 97 ≤ n ∧ n ≤ 102
    · have hD : hexD n = (n : Int) - 97 + 10 := by unfold hexD; rw [if_neg h1, if_pos h2]; omega
      rw [hD]
      obtain ⟨p, q⟩ := h2
      clear hD
      go_enter Ybad.func8, Ybad.ntmps8
      go_wp2
      go_ret
      exact ⟨rfl, rfl⟩
    · by_cases h3 : 65 ≤ n ∧ n ≤ 70
      · have hD : hexD n = (n : Int) - 65 + 10 := by unfold hexD; rw [if_neg h1, if_neg h2, if_pos h3]; omega
        rw [hD]
        obtain ⟨p, q⟩ := h3
        clear hD
        go_enter Ybad.func8, Ybad.ntmps8
        go_wp2
        go_ret
        exact ⟨rfl, rfl⟩
      · have hD : hexD n = -1 := by unfold hexD; rw [if_neg h1, if_neg h2, if_neg h3]
        rw [hD]
        clear hD
        rcases (by omega : n < 48 ∨ (57 < n ∧ n < 65) ∨ (70 < n ∧ n < 97) ∨ 102 < n) with p | ⟨p, q⟩ | ⟨p, q⟩ | p
        all_goals
          clear h1 h2 h3
          go_enter Ybad.func8, Ybad.ntmps8
          go_wp2
          go_ret
          exact ⟨rfl, rfl⟩
set_option maxHeartbeats 4000000 in
theorem model_short (a : Option Addr) (len cap : Nat) (w : World) (h : len < 6) :
    Calls Ybad.prog 5 #[.slice a len cap] w fun e w' => e = .returned (.int .i32 (-1)) ∧ w' = w := by
  go_enter Ybad.func5, Ybad.ntmps5
  go_wp2
  go_ret
  exact ⟨rfl, rfl⟩
set_option maxHeartbeats 4000000 in
theorem model_other (b off len cap : Nat) (bs : List UInt8) (w : World) (hB : HoldsBytes w b off len bs) (h : 6 ≤ len) (h01 : ¬ ((bs.getD 0 0).toNat = 92 ∧ (bs.getD 1 0).toNat = 117)) :
    Calls Ybad.prog 5 #[.slice (some ⟨b, off, none⟩) len cap] w fun e w' => e = .returned (.int .i32 (-1)) ∧ w' = w := by
  have c0 := hB.2 0 (by omega)
  have c1 := hB.2 1 (by omega)
  rw [Nat.add_zero] at c0
  clear hB
  generalize (bs.getD 0 0).toNat = x at *
  generalize (bs.getD 1 0).toNat = y at *
  by_cases e0 : x = 92
  · have d0 : ((x : Int) != 92) = false := by rw [e0]; rfl
    have d1 : ((y : Int) != 117) = true := by rw [bne_iff_ne]; omega
    clear h01 e0
    go_enter Ybad.func5, Ybad.ntmps5
    go_wp2
    go_ret
    exact ⟨rfl, rfl⟩
  · have d0 : ((x : Int) != 92) = true := by rw [bne_iff_ne]; omega
    clear h01 e0
    go_enter Ybad.func5, Ybad.ntmps5
    go_wp2
    go_ret
    exact ⟨rfl, rfl⟩
theorem four_at (bs : List UInt8) (k : Nat) (hk : k < 4) (hl : 6 ≤ bs.length) : ((bs.drop 2).take 4).drop k = bs.getD (2 + k) 0 :: ((bs.drop 2).take 4).drop (k + 1) := by
  have hl4 : ((bs.drop 2).take 4).length = 4 := by rw [List.length_take, List.length_drop]; omega
  rw [List.drop_eq_getElem_cons (by omega)]
  congr 1
  rw [List.getD_eq_getElem?_getD, List.getElem?_eq_getElem (by omega)]
  simp
set_option maxHeartbeats 4000000 in
theorem model_hex (b off len cap : Nat) (bs : List UInt8) (w : World) (hB : HoldsBytes w b off len bs) (h : 6 ≤ len) (hm : len ≤ maxLen) (h0 : (bs.getD 0 0).toNat = 92) (h1 : (bs.getD 1 0).toNat = 117) :
    Calls Ybad.prog 5 #[.slice (some ⟨b, off, none⟩) len cap] w fun e w' => e = .returned (.int .i32 (hexOf 0 ((bs.drop 2).take 4))) ∧ w' = w := by
  unfold maxLen at hm
  have c0 := hB.2 0 (by omega)
  have c1 := hB.2 1 (by omega)
  rw [Nat.add_zero, h0] at c0
  rw [h1] at c1
  have hcs : Hid (∀ k, k < 4 → w.cell? ⟨b, off + (k + 2), none⟩ = some (.int .u8 ((bs.getD (2 + k) 0).toNat : Int))) := Lib.hid (fun k hk => by rw [Nat.add_comm k 2]; exact hB.2 (2 + k) (by omega))
  have hfa := Lib.hid (fun k hk => four_at bs k hk (by rw [hB.1]; exact h))
  have hl4 : ((bs.drop 2).take 4).length = 4 := by rw [List.length_take, List.length_drop, hB.1]; omega
  have hlt := hexOf_lt _ hl4
  clear hB h0 h1
  generalize (bs.drop 2).take 4 = l at *
  go_enter Ybad.func5, Ybad.ntmps5
  go_wp2
  clear c0 c1
  go_loop [3, 4] (fun v i => ∃ (k : Nat) (a : Int), k ≤ 4 ∧ i = .int .i64 ((k : Int) + 2) ∧ v = .int .i64 a ∧ 0 ≤ a ∧ Hid (a < 16 ^ k ∧ hexOf 0 l = hexOf a (l.drop k))) (fun _ i => 6 - (intOf i).toNat)
  case atStart => exact ⟨0, 0, by omega, rfl, rfl, by omega, by decide, rfl⟩
  case round =>
    obtain ⟨k, a, hk, rfl, rfl, ha, hh⟩ := hrel
    by_cases hkn : k < 4
    · obtain ⟨hap, hdec⟩ := hh.out
      clear hh
      have hap2 : a < 4096 := by
        rcases (by omega : k = 0 ∨ k = 1 ∨ k = 2 ∨ k = 3) with rfl | rfl | rfl | rfl <;> simp at hap <;> omega
      have hc := hcs.out k hkn
      rw [hfa.out k hkn] at hdec
      generalize bs.getD (2 + k) 0 = c at hc hdec
      have hc256 : c.toNat < 256 := c.toNat_lt
      simp only [hexOf] at hdec
      have hr := hexD_range c.toNat
      generalize c.toNat = n at *
      have h8 := Lib.hid (fun w => hex_any n hc256 w)
      generalize hexD n = d at *
      clear hcs hfa hlt hl4
      by_cases hd : d < 0
      · rw [if_pos hd] at hdec
        have HT := Lib.hid hdec
        clear hdec hap
        go_wp2_with (go_at_call 8; refine (h8.out _).mono ?_; rintro e w' ⟨rfl, rfl⟩)
        go_ret
        exact ⟨by rw [HT.out]; rfl, rfl⟩
      · rw [if_neg hd] at hdec
        have HN : Hid (a * 16 + d < 16 ^ (k + 1) ∧ hexOf 0 l = hexOf (a * 16 + d) (l.drop (k + 1))) := Lib.hid ⟨by rw [Int.pow_succ]; generalize (16 : Int) ^ k = p at *; omega, hdec⟩
        clear hdec hap
        go_wp2_with (go_at_call 8; refine (h8.out _).mono ?_; rintro e w' ⟨rfl, rfl⟩)
        refine ⟨⟨k + 1, a * 16 + d, by omega, (by first | rfl | (congr 1; omega)), rfl, by omega, HN⟩, by simp [intOf]; omega⟩
    · obtain rfl : k = 4 := by omega
      obtain ⟨hap, hdec⟩ := hh.out
      have hF : hexOf a (l.drop 4) = a := by rw [List.drop_eq_nil_of_le (by omega)]; rfl
      rw [hF] at hdec
      rw [hdec] at hlt
      have HD := Lib.hid hdec
      clear hcs hfa hh hdec hF hap
      go_wp2
      go_ret
      exact ⟨by rw [HD.out]; rfl, rfl⟩
set_option maxHeartbeats 4000000 in
/-- bytes.Equal of two slices of the same bytes. -/
theorem equal_same (a1 a2 : Option Addr) (l1 l2 c1 c2 : Nat) (s : ByteArray) (w : World)
    (h1 : (convert 23 9 (.slice a1 l1 c1)).run Ybad.prog w = .ok (.string s) w) (h2 : (convert 23 9 (.slice a2 l2 c2)).run Ybad.prog w = .ok (.string s) w) :
    Calls Ybad.prog 6 #[.slice a1 l1 c1, .slice a2 l2 c2] w fun e w' => e = .returned (.bool true) ∧ w' = w := by
  go_enter Ybad.func6, Ybad.ntmps6
  go_wp2
  go_ret
  exact ⟨by simp, rfl⟩
end Go.Proofs.YbulkfceeDoor
