import Derived.Test.YbulkfceeDoorWalksB
namespace Go.Proofs.YbulkfceeDoor
open Go.RowKit
/-- what the inner ParseUint(.., 16, 16) hands back at four bytes -/
def puTuple (n : Int) : Value := if n < 0 then .tuple #[.int .u64 0, .iface 34 (.int .i64 2)] else .tuple #[.int .u64 n, .nilIface]
set_option maxHeartbeats 32000000 in
set_option maxRecDepth 100000 in
theorem pu_inner (t : ByteArray) (ht : t.size = 4) (w : World) :
    Calls Ybad.prog 9 #[.string t, .int .i64 16, .int .i64 16] w fun e w' => e = .returned (puTuple (hexOf 0 t.data.toList)) ∧ w' = Lib.bytesWorld w 5 t := by
  have hemp : t.toList.isEmpty = false := by
    rw [← decide_eq_emptyBytes]
    exact decide_eq_false (fun h => by rw [h] at ht; cases ht)
  have hcv := Lib.run_convert_string_bytes (P := Ybad.prog) w 9 23 5 t (u := .string) Ybad.underlying9 Ybad.underlying23 Ybad.underlying5
  have hB : ∀ j, j < t.size → (Lib.bytesWorld w 5 t).cell? ⟨w.heap.size, j, none⟩ = some (.int .u8 (t.data.toList.getD j 0).toNat) := fun j hj => Lib.bytesWorld_cell w 5 t j hj
  obtain ⟨W1, hW1⟩ : ∃ W1, W1 = Lib.bytesWorld w 5 t := ⟨_, rfl⟩
  rw [← hW1] at hcv hB ⊢
  clear hW1
  obtain ⟨bs, hL⟩ : ∃ bs, bs = t.data.toList := ⟨_, rfl⟩
  have hLn : bs.length = t.size := by rw [hL, Lib.size_eq]
  rw [← hL] at hB ⊢
  clear hL
  have hmv : IntKind.u64.wrap (IntKind.u64.wrap 65536 - 1) = 65535 := by
    rw [IntKind.wrap_u64, IntKind.wrap_u64]
    decide
  rw [ht] at hB hcv hLn
  go_enter Ybad.func9, Ybad.ntmps9
  go_wp2
  go_loop [12, 13, 101] (fun vu vn vi => ∃ (k : Nat) (a : Int), vu = .bool false ∧ vn = .int .u64 a ∧ vi = .int .i64 k ∧ k ≤ 4 ∧ 0 ≤ a ∧ Hid (a < 16 ^ k ∧ hexOf 0 bs = hexOf a (bs.drop k)))
    (fun _ _ vi => 4 - (intOf vi).toNat)
  case atStart => exact ⟨0, 0, rfl, rfl, rfl, by omega, by omega, by decide, rfl⟩
  case round =>
    obtain ⟨k, a, rfl, rfl, rfl, hk, ha, hh⟩ := hrel
    by_cases hkn : k < 4
    · obtain ⟨hap, hdec⟩ := hh.out
      clear hh
      have hap2 : a < 4096 := by
        rcases (by omega : k = 0 ∨ k = 1 ∨ k = 2 ∨ k = 3) with rfl | rfl | rfl | rfl <;> simp at hap <;> omega
      have hc := hB k hkn
      have hdrop : bs.drop k = bs[k]'(by omega) :: bs.drop (k + 1) := List.drop_eq_getElem_cons (by omega)
      have hget : bs.getD k 0 = bs[k]'(by omega) := by simp [List.getD, List.getElem?_eq_getElem (show k < bs.length by omega)]
      rw [hdrop] at hdec
      rw [hget] at hc
      generalize bs[k]'(by omega) = c at hc hdec
      have hc256 : c.toNat < 256 := c.toNat_lt
      simp only [hexOf] at hdec
      have hpow : ∀ x : Int, x ≤ 15 → a * 16 + x < 16 ^ (k + 1) := fun x hx => by
        rw [Int.pow_succ]; generalize (16 : Int) ^ k = p at *; omega
      clear hB hdrop hget hap
      generalize c.toNat = n at *
      by_cases hdig : 48 ≤ n ∧ n ≤ 57
      · have hD : hexD n = (n : Int) - 48 := by unfold hexD; rw [if_pos hdig]
        obtain ⟨hd0, hd1⟩ := hdig
        rw [hD, if_neg (by omega)] at hdec
        have HN : Hid (a * 16 + ((n : Int) - 48) < 16 ^ (k + 1) ∧ hexOf 0 bs = hexOf (a * 16 + ((n : Int) - 48)) (bs.drop (k + 1))) := Lib.hid ⟨hpow _ (by omega), hdec⟩
        clear hdec hD hpow
        go_wp2
        refine ⟨⟨k + 1, a * 16 + ((n : Int) - 48), rfl, (by first | rfl | (congr 1; omega)), (by first | rfl | (congr 1; omega)), by omega, by omega, HN⟩, by simp [intOf]; omega⟩
      · obtain ⟨L, hL256, hL, hL1, hL2, hL3⟩ := lower_val n hc256
        by_cases hhex : 97 ≤ L ∧ L ≤ 102
        · have hD : hexD n = (L : Int) - 87 := by
            unfold hexD
            rw [if_neg hdig]
            rcases hL3 hhex.1 hhex.2 with h | h
            · rw [if_pos h, hL1 h.1 h.2]
            · rw [if_neg (by omega), if_pos h, hL2 h.1 h.2]; omega
          obtain ⟨hd0, hd1⟩ := hhex
          rw [hD, if_neg (by omega)] at hdec
          have HN : Hid (a * 16 + ((L : Int) - 87) < 16 ^ (k + 1) ∧ hexOf 0 bs = hexOf (a * 16 + ((L : Int) - 87)) (bs.drop (k + 1))) := Lib.hid ⟨hpow _ (by omega), hdec⟩
          clear hdec hD hpow hL1 hL2 hL3
          have h95 : ((n : Int) == 95) = false := by
            rw [beq_eq_false_iff_ne]
            intro h
            have : n = 95 := by omega
            subst this
            have : bits BinOp.or IntKind.u8 ((95 : Nat) : Int) 32 = 127 := by decide
            rw [this] at hL
            omega
          rcases (by omega : n < 48 ∨ 57 < n) with hn | hn
          all_goals
            go_wp2_with (go_at_call 11; refine (lower_any _ _).mono ?_; rintro e w' ⟨rfl, rfl⟩)
            refine ⟨⟨k + 1, a * 16 + ((L : Int) - 87), rfl, (by first | rfl | (congr 1; omega)), (by first | rfl | (congr 1; omega)), by omega, by omega, HN⟩, by simp [intOf]; omega⟩
        · have hD : hexD n = -1 := by
            unfold hexD
            rw [if_neg hdig]
            by_cases h1 : 97 ≤ n ∧ n ≤ 102
            · have := hL1 h1.1 h1.2; omega
            · by_cases h2 : 65 ≤ n ∧ n ≤ 70
              · have := hL2 h2.1 h2.2; omega
              · rw [if_neg h1, if_neg h2]
          rw [hD, if_pos (by decide)] at hdec
          have hT : puTuple (hexOf 0 bs) = .tuple #[.int .u64 0, .iface 34 (.int .i64 2)] := by rw [hdec]; rfl
          have HT := Lib.hid hT
          clear hT hdec hD hpow hL1 hL2 hL3
          by_cases e95 : n = 95
          · subst e95
            have hL' : bits BinOp.or IntKind.u8 95 32 = 127 := by decide
            clear hL
            go_wp2_with (go_at_call 11; refine (lower_any _ _).mono ?_; rintro e w' ⟨rfl, rfl⟩)
            go_ret2
            exact ⟨congrArg Ending.returned HT.out.symm, rfl⟩
          · have h95 : ((n : Int) == 95) = false := by rw [beq_eq_false_iff_ne]; omega
            rcases (by omega : n < 48 ∨ 57 < n) with hn | hn <;> rcases (by omega : L < 97 ∨ (103 ≤ L ∧ L ≤ 122) ∨ 122 < L) with hl | ⟨hl, hl'⟩ | hl
            all_goals
              go_wp2_with (go_at_call 11; refine (lower_any _ _).mono ?_; rintro e w' ⟨rfl, rfl⟩)
              go_ret2
              exact ⟨congrArg Ending.returned HT.out.symm, rfl⟩
    · obtain rfl : k = 4 := by omega
      obtain ⟨hap, hdec⟩ := hh.out
      have hF : hexOf a (bs.drop 4) = a := by rw [List.drop_eq_nil_of_le (by omega)]; rfl
      rw [hF] at hdec
      have hT : puTuple (hexOf 0 bs) = .tuple #[.int .u64 a, .nilIface] := by rw [hdec]; unfold puTuple; rw [if_neg (by omega)]
      have HT := Lib.hid hT
      clear hT hdec hF hh hap hB
      go_wp2
      go_ret2
      exact ⟨congrArg Ending.returned HT.out.symm, rfl⟩
end Go.Proofs.YbulkfceeDoor
