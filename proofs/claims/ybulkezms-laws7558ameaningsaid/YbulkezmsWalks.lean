import Derived.Test.YbulkezmsProg
import Derived.Test.YbulkezmsPlain
import Derived.WalkKit
import Derived.ProofKit
import Derived.Laws.BitsAllLaws
namespace Go.Proofs.Ybulkezms
open Go.RowKit
theorem match_val (T U : Nat) (hT : T < 18446744073709551616) (hU : U < 256) :
    bits BinOp.and IntKind.u64 (bits BinOp.andNot IntKind.u64 (IntKind.u64.wrap (bits BinOp.xor IntKind.u64 (T : Int) (72340172838076673 * (U : Int)) - 72340172838076673)) (bits BinOp.xor IntKind.u64 (T : Int) (72340172838076673 * (U : Int)))) 9259542123273814144
      = ((PM.mt (PM.xw T U) : Nat) : Int) := by
  have hx := PM.xw_lt T U hT hU
  have e1 : bits BinOp.xor IntKind.u64 (T : Int) (72340172838076673 * (U : Int)) = ((PM.xw T U : Nat) : Int) := by
    have := u64_xor_nat T (72340172838076673 * U) hT (by omega)
    simpa [PM.xw, PM.L] using this
  rw [e1]
  generalize PM.xw T U = X at *
  have e2 : IntKind.u64.wrap ((X : Int) - 72340172838076673) = ((PM.dw X : Nat) : Int) := by
    rw [IntKind.wrap_u64]; unfold PM.dw; omega
  have hd : PM.dw X < 18446744073709551616 := Nat.mod_lt _ (by decide)
  rw [e2, u64_andNot_nat _ _ hd hx]
  exact u64_and_nat _ 9259542123273814144 (Nat.lt_of_le_of_lt Nat.and_le_left hd) (by decide)
theorem hide {p : Prop} (h : p) : Hid p := h
theorem unhide {p : Prop} (h : Hid p) : p := h
theorem ret_bool {a b : Bool} (h : a = b) : Ending.returned (.bool a) = .returned (.bool b) := by rw [h]
theorem ret_int {k : IntKind} {a b : Int} (h : a = b) : Ending.returned (.int k a) = .returned (.int k b) := by rw [h]
set_option maxHeartbeats 400000 in
theorem match_any (T U : Nat) (hT : T < 18446744073709551616) (hU : U < 256) (w : World) :
    Calls Yba.prog 6 #[.int .u64 T, .int .u8 U] w fun e w' => e = .returned (.int .u64 (PM.mt (PM.xw T U) : Nat)) ∧ w' = w := by
  have HV := hide (match_val T U hT hU)
  go_enter Yba.func6, Yba.ntmps6
  go_wp2
  go_ret
  exact ⟨ret_int (unhide HV), rfl⟩
theorem i64_and255 (a b : Nat) (ha : a < 256) (hb : b ≤ 1) : bits BinOp.and IntKind.i64 ((a : Int) - 1 - (b : Int)) 255 = (((a + 255 - b) % 256 : Nat) : Int) := by
  have h : ∀ a : Nat, a < 256 → ∀ b : Nat, b < 2 → bits BinOp.and IntKind.i64 ((a : Int) - 1 - (b : Int)) 255 = (((a + 255 - b) % 256 : Nat) : Int) := by decide +kernel
  exact h a ha b (by omega)
theorem u8_and128 (a : Nat) (ha : a < 256) : bits BinOp.and IntKind.u8 (a : Int) 128 = if 128 ≤ a then 128 else 0 := by
  have h : ∀ a : Nat, a < 256 → bits BinOp.and IntKind.u8 (a : Int) 128 = if 128 ≤ a then 128 else 0 := by decide +kernel
  exact h a ha
theorem xi_val (T U k : Nat) (hU : U < 256) (hk : k < 8) : bits BinOp.xor IntKind.u8 ((T : Int) / 2 ^ (8 * k) % 256) (U : Int) = ((PM.xb (PM.xw T U) k : Nat) : Int) := by
  rw [PM.xb_xw T U k hU hk]
  have := u8_xor_nat (PM.xb T k) U (PM.xb_lt T k) hU
  rw [← this]
  unfold PM.xb
  rw [Int.natCast_emod, Int.natCast_ediv, Int.natCast_pow]
  rfl
theorem pow_lt (k : Nat) (hk : k < 8) : 2 ^ (8 * k + 7) < 18446744073709551616 := by
  rcases (by omega : k = 0 ∨ k = 1 ∨ k = 2 ∨ k = 3 ∨ k = 4 ∨ k = 5 ∨ k = 6 ∨ k = 7) with rfl | rfl | rfl | rfl | rfl | rfl | rfl | rfl <;> decide
theorem wrap_pow (k : Nat) (hk : k < 8) : IntKind.u64.wrap (2 ^ (8 * k + 7)) = ((2 ^ (8 * k + 7) : Nat) : Int) := by
  have h := pow_lt k hk
  have e : ((2 ^ (8 * k + 7) : Nat) : Int) = (2 : Int) ^ (8 * k + 7) := by rw [Int.natCast_pow]; rfl
  rw [← e, IntKind.wrap_u64]
  generalize 2 ^ (8 * k + 7) = n at *
  omega
theorem or_val (r k : Nat) (hk : k < 8) (hr : r < 2 ^ (8 * k)) : bits BinOp.or IntKind.u64 (r : Int) (IntKind.u64.wrap (2 ^ (8 * k + 7))) = ((r ||| 2 ^ (8 * k + 7) : Nat) : Int) := by
  rw [wrap_pow k hk]
  have h := pow_lt k hk
  have e : 2 ^ (8 * k) ≤ 2 ^ (8 * k + 7) := Nat.pow_le_pow_right (by decide) (by omega)
  exact u64_or_nat _ _ (by omega) h
set_option maxHeartbeats 400000 in
theorem model_any (T U : Nat) (hU : U < 256) (w : World) :
    Calls Yba.prog 7 #[.int .u64 T, .int .u8 U] w fun e w' => e = .returned (.int .u64 (PM.res (PM.xw T U) 8 : Nat)) ∧ w' = w := by
  have HX : Hid (∀ k, k < 8 → bits BinOp.xor IntKind.u8 ((T : Int) / 2 ^ (8 * k) % 256) (U : Int) = ((PM.xb (PM.xw T U) k : Nat) : Int)) := hide (fun k hk => xi_val T U k hU hk)
  generalize PM.xw T U = X at *
  go_enter Yba.func7, Yba.ntmps7
  go_wp2
  go_loop [5, 6, 7] (fun r b i => ∃ k : Nat, k ≤ 8 ∧ i = .int .i64 k ∧ b = .int .i64 (PM.bo X k : Nat) ∧ r = .int .u64 (PM.res X k : Nat)) (fun _ _ i => 8 - (intOf i).toNat)
  case atStart => exact ⟨0, by omega, rfl, rfl, rfl⟩
  case round =>
    obtain ⟨k, hk, rfl, rfl, rfl⟩ := hrel
    by_cases hlt : k < 8
    · have e1 := unhide HX k hlt
      clear HX
      have ha := PM.xb_lt X k
      have hb := PM.bo_le X k
      have e2 := i64_and255 (PM.xb X k) (PM.bo X k) ha hb
      have e3 := u8_and128 (PM.xb X k) ha
      have e4 := u8_and128 (PM.db X k) (PM.db_lt X k)
      have hd := PM.db_lt X k
      have hs : Hid (PM.bo X (k + 1) = if PM.xb X k < 1 + PM.bo X k then 1 else 0) := hide rfl
      have hr : Hid (PM.res X (k + 1) = if PM.hit X k = true then PM.res X k ||| 2 ^ (8 * k + 7) else PM.res X k) := hide rfl
      have hh : Hid (PM.hit X k = decide (128 ≤ PM.db X k ∧ PM.xb X k < 128)) := hide rfl
      rw [← PM.db] at e2
      generalize PM.xb X k = a at *
      generalize PM.bo X k = b at *
      generalize PM.db X k = d at *
      by_cases c1 : a < 1 + b <;> by_cases c2 : 128 ≤ d <;> by_cases c3 : a < 128
      all_goals
        simp only [c2] at e4
        first | (rw [if_pos (by omega)] at e3) | (rw [if_neg (by omega)] at e3)
        go_wp2
        all_goals
          refine ⟨⟨k + 1, by omega, by go_num, ?_, ?_⟩, by simp [intOf]; omega⟩
          · rw [hs.out]; first | (rw [if_pos c1]; rfl) | (rw [if_neg c1]; rfl)
          · rw [hr.out, hh.out]
            simp only [c2, c3, and_self, and_true, and_false, decide_true, decide_false, if_true]
            first | exact congrArg (Value.int IntKind.u64) (or_val _ k hlt (PM.res_lt X k)) | rfl
    · obtain rfl : k = 8 := by omega
      go_wp2
      go_ret
      exact ⟨rfl, rfl⟩
end Go.Proofs.Ybulkezms
