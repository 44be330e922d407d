import Derived.Test.YbulkfceeDoorWalksA
import Derived.Laws.BitsAllLaws
namespace Go.Proofs.YbulkfceeDoor
open Go.RowKit
set_option maxHeartbeats 6400000 in
set_option maxRecDepth 100000 in
/-- strconv.syntaxError (after the shelf's): a pointer to a new block; of what was there nothing has turned. -/
theorem syntaxError_any (fn s : ByteArray) (ev : Value) (w : World) (hlim : s.size ≤ 281474976710656) (hv : w.cell? ⟨0, 0, none⟩ = some ev)
    (hev : ev = .nilIface ∨ ∃ te pe, ev = .iface te pe) :
    Calls Ybad.prog 13 #[.string fn, .string s] w fun e w' => ∃ N, e = .returned (.pointer (some ⟨N, 0, none⟩)) ∧ Below w.heap.size w w' := by
  rcases hev with rfl | ⟨te, pe, rfl⟩
  all_goals (
    have hG : 0 < w.heap.size := Lib.lt_of_cell hv
    have hvd : w.drew.cell? ⟨0, 0, none⟩ = some _ := hv
    go_enter Ybad.func13, Ybad.ntmps13
    go_wp2
    go_region_with (
        go_at_call 17
        refine (clone_any s _ hlim).mono ?_
        rintro e w2 ⟨rfl, hbel⟩
        have hv2 : w2.cell? ⟨0, 0, none⟩ = some _ := (hbel.cell (show (⟨0, 0, none⟩ : Addr).block < w.drew.heap.size from hG)).trans hvd)
    all_goals (
      go_wp2
      go_ret
      have hs2 : w.heap.size ≤ w2.heap.size := hbel.size
      exact ⟨_, rfl, ((Below.drew (Below.refl _ w)).trans hbel).alloc hs2 _⟩))
theorem eqlErr (W : World) : (binOp .eql 29 (.iface 34 (.int .i64 2)) (.iface 34 (.int .i64 2))).run Ybad.prog W = .ok (.bool true) W := by kernel_rfl
set_option maxHeartbeats 4000000 in
set_option maxRecDepth 100000 in
/-- strconv.toError at the inner package's ErrSyntax. -/
theorem toError_syntax (fn s : ByteArray) (base bits : Int) (ev : Value) (w : World) (hlim : s.size ≤ 281474976710656) (hv : w.cell? ⟨0, 0, none⟩ = some ev) (hev : ev = .nilIface ∨ ∃ te pe, ev = .iface te pe) :
    Calls Ybad.prog 10 #[.string fn, .string s, .int .i64 base, .int .i64 bits, .iface 34 (.int .i64 2)] w fun e w' => ∃ N, e = .returned (.iface 38 (.pointer (some ⟨N, 0, none⟩))) ∧ Below w.heap.size w w' := by
  have heq := eqlErr
  go_enter Ybad.func10, Ybad.ntmps10
  go_wp2_with (go_at_call 13; refine (syntaxError_any fn s ev _ hlim ?_ hev).mono ?_)
  · exact hv
  rintro e w2 ⟨N, rfl, h3⟩
  go_wp2
  go_ret
  exact ⟨N, rfl, h3⟩
theorem lower_any (c : Int) (w : World) : Calls Ybad.prog 11 #[.int .u8 c] w fun e w' => e = .returned (.int .u8 (bits .or .u8 c 32)) ∧ w' = w := by
  go_enter Ybad.func11, Ybad.ntmps11
  go_wp2
  go_ret
  exact ⟨rfl, rfl⟩
theorem lower_val (c : Nat) (hc : c < 256) : ∃ L : Nat, L < 256 ∧ bits .or .u8 (c : Int) 32 = (L : Int) ∧ (97 ≤ c → c ≤ 102 → L = c) ∧ (65 ≤ c → c ≤ 70 → L = c + 32) ∧ (97 ≤ L → L ≤ 102 → (97 ≤ c ∧ c ≤ 102) ∨ (65 ≤ c ∧ c ≤ 70)) := by
  have h := u8_or_nat c 32 hc (by decide)
  have d : ∀ c, c < 256 → (c ||| 32) < 256 ∧ (97 ≤ c → c ≤ 102 → (c ||| 32) = c) ∧ (65 ≤ c → c ≤ 70 → (c ||| 32) = c + 32) ∧ (97 ≤ (c ||| 32) → (c ||| 32) ≤ 102 → (97 ≤ c ∧ c ≤ 102) ∨ (65 ≤ c ∧ c ≤ 70)) := by decide +kernel
  obtain ⟨d1, d2, d3, d4⟩ := d c hc
  exact ⟨c ||| 32, d1, h, d2, d3, d4⟩
end Go.Proofs.YbulkfceeDoor
