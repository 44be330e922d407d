import Derived.Test.YbulkfcfgProg
import Derived.Test.YbulkfcfgPlainA
import Derived.Lib.Walk
import Derived.Lib.Hide
import Derived.WalkKit
import Derived.WalkSpells
import Derived.Below
import Derived.Laws.BitsAllLaws
namespace Go.Proofs.Ybulkfcfg
open Go.RowKit
set_option linter.unusedVariables false
theorem ret_int {k : IntKind} {a b : Int} (h : a = b) : Ending.returned (.int k a) = .returned (.int k b) := by rw [h]
theorem i64_and_mask (r : Nat) (h : r < 65536) : bits BinOp.and IntKind.i64 (r : Int) 65535 = (r : Int) := by
  have h1 : (BitVec.ofInt 64 (r : Int)).toNat = r := by
    rw [BitVec.ofInt_natCast, BitVec.toNat_ofNat]; exact Nat.mod_eq_of_lt (by omega)
  have h2 : (BitVec.ofInt 64 (65535 : Int)).toNat = 65535 := by decide
  show IntKind.i64.wrap ((BitVec.ofInt 64 (r : Int) &&& BitVec.ofInt 64 65535).toNat : Int) = _
  rw [BitVec.toNat_and, h1, h2, show (65535 : Nat) = 2 ^ 16 - 1 from rfl, Nat.and_two_pow_sub_one_eq_mod, Nat.mod_eq_of_lt (by omega)]
  rw [IntKind.wrap_i64]
  omega
theorem fewOf_any (n : Nat) (hn : n ≤ 16384) (w : World) : Calls Yba.prog 17 #[.int .i64 (n : Int)] w fun e w' => e = .returned (.int .i64 ((max 8 (n / 64) : Nat) : Int)) ∧ w' = w := by
  go_enter Yba.func17, Yba.ntmps17
  go_wp2
  go_ret
  exact ⟨ret_int (by omega), rfl⟩
theorem plen_any (b off : Nat) (x : Int) (w : World) (hc : w.cell? ⟨b, off + 1, none⟩ = some (.int .i64 x)) : Calls Yba.prog 18 #[.pointer (some ⟨b, off, none⟩)] w fun e w' => e = .returned (.int .i64 x) ∧ w' = w := by
  go_enter Yba.func18, Yba.ntmps18
  go_wp2
  go_ret
  exact ⟨rfl, rfl⟩
theorem at_any (b off pb sb n r : Nat) (x : Int) (w : World) (hn : n ≤ 16384) (hr : r ≤ n) (hc : w.cell? ⟨b, off, none⟩ = some (.slice (some ⟨pb, 0, none⟩) 1 1)) (hp : w.cell? ⟨pb, 0, none⟩ = some (.slice (some ⟨sb, 0, none⟩) (n + 1) (n + 1)))
    (hs : w.cell? ⟨sb, r, none⟩ = some (.int .u32 x)) : Calls Yba.prog 19 #[.pointer (some ⟨b, off, none⟩), .int .i64 (r : Int)] w fun e w' => e = .returned (.int .u32 x) ∧ w' = w := by
  have h1 : (r : Int) / 65536 = 0 := by omega
  have h2 := i64_and_mask r (by omega)
  go_enter Yba.func19, Yba.ntmps19
  go_wp2
  go_ret
  exact ⟨rfl, rfl⟩
theorem at_any' (b off pb sb n r : Nat) (ri x : Int) (w : World) (hri : ri = (r : Int)) (hn : n ≤ 16384) (hr : r ≤ n) (hc : w.cell? ⟨b, off, none⟩ = some (.slice (some ⟨pb, 0, none⟩) 1 1)) (hp : w.cell? ⟨pb, 0, none⟩ = some (.slice (some ⟨sb, 0, none⟩) (n + 1) (n + 1)))
    (hs : w.cell? ⟨sb, r, none⟩ = some (.int .u32 x)) : Calls Yba.prog 19 #[.pointer (some ⟨b, off, none⟩), .int .i64 ri] w fun e w' => e = .returned (.int .u32 x) ∧ w' = w := by
  subst hri
  exact at_any b off pb sb n r x w hn hr hc hp hs
end Go.Proofs.Ybulkfcfg
