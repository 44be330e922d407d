import Derived.Test.YbulkfceeDoorWalksF
namespace Go.Proofs.YbulkfceeDoor
open Go.RowKit
set_option linter.unusedVariables false
theorem below_cell {w w' : World} {ev : Value} (hv : w.cell? ⟨0, 0, none⟩ = some ev) (hb : Below w.heap.size w w') : w'.cell? ⟨0, 0, none⟩ = some ev :=
  (hb.cell (p := ⟨0, 0, none⟩) (Lib.lt_of_cell hv)).trans hv
set_option maxHeartbeats 4000000 in
set_option maxRecDepth 100000 in
theorem law_long (s0 c0 : Int) (hA : Array Value) (a3 a4 : Option Addr) (len3 cap3 len4 cap4 : Nat) (w : World) (h3 : len3 ≤ 140737488355328) (h4 : len4 ≤ 140737488355328) (hl : 1048576 < len3 + len4) :
    Calls Ybad.prog 3 #[.int .u8 s0, .agg hA, .int .u8 c0, .slice a3 len3 cap3, .slice a4 len4 cap4] w fun e w' => e = .returned (.bool true) ∧ Below w.heap.size w w' := by

  go_enter Ybad.func3, Ybad.ntmps3
  go_wp2
  go_ret
  exact ⟨rfl, (Below.refl _ _).alloc (Nat.le_refl _) _⟩
set_option maxHeartbeats 4000000 in
set_option maxRecDepth 100000 in
theorem law_raw (s0 c0 : Int) (hA : Array Value) (a3 a4 : Option Addr) (len3 cap3 len4 cap4 : Nat) (bs4 : List UInt8) (w : World) (hl : len3 + len4 ≤ 1048576) (h4 : Sl w a4 len4 cap4 bs4)
    (hs0 : 0 ≤ s0) (hs1 : s0 ≤ 255) (hs : (s0 % 4 == 0) = true) (ev : Value) (hv : w.cell? ⟨0, 0, none⟩ = some ev) (hev : ev = .nilIface ∨ ∃ te pe, ev = .iface te pe) :
    Calls Ybad.prog 3 #[.int .u8 s0, .agg hA, .int .u8 c0, .slice a3 len3 cap3, .slice a4 len4 cap4] w fun e w' => e = .returned (.bool true) ∧ Below w.heap.size w w' := by
  obtain ⟨M, hM, hmk⟩ := make_run len4 (by omega)
  have hb0 : Below w.heap.size w (w.alloc (.cells hA 22)) := (Below.refl _ w).alloc (Nat.le_refl _) _
  have hz0 : (w.alloc (.cells hA 22)).heap.size = w.heap.size + 1 := by simp
  obtain ⟨W2, hcp, hsl2, hb2⟩ := copy_own (w.alloc (.cells hA 22)) a4 len4 cap4 bs4 (h4.kept hb0) M hM
  have HB : Hid (Below w.heap.size w W2) := Lib.hid (hb0.trans (hb2.mono (by omega)))
  have H4 := Lib.hid (h4.kept HB.out)
  have HV := Lib.hid (below_cell hv HB.out)
  rw [hz0] at hcp hsl2
  have H2 := Lib.hid hsl2
  clear h4 hsl2 hb2 hb0 hz0 hv hM
  go_enter Ybad.func3, Ybad.ntmps3
  go_wp2_with (go_at_call 4; refine (esc_any a4 len4 cap4 bs4 _ H4.out ev HV.out hev).mono ?_; rintro e w3 ⟨rfl, hb3⟩)
  have h2' := Lib.hid (Sl.kept H2.out hb3)
  have h4' := Lib.hid (Sl.kept H4.out hb3)
  refine (model_any _ len4 len4 bs4 _ h2'.out).mono ?_
  rintro e w4 ⟨rfl, rfl⟩
  go_wp2_with (go_at_call 6; refine (equal_same _ _ _ _ _ _ _ _ (conv_any _ _ _ _ _ h4'.out) (conv_any _ _ _ _ _ h2'.out)).mono ?_; rintro e w5 ⟨rfl, rfl⟩)
  go_ret
  exact ⟨rfl, HB.out.trans (hb3.mono HB.out.size)⟩
end Go.Proofs.YbulkfceeDoor
