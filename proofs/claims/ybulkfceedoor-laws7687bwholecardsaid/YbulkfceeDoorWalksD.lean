import Derived.Test.YbulkfceeDoorWalksC
import Derived.Laws.BytesArg
namespace Go.Proofs.YbulkfceeDoor
open Go.RowKit
set_option linter.unusedVariables false
set_option maxHeartbeats 4000000 in
set_option maxRecDepth 100000 in
theorem pu_yes (t : ByteArray) (ht : t.size = 4) (w : World) (h : 0 ≤ hexOf 0 t.data.toList) :
    Calls Ybad.prog 7 #[.string t, .int .i64 16, .int .i64 16] w fun e w' => e = .returned (.tuple #[.int .u64 (hexOf 0 t.data.toList), .nilIface]) ∧ Below w.heap.size w w' := by
  have hT : puTuple (hexOf 0 t.data.toList) = .tuple #[.int .u64 (hexOf 0 t.data.toList), .nilIface] := by unfold puTuple; rw [if_neg (by omega)]
  have h9 : ∀ w, Calls Ybad.prog 9 #[.string t, .int .i64 16, .int .i64 16] w fun e w' => e = .returned (.tuple #[.int .u64 (hexOf 0 t.data.toList), .nilIface]) ∧ Below w.heap.size w w' := fun w => (pu_inner t ht w).mono (by
    rintro e w' ⟨rfl, rfl⟩
    exact ⟨by rw [hT], Lib.bytesWorld_below w 5 t⟩)
  have H9 := Lib.hid h9
  clear h9 hT
  generalize hexOf 0 t.data.toList = n at *
  go_enter Ybad.func7, Ybad.ntmps7
  go_wp2_with (go_at_call 9; refine (H9.out _).mono ?_; rintro e w' ⟨rfl, hbel⟩)
  go_ret2
  exact ⟨rfl, hbel⟩
set_option maxHeartbeats 4000000 in
set_option maxRecDepth 100000 in
theorem pu_no (t : ByteArray) (ht : t.size = 4) (w : World) (h : hexOf 0 t.data.toList < 0) (ev : Value) (hv : w.cell? ⟨0, 0, none⟩ = some ev) (hev : ev = .nilIface ∨ ∃ te pe, ev = .iface te pe) :
    Calls Ybad.prog 7 #[.string t, .int .i64 16, .int .i64 16] w fun e w' => (∃ N, e = .returned (.tuple #[.int .u64 0, .iface 38 (.pointer (some ⟨N, 0, none⟩))])) ∧ Below w.heap.size w w' := by
  have hT : puTuple (hexOf 0 t.data.toList) = .tuple #[.int .u64 0, .iface 34 (.int .i64 2)] := by unfold puTuple; rw [if_pos h]
  have h9 : ∀ w, Calls Ybad.prog 9 #[.string t, .int .i64 16, .int .i64 16] w fun e w' => e = .returned (.tuple #[.int .u64 0, .iface 34 (.int .i64 2)]) ∧ Below w.heap.size w w' := fun w => (pu_inner t ht w).mono (by
    rintro e w' ⟨rfl, rfl⟩
    exact ⟨by rw [hT], Lib.bytesWorld_below w 5 t⟩)
  have H9 := Lib.hid h9
  clear h9 hT
  go_enter Ybad.func7, Ybad.ntmps7
  go_wp2_with (go_at_call 9; refine (H9.out _).mono ?_; rintro e w1 ⟨rfl, hbel⟩)
  have hv1 : w1.cell? ⟨0, 0, none⟩ = some ev := (hbel.cell (show (⟨0, 0, none⟩ : Addr).block < w.heap.size from Lib.lt_of_cell hv)).trans hv
  have HV := Lib.hid hv1
  clear hv1 hv
  go_wp2_with (go_at_call 10; refine (toError_syntax _ t _ _ ev _ (by omega) HV.out hev).mono ?_; rintro e w2 ⟨N, rfl, hbel2⟩)
  go_ret2
  exact ⟨⟨N, rfl⟩, hbel.trans (hbel2.mono hbel.size)⟩
theorem strOfNums_bytes (l : List UInt8) : (strOfNums (l.map fun c => (c.toNat : Int))).data.toList = l := by
  rw [strOfNums_data, List.map_map]
  conv => rhs; rw [← List.map_id l]
  apply List.map_congr_left
  intro c _
  show UInt8.ofNat ((c.toNat : Int)).toNat = c
  simp
/-- what the walk is told of a slice of bytes: the bytes of its cells -/
def HoldsBytes (w : World) (b off len : Nat) (bs : List UInt8) : Prop := bs.length = len ∧ ∀ i, i < len → w.cell? ⟨b, off + i, none⟩ = some (.int .u8 ((bs.getD i 0).toNat : Int))
set_option maxHeartbeats 4000000 in
set_option maxRecDepth 100000 in
theorem esc_short (a : Option Addr) (len cap : Nat) (w : World) (h : len < 6) :
    Calls Ybad.prog 4 #[.slice a len cap] w fun e w' => e = .returned (.int .i32 (-1)) ∧ Below w.heap.size w w' := by
  go_enter Ybad.func4, Ybad.ntmps4
  go_wp2
  go_ret
  exact ⟨rfl, Below.refl _ _⟩
set_option maxHeartbeats 4000000 in
set_option maxRecDepth 100000 in
theorem esc_other (b off len cap : Nat) (bs : List UInt8) (w : World) (hB : HoldsBytes w b off len bs) (h : 6 ≤ len) (hm : cap ≤ maxLen) (hlc : len ≤ cap) (h01 : ¬ ((bs.getD 0 0).toNat = 92 ∧ (bs.getD 1 0).toNat = 117)) :
    Calls Ybad.prog 4 #[.slice (some ⟨b, off, none⟩) len cap] w fun e w' => e = .returned (.int .i32 (-1)) ∧ Below w.heap.size w w' := by
  unfold maxLen at hm
  have c0 := hB.2 0 (by omega)
  have c1 := hB.2 1 (by omega)
  rw [Nat.add_zero] at c0
  clear hB
  generalize (bs.getD 0 0).toNat = x at *
  generalize (bs.getD 1 0).toNat = y at *
  by_cases e0 : x = 92
  · have d0 : ((x : Int) != 92) = false := by rw [e0]; rfl
    have d1 : ((y : Int) != 117) = true := by rw [bne_iff_ne]; omega
    clear h01 e0
    go_enter Ybad.func4, Ybad.ntmps4
    go_wp2
    go_ret
    exact ⟨rfl, Below.refl _ _⟩
  · have d0 : ((x : Int) != 92) = true := by rw [bne_iff_ne]; omega
    clear h01 e0
    go_enter Ybad.func4, Ybad.ntmps4
    go_wp2
    go_ret
    exact ⟨rfl, Below.refl _ _⟩
theorem hexOf_lt (l : List UInt8) (h : l.length = 4) : hexOf 0 l < 65536 := by
  have := (hexOf_range l 0 (by omega)).2
  rw [h] at this
  simpa using this
/-- 'string(s[2:6])', for the walk to take -/
theorem conv_run (b off len cap : Nat) (bs : List UInt8) (w : World) (hB : HoldsBytes w b off len bs) (h : 6 ≤ len) :
    (convert 23 9 (.slice (some ⟨b, off + 2, none⟩) 4 (cap - 2))).run Ybad.prog w = .ok (.string (strOfNums (((bs.drop 2).take 4).map fun c => (c.toNat : Int)))) w := by
  have hl : ((bs.drop 2).take 4).length = 4 := by rw [List.length_take, List.length_drop, hB.1]; omega
  refine run_convert_bytes_arg w 23 5 Ybad.underlying23 Ybad.underlying5 b (off + 2) 4 (cap - 2) _ (by rw [List.length_map, hl]) ?_ 9 Ybad.underlying9
  intro i hi
  have := hB.2 (2 + i) (by omega)
  rw [← Nat.add_assoc] at this
  rw [this]
  congr 2
  have e : bs[2 + i]? = ((bs.drop 2).take 4)[i]? := by rw [List.getElem?_take, List.getElem?_drop]; simp [hi]
  rw [List.getD_eq_getElem?_getD, List.getD_eq_getElem?_getD, e, List.getElem?_map, List.getElem?_eq_getElem (by omega)]
  simp
set_option maxHeartbeats 4000000 in
set_option maxRecDepth 100000 in
theorem esc_hex (b off len cap : Nat) (bs : List UInt8) (w : World) (hB : HoldsBytes w b off len bs) (h : 6 ≤ len) (hm : cap ≤ maxLen) (hlc : len ≤ cap) (h0 : (bs.getD 0 0).toNat = 92) (h1 : (bs.getD 1 0).toNat = 117)
    (ev : Value) (hv : w.cell? ⟨0, 0, none⟩ = some ev) (hev : ev = .nilIface ∨ ∃ te pe, ev = .iface te pe) :
    Calls Ybad.prog 4 #[.slice (some ⟨b, off, none⟩) len cap] w fun e w' => e = .returned (.int .i32 (hexOf 0 ((bs.drop 2).take 4))) ∧ Below w.heap.size w w' := by
  unfold maxLen at hm
  have c0 := hB.2 0 (by omega)
  have c1 := hB.2 1 (by omega)
  rw [Nat.add_zero, h0] at c0
  rw [h1] at c1
  have hcv := conv_run b off len cap bs w hB h
  have hl : ((bs.drop 2).take 4).length = 4 := by rw [List.length_take, List.length_drop, hB.1]; omega
  have hd := strOfNums_bytes ((bs.drop 2).take 4)
  have hs : (strOfNums (((bs.drop 2).take 4).map fun c => (c.toNat : Int))).size = 4 := by rw [strOfNums_size, List.length_map, hl]
  have hlt := hexOf_lt _ hl
  have hge := (hexOf_range ((bs.drop 2).take 4) 0 (by omega)).1
  clear hB h0 h1
  generalize (bs.drop 2).take 4 = l at *
  generalize strOfNums (l.map fun c => (c.toNat : Int)) = t at *
  subst hd
  by_cases hn : hexOf 0 t.data.toList < 0
  · have h7 := Lib.hid (fun w => pu_no t hs w hn ev)
    have he : hexOf 0 t.data.toList = -1 := by omega
    rw [he]
    have HV := Lib.hid hv
    clear hv he hn hlt hge
    go_enter Ybad.func4, Ybad.ntmps4
    go_wp2_with (go_at_call 7; refine (h7.out _ HV.out hev).mono ?_; rintro e w1 ⟨⟨N, rfl⟩, hbel⟩)
    go_ret
    exact ⟨rfl, hbel⟩
  · have h7 := Lib.hid (fun w => pu_yes t hs w (by omega))
    have hge' : 0 ≤ hexOf 0 t.data.toList := by omega
    generalize hexOf 0 t.data.toList = n at *
    clear hn hge
    go_enter Ybad.func4, Ybad.ntmps4
    go_wp2_with (go_at_call 7; refine (h7.out _).mono ?_; rintro e w1 ⟨rfl, hbel⟩)
    go_ret
    exact ⟨rfl, hbel⟩
end Go.Proofs.YbulkfceeDoor
