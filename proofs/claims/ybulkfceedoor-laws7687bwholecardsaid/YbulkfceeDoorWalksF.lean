import Derived.Test.YbulkfceeDoorWalksE
import Derived.Laws.CopyRow
import Derived.Laws.CopyOwn
namespace Go.Proofs.YbulkfceeDoor
open Go.RowKit
set_option linter.unusedVariables false
/-- what the walk is told of a slice of bytes: its bytes; where it has an element, the row that it leads to -/
def Sl (w : World) (a : Option Addr) (len cap : Nat) (bs : List UInt8) : Prop :=
  bs.length = len ∧ len ≤ cap ∧ cap ≤ maxLen ∧ (0 < len → ∃ b off, a = some ⟨b, off, none⟩ ∧ ∀ i, i < len → w.cell? ⟨b, off + i, none⟩ = some (.int .u8 ((bs.getD i 0).toNat : Int)))
theorem Sl.kept {w w' : World} {a : Option Addr} {len cap : Nat} {bs : List UInt8} (h : Sl w a len cap bs) (hb : Below w.heap.size w w') : Sl w' a len cap bs := by
  obtain ⟨h1, h2, h3, h4⟩ := h
  refine ⟨h1, h2, h3, fun hp => ?_⟩
  obtain ⟨b, off, e, hc⟩ := h4 hp
  exact ⟨b, off, e, fun i hi => (hb.cell (p := ⟨b, off + i, none⟩) (Lib.lt_of_cell (hc i hi))).trans (hc i hi)⟩
theorem esc_any (a : Option Addr) (len cap : Nat) (bs : List UInt8) (w : World) (h : Sl w a len cap bs) (ev : Value) (hv : w.cell? ⟨0, 0, none⟩ = some ev) (hev : ev = .nilIface ∨ ∃ te pe, ev = .iface te pe) :
    Calls Ybad.prog 4 #[.slice a len cap] w fun e w' => e = .returned (.int .i32 (er bs)) ∧ Below w.heap.size w w' := by
  obtain ⟨h1, h2, h3, h4⟩ := h
  unfold er
  by_cases hl : len < 6
  · rw [if_pos (by omega)]
    exact esc_short a len cap w hl
  · rw [if_neg (by omega)]
    obtain ⟨b, off, rfl, hc⟩ := h4 (by omega)
    by_cases h01 : (bs.getD 0 0).toNat = 92 ∧ (bs.getD 1 0).toNat = 117
    · rw [if_pos h01]
      exact esc_hex b off len cap bs w ⟨h1, hc⟩ (by omega) h3 h2 h01.1 h01.2 ev hv hev
    · rw [if_neg h01]
      exact esc_other b off len cap bs w ⟨h1, hc⟩ (by omega) h3 h2 h01
theorem model_any (a : Option Addr) (len cap : Nat) (bs : List UInt8) (w : World) (h : Sl w a len cap bs) :
    Calls Ybad.prog 5 #[.slice a len cap] w fun e w' => e = .returned (.int .i32 (er bs)) ∧ w' = w := by
  obtain ⟨h1, h2, h3, h4⟩ := h
  unfold er
  by_cases hl : len < 6
  · rw [if_pos (by omega)]
    exact model_short a len cap w hl
  · rw [if_neg (by omega)]
    obtain ⟨b, off, rfl, hc⟩ := h4 (by omega)
    by_cases h01 : (bs.getD 0 0).toNat = 92 ∧ (bs.getD 1 0).toNat = 117
    · rw [if_pos h01]
      exact model_hex b off len cap bs w ⟨h1, hc⟩ (by omega) (Nat.le_trans h2 h3) h01.1 h01.2
    · rw [if_neg h01]
      exact model_other b off len cap bs w ⟨h1, hc⟩ (by omega) h01
def strB (bs : List UInt8) : ByteArray := strOfNums (bs.map fun c => (c.toNat : Int))
theorem conv_any (a : Option Addr) (len cap : Nat) (bs : List UInt8) (w : World) (h : Sl w a len cap bs) :
    (convert 23 9 (.slice a len cap)).run Ybad.prog w = .ok (.string (strB bs)) w := by
  obtain ⟨h1, h2, h3, h4⟩ := h
  by_cases hl : 0 < len
  · obtain ⟨b, off, rfl, hc⟩ := h4 hl
    refine run_convert_bytes_arg w 23 5 Ybad.underlying23 Ybad.underlying5 b off len cap _ (by rw [List.length_map, h1]) ?_ 9 Ybad.underlying9
    intro i hi
    rw [hc i hi]
    congr 2
    rw [List.getD_eq_getElem?_getD, List.getD_eq_getElem?_getD, List.getElem?_map, List.getElem?_eq_getElem (by omega)]
    simp
  · obtain rfl : len = 0 := by omega
    obtain rfl : bs = [] := List.eq_nil_of_length_eq_zero h1
    cases a with
    | none => exact run_convert_bytes_nil w 23 5 Ybad.underlying23 Ybad.underlying5 0 cap 9 Ybad.underlying9
    | some x =>
      have hl : (loadCells x 0).run Ybad.prog w = .ok ((([] : List Int).map (Value.int .u8)).toArray) w := by simpa using run_loadCells_list (P := Ybad.prog) w x [] (by simp)
      rw [run_convert_bytes_string w 23 9 5 _ 0 cap Ybad.underlying23 Ybad.underlying5 Ybad.underlying9, run_bytesToString w _ 0 cap [] hl, foldl_push_bytes]
      rfl
theorem size5 : (Ybad.prog.info? 5).map (·.size) = some 1 := by kernel_rfl
/-- 'copy(cp, s)', cp made for it -/
theorem copy_own (W : World) (a : Option Addr) (len cap : Nat) (bs : List UInt8) (h : Sl W a len cap bs) (M : Array Value) (hM : M.size = len) :
    ∃ W2, (Builtin.copy_ #[23, 23] 3 #[.slice (some ⟨W.heap.size, 0, none⟩) len len, .slice a len cap]).run Ybad.prog (W.alloc (.cells M 5)) = .ok (goInt len) W2 ∧ Sl W2 (some ⟨W.heap.size, 0, none⟩) len len bs ∧ Below W.heap.size W W2 := by
  have hb1 : Below W.heap.size W (W.alloc (.cells M 5)) := (Below.refl _ W).alloc (Nat.le_refl _) _
  have hK := h.kept hb1
  obtain ⟨h1, h2, h3, h4⟩ := hK
  by_cases hl : 0 < len
  · obtain ⟨b, off, rfl, hc⟩ := h4 hl
    have hn : (Lib.byteCells bs).length = Nat.min len len := by rw [Lib.byteCells_length, h1]; simp
    have hcp := run_copy_row (P := Ybad.prog) (W.alloc (.cells M 5)) 23 23 3 5 W.heap.size 0 len len ⟨b, off, none⟩ len cap M 5 (Lib.byteCells bs) Ybad.underlying23 size5 (heap_alloc_new W _) hn
      (fun j v hj => by
        have hjl : j < bs.length := by
          have := (List.getElem?_eq_some_iff.1 hj).1
          rwa [Lib.byteCells_length] at this
        have e : (⟨b, off, none⟩ : Addr).add j = ⟨b, off + j, none⟩ := by unfold Addr.add; split <;> simp_all
        rw [e, hc j (by omega)]
        rw [List.getD_eq_getElem?_getD, List.getElem?_eq_getElem hjl]
        simpa [Lib.byteCells, List.getElem?_eq_getElem hjl] using hj)
      (by rw [Lib.byteCells_length]; omega) (Lib.byteCells_one bs)
    rw [Lib.byteCells_length, h1] at hcp
    obtain ⟨Y, hY⟩ : ∃ Y, Y = (M.toList.take 0 ++ Lib.byteCells bs ++ M.toList.drop (0 + len)).toArray := ⟨_, rfl⟩
    rw [← hY] at hcp
    have hYl : Y.toList = Lib.byteCells bs := by
      rw [hY, List.toList_toArray, List.take_zero, List.nil_append, List.drop_of_length_le (by rw [Array.length_toList]; omega), List.append_nil]
    have hYs : Y.size = len := by rw [← Array.length_toList, hYl, Lib.byteCells_length, h1]
    have hgY : ((W.alloc (.cells M 5)).setRow W.heap.size Y).heap[W.heap.size]? = some (.cells Y 5 (0, 0)) := setRow_heap _ _ M _ 5 (0, 0) (heap_alloc_new W _)
    have hb2 : Below W.heap.size (W.alloc (.cells M 5)) ((W.alloc (.cells M 5)).setRow W.heap.size Y) := ⟨rfl, rfl, rfl, by simp, fun k hk => setRow_other _ _ _ _ (by omega)⟩
    refine ⟨_, hcp, ⟨h1, Nat.le_refl _, Nat.le_trans h2 h3, fun _ => ⟨W.heap.size, 0, rfl, fun i hi => ?_⟩⟩, hb1.trans hb2⟩
    have hx : bs[i]? = some (bs[i]'(by omega)) := List.getElem?_eq_getElem (by omega)
    have := Lib.cells_of_row hgY Y.size i (.int .u8 ((bs[i]'(by omega)).toNat : Int)) (by rw [List.take_of_length_le (by rw [Array.length_toList]; exact Nat.le_refl _), hYl]; simp [Lib.byteCells, hx])
    have e : (⟨W.heap.size, 0, none⟩ : Addr).add i = ⟨W.heap.size, 0 + i, none⟩ := by unfold Addr.add; split <;> simp_all
    rw [e] at this
    rw [this, List.getD_eq_getElem?_getD, hx]
    rfl
  · obtain rfl : len = 0 := by omega
    refine ⟨_, run_copy_none (P := Ybad.prog) (W.alloc (.cells M 5)) 23 23 3 5 _ _ 0 0 0 cap Ybad.underlying23 size5 rfl, ⟨h1, Nat.le_refl _, by unfold maxLen; omega, fun hp => absurd hp (by omega)⟩, hb1⟩
/-- 'make([]byte, n)' -/
theorem make_run (n : Nat) (hn : n ≤ 281474976710656) : ∃ M : Array Value, M.size = n ∧ ∀ W : World, (Instr.makeSlice 23 (.int .i64 (n : Int)) (.int .i64 (n : Int))).run Ybad.prog W = .ok (.slice (some ⟨W.heap.size, 0, none⟩) n n) (W.alloc (.cells M 5)) := by
  obtain ⟨i0, hi, hz0, hz1, hz2⟩ := info5_parts
  refine ⟨madeCells (Value.int .u8 0).cells (((n : Nat) : Int).toNat * i0.size), by rw [size_madeCells, hz1]; simp, fun W => ?_⟩
  have h := run_make (P := Ybad.prog) W 23 5 i0 (.int .u8 0) Ybad.underlying23 hi hz0 .i64 .i64 (n : Int) (n : Int) (by omega) (by omega) (by rw [hz2]; omega) (by omega)
  simpa using h
/-- 'make([]byte, 0, n)' -/
theorem make0_run (n : Nat) (hn : n ≤ 281474976710656) : ∃ M : Array Value, M.size = n ∧ ∀ W : World, (Instr.makeSlice 23 (.int .i64 0) (.int .i64 (n : Int))).run Ybad.prog W = .ok (.slice (some ⟨W.heap.size, 0, none⟩) 0 n) (W.alloc (.cells M 5)) := by
  obtain ⟨i0, hi, hz0, hz1, hz2⟩ := info5_parts
  refine ⟨madeCells (Value.int .u8 0).cells (((n : Nat) : Int).toNat * i0.size), by rw [size_madeCells, hz1]; simp, fun W => ?_⟩
  have h := run_make (P := Ybad.prog) W 23 5 i0 (.int .u8 0) Ybad.underlying23 hi hz0 .i64 .i64 0 (n : Int) (by omega) (by omega) (by rw [hz2]; omega) (by omega)
  simpa using h
end Go.Proofs.YbulkfceeDoor
