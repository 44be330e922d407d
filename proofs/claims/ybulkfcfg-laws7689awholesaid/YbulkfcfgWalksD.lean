import Derived.Test.YbulkfcfgWalksC
import Derived.Laws.MakeOwn
import Derived.Laws.CopyRow
import Derived.Laws.CopyOwn
namespace Go.Proofs.Ybulkfcfg
open Go.RowKit
set_option linter.unusedVariables false
/-- the first loop behind k rounds -/
structure L1 (w Wk : World) (n k : Nat) (zs : List Int) (wv : Value) (cur : Array Value) : Prop where
  blk : Wk.heap[w.heap.size]? = some (.cells cur 24 (0, 0))
  size : cur.size = n + 1
  rows : ∀ j, j < k → cur[j]? = some (.int .u32 (PA.st zs j))
  own : Wk.ownsRow (w.heap.size + 1) 24 1 wv (PA.wn zs k).length (ucells (PA.wn zs k))
  nil : wv = .slice none 0 0 ↔ PA.wn zs k = []
  bel : Below w.heap.size w Wk
theorem L1.cellAt {w Wk : World} {n k : Nat} {zs : List Int} {wv : Value} {cur : Array Value} (h : L1 w Wk n k zs wv cur) (hk : k ≤ n) : ∃ y, Wk.cell? ⟨w.heap.size, k, none⟩ = some y :=
  ⟨cur[k]'(by rw [h.size]; omega), by rw [cell_of h.blk, Array.getElem?_eq_getElem]⟩
theorem L1.store {w Wk : World} {n k : Nat} {zs : List Int} {wv : Value} {cur : Array Value} (h : L1 w Wk n k zs wv cur) (hk : k ≤ n) (v : Value) (hv : v = .int .u32 (PA.st zs k)) :
    (Wk.setCell ⟨w.heap.size, k, none⟩ v).heap[w.heap.size]? = some (.cells (cur.setIfInBounds k v) 24 (0, 0)) ∧ (cur.setIfInBounds k v).size = n + 1 ∧ (∀ j, j < k + 1 → (cur.setIfInBounds k v)[j]? = some (.int .u32 (PA.st zs j))) ∧
    (Wk.setCell ⟨w.heap.size, k, none⟩ v).ownsRow (w.heap.size + 1) 24 1 wv (PA.wn zs k).length (ucells (PA.wn zs k)) ∧ Below w.heap.size w (Wk.setCell ⟨w.heap.size, k, none⟩ v) := by
  refine ⟨heap_setCell_same Wk _ k cur 24 v h.blk, by simpa using h.size, ?_, ownsRow_setCell_below h.own (by simp) v, h.bel.setCell (by simp) v⟩
  intro j hj
  by_cases e : j = k
  · subst e
    rw [Array.getElem?_setIfInBounds_self_of_lt (by rw [h.size]; omega), hv]
  · rw [Array.getElem?_setIfInBounds_ne (by omega)]
    exact h.rows j (by omega)
theorem L1.no {w Wk : World} {n k : Nat} {zs : List Int} {wv : Value} {cur : Array Value} (h : L1 w Wk n k zs wv cur) (hk : k < n) (v : Value) (hv : v = .int .u32 (PA.st zs k)) (hw : PA.wn zs (k + 1) = PA.wn zs k) :
    L1 w (Wk.setCell ⟨w.heap.size, k, none⟩ v) n (k + 1) zs wv (cur.setIfInBounds k v) := by
  obtain ⟨h1, h2, h3, h4, h5⟩ := h.store (by omega) v hv
  exact ⟨h1, h2, h3, by rw [hw]; exact h4, by rw [hw]; exact h.nil, h5⟩
theorem L1.yes {w Wk W3 : World} {n k : Nat} {zs : List Int} {wv v3 : Value} {cur : Array Value} (h : L1 w Wk n k zs wv cur) (hk : k < n) (v : Value) (hv : v = .int .u32 (PA.st zs k)) (hw : PA.wn zs (k + 1) = PA.wn zs k ++ [k])
    (hg : ((Wk.setCell ⟨w.heap.size, k, none⟩ v).alloc (.cells #[.int .u32 (k : Int)] 24)).grownBy W3 wv.ownBlock) (hown : W3.ownsRow (w.heap.size + 1) 24 1 v3 ((PA.wn zs k).length + 1) (ucells (PA.wn zs k) ++ [.int .u32 (k : Int)]))
    (hnil : v3 = .slice none 0 0 ↔ wv = .slice none 0 0 ∧ 1 = 0) :
    L1 w W3 n (k + 1) zs v3 (cur.setIfInBounds k v) := by
  obtain ⟨h1, h2, h3, h4, h5⟩ := h.store (by omega) v hv
  have hlt := lt_of_block h1
  have hlt' := lt_of_block h.blk
  have hrow : ∀ q, wv.ownBlock = some q → w.heap.size + 1 ≤ q := fun q hq => (h4.lt q hq).1
  refine ⟨?_, h2, h3, ?_, ?_, (h5.alloc (by omega) _).grown hg (by simp; omega) (fun q hq => by have := hrow q hq; omega)⟩
  · rw [hg.block _ (by simp; omega) (fun e => by have := hrow _ e.symm; omega), Below.heap_alloc _ _ _ hlt]
    exact h1
  · rw [hw, List.length_append]
    simpa [ucells] using hown
  · rw [hw]
    constructor
    · intro e
      have := (hnil.1 e).2
      cases this
    · intro e
      simp at e
/-- 'make([]uint32, m)' -/
theorem make24 (m : Nat) (hm : m ≤ 1000000) : ∃ M : Array Value, M.size = m ∧ ∀ W : World, (Instr.makeSlice 23 (.int .i64 (m : Int)) (.int .i64 (m : Int))).run Yba.prog W = .ok (.slice (some ⟨W.heap.size, 0, none⟩) m m) (W.alloc (.cells M 24)) := by
  obtain ⟨i0, hi, hz0, hz1, hz2⟩ := info24_parts
  refine ⟨madeCells (Value.int .u32 0).cells (((m : Nat) : Int).toNat * i0.size), by rw [size_madeCells, hz1]; simp, fun W => ?_⟩
  have h := run_make (P := Yba.prog) W 23 24 i0 (.int .u32 0) Yba.underlying23 hi hz0 .i64 .i64 (m : Int) (m : Int) (by omega) (by omega) (by rw [hz2]; omega) (by omega)
  simpa using h
theorem info111 : (Yba.prog.info? 111).map (fun i => (i.zero.isSome, i.size, i.bytes)) = some (true, 1, 8) := by kernel_rfl
theorem make111 (m : Int) (h0 : 0 ≤ m) (hm : m ≤ 1000000) : ∃ M : Array Value, ∀ W : World, (Instr.makeSlice 25 (.int .i64 m) (.int .i64 m)).run Yba.prog W = .ok (.slice (some ⟨W.heap.size, 0, none⟩) m.toNat m.toNat) (W.alloc (.cells M 111)) := by
  have h := info111
  cases e : Yba.prog.info? 111 with
  | none => rw [e] at h; cases h
  | some i =>
    rw [e] at h
    have h' := Option.some.inj h
    have z1 : i.zero.isSome = true := congrArg (·.1) h'
    have z3 : i.bytes = 8 := congrArg (·.2.2) h'
    obtain ⟨z, hz⟩ := Option.isSome_iff_exists.1 z1
    exact ⟨_, fun W => run_make (P := Yba.prog) W 25 111 i z Yba.underlying25 e hz .i64 .i64 m m h0 (by omega) (by rw [z3]; omega) (by omega)⟩
/-- the start page: a copy of the starts -/
theorem copy24 (W : World) (sb n : Nat) (zs : List Int) (cur M : Array Value) (hb : W.heap[sb]? = some (.cells cur 24 (0, 0))) (hs : cur.size = n + 1) (hr : ∀ j, j < n + 1 → cur[j]? = some (.int .u32 (PA.st zs j))) (hM : M.size = n + 1) :
    ∃ W4, (Builtin.copy_ #[23, 23] 3 #[.slice (some ⟨W.heap.size, 0, none⟩) (n + 1) (n + 1), .slice (some ⟨sb, 0, none⟩) (n + 1) (n + 1)]).run Yba.prog (W.alloc (.cells M 24)) = .ok (goInt ((n + 1 : Nat) : Int)) W4 ∧
      (∃ Y, W4.heap[W.heap.size]? = some (.cells Y 24 (0, 0)) ∧ ∀ j, j < n + 1 → Y[j]? = some (.int .u32 (PA.st zs j))) ∧ Below W.heap.size W W4 ∧ W4.heap.size = W.heap.size + 1 := by
  have hlt := lt_of_block hb
  have hbA : (W.alloc (.cells M 24)).heap[sb]? = some (.cells cur 24 (0, 0)) := (Below.heap_alloc W _ sb hlt).trans hb
  have hone : ∀ v ∈ cur.toList, v.oneCell' = true := by
    intro v hv
    obtain ⟨j, hj, rfl⟩ := List.getElem_of_mem hv
    have hj' : j < cur.size := by simpa using hj
    have := hr j (by omega)
    rw [Array.getElem?_eq_getElem hj'] at this
    simp at this
    rw [Array.getElem_toList, this]
    rfl
  have hcp := run_copy_row (P := Yba.prog) (W.alloc (.cells M 24)) 23 23 3 24 W.heap.size 0 (n + 1) (n + 1) ⟨sb, 0, none⟩ (n + 1) (n + 1) M 24 cur.toList Yba.underlying23 (by kernel_rfl) (heap_alloc_new W _) (by simp [hs])
    (fun j v hj => by
      have e : (⟨sb, 0, none⟩ : Addr).add j = ⟨sb, 0 + j, none⟩ := by unfold Addr.add; split <;> simp_all
      rw [e, cell_of hbA, Nat.zero_add]
      simpa using hj)
    (by simp [hs, hM]) hone
  refine ⟨_, by simpa [hs] using hcp, ⟨_, setRow_heap _ _ M _ 24 (0, 0) (heap_alloc_new W _), ?_⟩, ?_, by simp [World.setRow]⟩
  · intro j hj
    rw [← hr j hj]
    have hM' : M.toList.drop (n + 1) = [] := List.drop_eq_nil_of_le (by simp [hM])
    rw [hM']
    simp
  · have hb1 : Below W.heap.size W (W.alloc (.cells M 24)) := (Below.refl _ W).alloc (Nat.le_refl _) _
    exact hb1.trans ⟨rfl, rfl, rfl, by simp [World.setRow], fun k hk => setRow_other _ _ _ _ (by omega)⟩
theorem grown_below {w w' : World} (h : Below w.heap.size w w') (row : Option Nat) : w.grownBy w' row := ⟨h.os, h.tape, h.output, h.size, fun k hk _ => h.block k hk⟩
/-- what is known once the starts and their copy stand -/
structure Lend (w W4 : World) (n : Nat) (zs : List Int) (wv : Value) (pB : Nat) : Prop where
  starts : ∀ j, j ≤ n → W4.cell? ⟨w.heap.size, j, none⟩ = some (.int .u32 (PA.st zs j))
  page : ∀ j, j ≤ n → W4.cell? ⟨pB, j, none⟩ = some (.int .u32 (PA.st zs j))
  own : W4.ownsRow (w.heap.size + 1) 24 1 wv (PA.wn zs n).length (ucells (PA.wn zs n))
  nil : wv = .slice none 0 0 ↔ PA.wn zs n = []
  bel : Below w.heap.size w W4
  lt1 : w.heap.size < W4.heap.size
  lt2 : pB < W4.heap.size
theorem L1.done {w Wk : World} {n : Nat} {zs : List Int} {wv : Value} {cur : Array Value} (h : L1 w Wk n n zs wv cur) (M : Array Value) (hM : M.size = n + 1) :
    ∃ W4, (Builtin.copy_ #[23, 23] 3 #[.slice (some ⟨Wk.heap.size, 0, none⟩) (n + 1) (n + 1), .slice (some ⟨w.heap.size, 0, none⟩) (n + 1) (n + 1)]).run Yba.prog ((Wk.setCell ⟨w.heap.size, n, none⟩ (.int .u32 (PA.st zs n))).alloc (.cells M 24)) = .ok (goInt ((n + 1 : Nat) : Int)) W4 ∧
      Lend w W4 n zs wv Wk.heap.size := by
  obtain ⟨b1, b2, b3, b4, b5⟩ := h.store (Nat.le_refl _) _ rfl
  obtain ⟨W4, hcp, ⟨Y, y1, y2⟩, bel4, sz4⟩ := copy24 _ w.heap.size n zs _ M b1 b2 b3 hM
  have hzz : (Wk.setCell ⟨w.heap.size, n, none⟩ (.int .u32 (PA.st zs n))).heap.size = Wk.heap.size := by simp [World.setCell]
  have hlt := lt_of_block b1
  have hb4 : Below w.heap.size w W4 := b5.trans (bel4.mono (by omega))
  have hs4 : W4.heap[w.heap.size]? = _ := (bel4.block w.heap.size hlt).trans b1
  rw [hzz] at hcp y1
  exact ⟨W4, hcp, fun j hj => (cell_of hs4).trans (b3 j (by omega)), fun j hj => (cell_of y1).trans (y2 j (by omega)), b4.kept (grown_below bel4 none) (by
    cases e : wv.ownBlock with
    | none => exact Or.inl rfl
    | some g => exact Or.inr (by simp)), h.nil, hb4, by omega, by omega⟩
end Go.Proofs.Ybulkfcfg
