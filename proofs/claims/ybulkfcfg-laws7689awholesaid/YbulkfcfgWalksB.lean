import Derived.Test.YbulkfcfgWalksA
import Derived.WalkSmall
import Derived.OwnWalk
import Derived.Laws.Rows
import Derived.Laws.AppendOwn
import Derived.Maps.AppendAt
import Derived.Deep.QuietTactic
import Derived.BigQuiet
namespace Go.Proofs.Ybulkfcfg
open Go.RowKit
set_option linter.unusedVariables false
theorem cell_of {W : World} {b o : Nat} {C : Array Value} {t : TypeId} {fr : Nat × Nat} (h : W.heap[b]? = some (.cells C t fr)) : W.cell? ⟨b, o, none⟩ = C[o]? := by
  unfold World.cell?
  rw [h]
  rfl
theorem frozen_of {W : World} {b o : Nat} {C : Array Value} {t : TypeId} (h : W.heap[b]? = some (.cells C t (0, 0))) : W.frozen? ⟨b, o, none⟩ = false := by
  unfold World.frozen?
  rw [h]
  simp
theorem lt_of_block {W : World} {b : Nat} {o : Obj} (h : W.heap[b]? = some o) : b < W.heap.size := (Array.getElem?_eq_some_iff.1 h).1
def ucells (l : List Nat) : List Value := l.map fun i : Nat => Value.int .u32 (i : Int)
/-- what findSeveral reads of its column: the block 'cb' of the column, its cells C -/
structure Col (W : World) (cb pb sb n : Nat) (zs : List Int) (C : Array Value) : Prop where
  col : W.heap[cb]? = some (.cells C 44 (0, 0))
  size : C.size = 22
  c1 : C[1]? = some (.int .i64 (n : Int))
  c7 : C[7]? = some (.int .i64 (PA.st zs n))
  c12 : C[12]? = some (.slice (some ⟨pb, 0, none⟩) 1 1)
  c19 : C[19]? = some (.slice none 0 0)
  c20 : C[20]? = some (.bool false)
  page : W.cell? ⟨pb, 0, none⟩ = some (.slice (some ⟨sb, 0, none⟩) (n + 1) (n + 1))
  row : ∀ j, j ≤ n → W.cell? ⟨sb, j, none⟩ = some (.int .u32 (PA.st zs j))
  hp : pb ≠ cb
  hs : sb ≠ cb
/-- the world behind some rounds: the column's cells but 19 and 20 are as they were; of the other old blocks none has turned -/
structure Aft (W W' : World) (cb : Nat) (C C' : Array Value) (nv : Value) (tm : Bool) : Prop where
  grown : W.grownBy W' (some cb)
  col : W'.heap[cb]? = some (.cells C' 44 (0, 0))
  size : C'.size = 22
  same : ∀ o, o ≠ 19 → o ≠ 20 → C'[o]? = C[o]?
  c19 : C'[19]? = some nv
  c20 : C'[20]? = some (.bool tm)
theorem Aft.cell {W W' : World} {cb : Nat} {C C' : Array Value} {nv : Value} {tm : Bool} (h : Aft W W' cb C C' nv tm) {b o : Nat} {v : Value} (hc : W.cell? ⟨b, o, none⟩ = some v) (hb : b ≠ cb) : W'.cell? ⟨b, o, none⟩ = some v :=
  h.grown.cell hc (by simpa using hb)
theorem Aft.drewN {W W' : World} {cb : Nat} {C C' : Array Value} {nv : Value} {tm : Bool} (h : Aft W W' cb C C' nv tm) (k : Nat) : Aft W (W'.drewN k) cb C C' nv tm :=
  ⟨⟨h.grown.os, h.grown.tape, h.grown.output, h.grown.size, h.grown.block⟩, h.col, h.size, h.same, h.c19, h.c20⟩
/-- one number appended and stored -/
theorem Aft.step {W W' W3 : World} {cb : Nat} {C C' : Array Value} {nv v3 x : Value} {m : Nat} {xs : List Value} (h : Aft W W' cb C C' nv false) (hcb : cb < W.heap.size)
    (hown : W'.ownsRow W.heap.size 24 1 nv m xs) (hg : (W'.alloc (.cells #[x] 24)).grownBy W3 nv.ownBlock) : Aft W (W3.setCell ⟨cb, 19, none⟩ v3) cb C (C'.setIfInBounds 19 v3) v3 false := by
  have hrow : ∀ q, nv.ownBlock = some q → W.heap.size ≤ q := fun q hq => (hown.lt q hq).1
  have hz := h.grown.size
  have hz3 := hg.size
  simp at hz3
  have hcol3 : W3.heap[cb]? = some (.cells C' 44 (0, 0)) := by
    have h1 : (W'.alloc (.cells #[x] 24)).heap[cb]? = some (.cells C' 44 (0, 0)) := (Below.heap_alloc W' _ cb (by omega)).trans h.col
    have h2 := hg.block cb (by simp; omega) (fun e => by have := hrow cb e.symm; omega)
    rw [h2, h1]
  have hcol := heap_setCell_same W3 cb 19 C' 44 v3 hcol3
  refine ⟨⟨?_, ?_, ?_, ?_, ?_⟩, hcol, by simpa using h.size, ?_, ?_, ?_⟩
  · show W3.os = W.os
    rw [hg.os]; exact h.grown.os
  · show W3.tape = W.tape
    rw [hg.tape]; exact h.grown.tape
  · show W3.output = W.output
    rw [hg.output]; exact h.grown.output
  · show W.heap.size ≤ (W3.setCell ⟨cb, 19, none⟩ v3).heap.size
    have : (W3.setCell ⟨cb, 19, none⟩ v3).heap.size = W3.heap.size := by simp [World.setCell]
    omega
  · intro k hk hne
    have hkc : k ≠ cb := fun e => hne (by rw [e])
    rw [heap_setCell_other W3 ⟨cb, 19, none⟩ k v3 hkc, hg.block k (by simp; omega) (fun e => by have := hrow k e.symm; omega), Below.heap_alloc W' _ k (by omega)]
    exact h.grown.block k hk hne
  · intro o h19 h20
    rw [Array.getElem?_setIfInBounds_ne (by omega)]
    exact h.same o h19 h20
  · rw [Array.getElem?_setIfInBounds_self_of_lt (by rw [h.size]; decide)]
  · rw [Array.getElem?_setIfInBounds_ne (by decide)]
    exact h.c20
theorem Aft.colGrown {W W' W3 : World} {cb : Nat} {C C' : Array Value} {nv x : Value} {m : Nat} {xs : List Value} (h : Aft W W' cb C C' nv false) (hcb : cb < W.heap.size)
    (hown : W'.ownsRow W.heap.size 24 1 nv m xs) (hg : (W'.alloc (.cells #[x] 24)).grownBy W3 nv.ownBlock) : W3.heap[cb]? = some (.cells C' 44 (0, 0)) := by
  have hrow : ∀ q, nv.ownBlock = some q → W.heap.size ≤ q := fun q hq => (hown.lt q hq).1
  have hz := h.grown.size
  have h1 : (W'.alloc (.cells #[x] 24)).heap[cb]? = some (.cells C' 44 (0, 0)) := (Below.heap_alloc W' _ cb (by omega)).trans h.col
  have h2 := hg.block cb (by simp; omega) (fun e => by have := hrow cb e.symm; omega)
  rw [h2, h1]
theorem Aft.full {W W' : World} {cb : Nat} {C C' : Array Value} {nv : Value} (h : Aft W W' cb C C' nv false) :
    Aft W ((W'.setCell ⟨cb, 19, none⟩ (.slice none 0 0)).setCell ⟨cb, 20, none⟩ (.bool true)) cb C ((C'.setIfInBounds 19 (.slice none 0 0)).setIfInBounds 20 (.bool true)) (.slice none 0 0) true := by
  have hcol := heap_setCell_same _ cb 20 _ 44 (.bool true) (heap_setCell_same W' cb 19 C' 44 (.slice none 0 0) h.col)
  refine ⟨⟨h.grown.os, h.grown.tape, h.grown.output, ?_, ?_⟩, hcol, by simpa using h.size, ?_, ?_, ?_⟩
  · have : ((W'.setCell ⟨cb, 19, none⟩ (.slice none 0 0)).setCell ⟨cb, 20, none⟩ (.bool true)).heap.size = W'.heap.size := by simp [World.setCell]
    have := h.grown.size
    omega
  · intro k hk hne
    have hkc : k ≠ cb := fun e => hne (by rw [e])
    rw [heap_setCell_other _ ⟨cb, 20, none⟩ k _ hkc, heap_setCell_other _ ⟨cb, 19, none⟩ k _ hkc]
    exact h.grown.block k hk hne
  · intro o h19 h20
    rw [Array.getElem?_setIfInBounds_ne (by omega), Array.getElem?_setIfInBounds_ne (by omega)]
    exact h.same o h19 h20
  · rw [Array.getElem?_setIfInBounds_ne (by decide), Array.getElem?_setIfInBounds_self_of_lt (by rw [h.size]; decide)]
  · rw [Array.getElem?_setIfInBounds_self_of_lt (by simp; rw [h.size]; decide)]
theorem info24 : (Yba.prog.info? 24).map (fun i => (i.zero, i.size, i.bytes)) = some (some (.int .u32 0), 1, 4) := by kernel_rfl
theorem info24_parts : ∃ i, Yba.prog.info? 24 = some i ∧ i.zero = some (.int .u32 0) ∧ i.size = 1 ∧ i.bytes = 4 := by
  have h := info24
  cases e : Yba.prog.info? 24 with
  | none => rw [e] at h; cases h
  | some i =>
    rw [e] at h
    have h' := Option.some.inj h
    exact ⟨i, rfl, congrArg (·.1) h', congrArg (·.2.1) h', congrArg (·.2.2) h'⟩
end Go.Proofs.Ybulkfcfg
