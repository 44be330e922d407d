import Derived.Test.YbulkfcfgWalksD
namespace Go.Proofs.Ybulkfcfg
open Go.RowKit
set_option linter.unusedVariables false
/-- the column that the law builds -/
def CC (n : Nat) (T : Int) (g : Nat) : Array Value :=
  #[Value.string { data := #[] }, Value.int IntKind.i64 (n : Int), Value.bool true, Value.slice none 0 0,
        Value.int IntKind.i64 0, Value.map none, Value.slice (some { block := g + 1, off := 0 }) 1 1,
        Value.int IntKind.i64 T, Value.slice none 0 0, Value.int IntKind.i64 0, Value.int IntKind.u8 1,
        Value.slice none 0 0, Value.slice (some { block := g + 1 + 1, off := 0 }) 1 1,
        Value.int IntKind.i64 ((n : Int) + 1), Value.slice none 0 0, Value.int IntKind.i64 0, Value.slice none 0 0,
        Value.map none, Value.map none, Value.slice none 0 0, Value.bool false, Value.int IntKind.i64 0]
/-- what the rest of the law asks of the world behind findSeveral -/
structure After (w X' : World) (n : Nat) (zs : List Int) (wv : Value) (pB g : Nat) (nv : Value) (tm : Bool) : Prop where
  c1 : X'.cell? ⟨g + 1 + 1 + 1, 1, none⟩ = some (.int .i64 (n : Int))
  c7 : X'.cell? ⟨g + 1 + 1 + 1, 7, none⟩ = some (.int .i64 (PA.st zs n))
  c13 : X'.cell? ⟨g + 1 + 1 + 1, 13, none⟩ = some (.int .i64 ((n : Int) + 1))
  c10 : X'.cell? ⟨g + 1 + 1 + 1, 10, none⟩ = some (.int .u8 1)
  c12 : X'.cell? ⟨g + 1 + 1 + 1, 12, none⟩ = some (.slice (some ⟨g + 1 + 1, 0, none⟩) 1 1)
  c6 : X'.cell? ⟨g + 1 + 1 + 1, 6, none⟩ = some (.slice (some ⟨g + 1, 0, none⟩) 1 1)
  c19 : X'.cell? ⟨g + 1 + 1 + 1, 19, none⟩ = some nv
  c20 : X'.cell? ⟨g + 1 + 1 + 1, 20, none⟩ = some (.bool tm)
  pg : X'.cell? ⟨g + 1 + 1, 0, none⟩ = some (.slice (some ⟨pB, 0, none⟩) (n + 1) (n + 1))
  starts : ∀ j, j ≤ n → X'.cell? ⟨w.heap.size, j, none⟩ = some (.int .u32 (PA.st zs j))
  page : ∀ j, j ≤ n → X'.cell? ⟨pB, j, none⟩ = some (.int .u32 (PA.st zs j))
  own : X'.ownsRow (w.heap.size + 1) 24 1 wv (PA.wn zs n).length (ucells (PA.wn zs n))
  nil : wv = .slice none 0 0 ↔ PA.wn zs n = []
  found : (max 8 (n / 64) < (PA.wn zs n).length ∧ tm = true ∧ nv = .slice none 0 0) ∨
    ((PA.wn zs n).length ≤ max 8 (n / 64) ∧ tm = false ∧ (∃ B, X'.ownsRow B 24 1 nv (PA.wn zs n).length (ucells (PA.wn zs n))) ∧ (nv = .slice none 0 0 ↔ PA.wn zs n = []))
  bel : Below w.heap.size w X'
theorem find_law (w W4 : World) (n : Nat) (zs : List Int) (wv sp : Value) (pB : Nat) (T : Int) (M3 : Array Value) (hn : n ≤ 16384) (h : Lend w W4 n zs wv pB) (hT : PA.st zs n = T) :
    Calls Yba.prog 5 #[.pointer (some ⟨W4.heap.size + 1 + 1 + 1, 0, none⟩)] ((((W4.alloc (.cells M3 111)).alloc (.cells #[sp] 25)).alloc (.cells #[.slice (some ⟨pB, 0, none⟩) (n + 1) (n + 1)] 23)).alloc (.cells (CC n T W4.heap.size) 44))
      fun e X' => e = .returned (.tuple #[]) ∧ ∃ nv tm, After w X' n zs wv pB W4.heap.size nv tm := by
  subst hT
  obtain ⟨X, hX⟩ : ∃ X, X = (((W4.alloc (.cells M3 111)).alloc (.cells #[sp] 25)).alloc (.cells #[.slice (some ⟨pB, 0, none⟩) (n + 1) (n + 1)] 23)).alloc (.cells (CC n (PA.st zs n) W4.heap.size) 44) := ⟨_, rfl⟩
  have z1 : (W4.alloc (.cells M3 111)).heap.size = W4.heap.size + 1 := by simp
  have z2 : ((W4.alloc (.cells M3 111)).alloc (.cells #[sp] 25)).heap.size = W4.heap.size + 1 + 1 := by simp
  have z3 : (((W4.alloc (.cells M3 111)).alloc (.cells #[sp] 25)).alloc (.cells #[.slice (some ⟨pB, 0, none⟩) (n + 1) (n + 1)] 23)).heap.size = W4.heap.size + 1 + 1 + 1 := by simp
  have zX : X.heap.size = W4.heap.size + 1 + 1 + 1 + 1 := by rw [hX]; simp
  have hcol : X.heap[W4.heap.size + 1 + 1 + 1]? = some (.cells (CC n (PA.st zs n) W4.heap.size) 44 (0, 0)) := by
    have := heap_alloc_new (((W4.alloc (.cells M3 111)).alloc (.cells #[sp] 25)).alloc (.cells #[.slice (some ⟨pB, 0, none⟩) (n + 1) (n + 1)] 23)) (.cells (CC n (PA.st zs n) W4.heap.size) 44)
    rw [z3] at this
    rw [hX]
    exact this
  have hpg : X.heap[W4.heap.size + 1 + 1]? = some (.cells #[.slice (some ⟨pB, 0, none⟩) (n + 1) (n + 1)] 23 (0, 0)) := by
    have := heap_alloc_new ((W4.alloc (.cells M3 111)).alloc (.cells #[sp] 25)) (.cells #[.slice (some ⟨pB, 0, none⟩) (n + 1) (n + 1)] 23)
    rw [z2] at this
    rw [hX, Below.heap_alloc _ _ _ (by rw [z3]; omega)]
    exact this
  have bX : Below W4.heap.size W4 X := by
    rw [hX]
    exact ((((Below.refl _ W4).alloc (Nat.le_refl _) _).alloc (by omega) _).alloc (by omega) _).alloc (by omega) _
  have hl1 := h.lt1
  have hl2 := h.lt2
  have hC : Col X (W4.heap.size + 1 + 1 + 1) (W4.heap.size + 1 + 1) pB n zs (CC n (PA.st zs n) W4.heap.size) :=
    ⟨hcol, rfl, rfl, rfl, rfl, rfl, rfl, (cell_of hpg).trans rfl, fun j hj => (bX.cell (p := ⟨pB, j, none⟩) hl2).trans (h.page j hj), by omega, by omega⟩
  rw [← hX]
  refine (find_any _ _ _ n zs _ X hn hC).mono ?_
  rintro e X' ⟨rfl, C', nv, tm, ha, hf⟩
  have same := fun o (h1 : o ≠ 19) (h2 : o ≠ 20) => (cell_of (o := o) ha.col).trans (ha.same o h1 h2)
  have hgr := ha.grown
  have oldb : ∀ b, b < W4.heap.size → X'.heap[b]? = W4.heap[b]? := fun b hb =>
    (hgr.block b (by omega) (fun e => by have := Option.some.inj e; omega)).trans (bX.block b hb)
  have gW : W4.grownBy X' none := ⟨hgr.os.trans bX.os, hgr.tape.trans bX.tape, hgr.output.trans bX.output, by have := hgr.size; omega, fun b hb _ => oldb b hb⟩
  refine ⟨rfl, nv, tm, ⟨same 1 (by decide) (by decide), same 7 (by decide) (by decide), same 13 (by decide) (by decide), same 10 (by decide) (by decide), same 12 (by decide) (by decide), same 6 (by decide) (by decide), (cell_of ha.col).trans ha.c19, (cell_of ha.col).trans ha.c20, ?_, ?_, ?_, ?_, h.nil, ?_, ?_⟩⟩
  · exact ha.cell ((cell_of hpg).trans rfl) (by omega)
  · exact fun j hj => gW.cell (h.starts j hj) (by simp)
  · exact fun j hj => gW.cell (h.page j hj) (by simp)
  · exact h.own.kept gW (by
      cases e : wv.ownBlock with
      | none => exact Or.inl rfl
      | some g => exact Or.inr (by simp))
  · rcases hf with hf | ⟨f1, f2, f3, f4⟩
    · exact Or.inl hf
    · exact Or.inr ⟨f1, f2, ⟨_, f3⟩, f4⟩
  · exact h.bel.trans ⟨gW.os, gW.tape, gW.output, gW.size, fun k hk => oldb k (by omega)⟩
end Go.Proofs.Ybulkfcfg
