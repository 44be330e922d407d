/-
  THE SHELL OF A PROOF OF 'Rows.LawS7558BWholeSaid' ('example.com/pailmap/pailmap.LawS7558BWhole'), WRITTEN BY PROGRAM (proof-skeleton.mjs) off the guide's own print for that function.
  The hole is filled by hand. ALL ELSE IS THE GUIDE's TEMPLATE (howto/template/XProofs.lean) at this function's number and types: leave it.
-/
import Derived.Test.YbulkezmsRows
import Derived.WalkKit
import Derived.ProofKit
import Derived.LaidEql
import Derived.OpenShut
import Derived.ShutString
namespace Go.Proofs.Ybulkezms.lawS7558BWhole
open Go.ChangeShapes Go.WideShapes Go.ChangeAt Go.RowKit
open Go.ChangeMaps (open_string shut_string)
set_option linter.unusedVariables false      -- a walk need not use every 'w<i>' (that an integer argument fits its kind)

theorem own : ownKnob Yba.prog.godebug = none := by kernel_rfl

theorem assert28 (p : Option Addr) (w : World) : (Instr.typeAssert (.iface 28 (.pointer p)) 20 28 false).run Yba.prog w = .ok (.pointer p) w := by kernel_rfl
theorem assert42 (p : Option Addr) (w : World) : (Instr.typeAssert (.iface 42 (.pointer p)) 20 42 false).run Yba.prog w = .ok (.pointer p) w := by kernel_rfl
section
variable {P : Program} (w : World)
theorem run_neq_ptr_same {tp te : TypeId} {j : TypeInfo} (a : Addr) (hp : P.underlying tp = some (.pointer te)) (hte : P.info? te = some j) :
    (binOp .neq tp (.pointer (some a)) (.pointer (some a))).run P w = .ok (.bool false) w := by
  have h : ∀ d : Nat, (Op.equalIn (d + 1) tp (.pointer (some a)) (.pointer (some a))).run P w = .ok true w := fun d => by
    simp [Op.equalIn, run_underlying hp, typeInfo, sizeOf, run_sameAddr_same, hte]
  simp only [binOp]
  simp [Op.equal, Op.maxDepth, h 9999]
theorem run_neq_ptr_other {tp te : TypeId} {j : TypeInfo} {a b : Addr} {ca cb : Array Value} {ta tb : TypeId} (hp : P.underlying tp = some (.pointer te)) (hte : P.info? te = some j) (hsz : j.size ≠ 0)
    (hne : a ≠ b) (ha : w.heap[a.block]? = some (.cells ca ta (0, 0))) (hb : w.heap[b.block]? = some (.cells cb tb (0, 0))) :
    (binOp .neq tp (.pointer (some a)) (.pointer (some b))).run P w = .ok (.bool true) w := by
  have h : ∀ d : Nat, (Op.equalIn (d + 1) tp (.pointer (some a)) (.pointer (some b))).run P w = .ok false w := fun d => by
    simp [Op.equalIn, run_underlying hp, typeInfo, sizeOf, hte, hsz, run_sameAddr_other w hne ha hb]
  simp only [binOp]
  simp [Op.equal, Op.maxDepth, h 9999]
theorem run_neq_nil_ptr {tp te : TypeId} (p : Option Addr) (hp : P.underlying tp = some (.pointer te)) :
    (binOp .neq tp (.pointer none) (.pointer p)).run P w = .ok (.bool (!p.isNone)) w := by
  have h : ∀ d : Nat, (Op.equalIn (d + 1) tp (.pointer none) (.pointer p)).run P w = .ok p.isNone w := fun d => by
    simp [Op.equalIn, run_underlying hp]
  simp only [binOp]
  simp [Op.equal, Op.maxDepth, h 9999]
end
theorem two (W : World) (x y : Obj) : ((W.alloc x).alloc y).heap[W.heap.size]? = some x ∧ ((W.alloc x).alloc y).heap[W.heap.size + 1]? = some y := by
  constructor
  · show ((W.heap.push x).push y)[W.heap.size]? = _
    simp [Array.getElem?_push]
  · have h := (MapKept.heap_alloc (W.alloc x) y).1
    have e : (W.alloc x).heap.size = W.heap.size + 1 := by show (W.heap.push x).size = _; simp
    rw [e] at h
    exact h
theorem info_of {t : TypeId} (h : ((Yba.prog.info? t).map fun j => decide (j.size ≠ 0)) = some true) : ∃ j, Yba.prog.info? t = some j ∧ j.size ≠ 0 := by
  cases e : Yba.prog.info? t with
  | none => rw [e] at h; cases h
  | some j => rw [e] at h; exact ⟨j, rfl, of_decide_eq_true (Option.some.inj h)⟩
theorem info51 : ∃ j, Yba.prog.info? 51 = some j ∧ j.size ≠ 0 := info_of (by kernel_rfl)
theorem info67 : ∃ j, Yba.prog.info? 67 = some j ∧ j.size ≠ 0 := info_of (by kernel_rfl)
theorem same28 (a : Addr) (w : World) : (binOp .neq 28 (.pointer (some a)) (.pointer (some a))).run Yba.prog w = .ok (.bool false) w := by
  obtain ⟨j, hj, _⟩ := info51
  exact run_neq_ptr_same w a Yba.underlying28 hj
theorem same42 (a : Addr) (w : World) : (binOp .neq 42 (.pointer (some a)) (.pointer (some a))).run Yba.prog w = .ok (.bool false) w := by
  obtain ⟨j, hj, _⟩ := info67
  exact run_neq_ptr_same w a Yba.underlying42 hj
theorem other28 (w : World) (c1 c2 : Array Value) : (binOp .neq 28 (.pointer (some ⟨w.heap.size + 1, 0, none⟩)) (.pointer (some ⟨w.heap.size, 0, none⟩))).run Yba.prog ((w.alloc (.cells c1 51)).alloc (.cells c2 51)) = .ok (.bool true) ((w.alloc (.cells c1 51)).alloc (.cells c2 51)) := by
  obtain ⟨j, hj, hs⟩ := info51
  obtain ⟨h1, h2⟩ := two w (.cells c1 51) (.cells c2 51)
  exact run_neq_ptr_other _ Yba.underlying28 hj hs (by intro h; have := congrArg Addr.block h; simp at this) h2 h1
theorem other42 (w : World) (c1 c2 : Array Value) : (binOp .neq 42 (.pointer (some ⟨w.heap.size + 1, 0, none⟩)) (.pointer (some ⟨w.heap.size, 0, none⟩))).run Yba.prog ((w.alloc (.cells c1 67)).alloc (.cells c2 67)) = .ok (.bool true) ((w.alloc (.cells c1 67)).alloc (.cells c2 67)) := by
  obtain ⟨j, hj, hs⟩ := info67
  obtain ⟨h1, h2⟩ := two w (.cells c1 67) (.cells c2 67)
  exact run_neq_ptr_other _ Yba.underlying42 hj hs (by intro h; have := congrArg Addr.block h; simp at this) h2 h1
theorem other42' (w : World) (c1 c2 c3 c4 : Array Value) : (binOp .neq 42 (.pointer (some ⟨w.heap.size + 1 + 1 + 1, 0, none⟩)) (.pointer (some ⟨w.heap.size + 1 + 1, 0, none⟩))).run Yba.prog ((((w.alloc (.cells c1 51)).alloc (.cells c2 51)).alloc (.cells c3 67)).alloc (.cells c4 67)) = .ok (.bool true) ((((w.alloc (.cells c1 51)).alloc (.cells c2 51)).alloc (.cells c3 67)).alloc (.cells c4 67)) := by
  have h := other42 ((w.alloc (.cells c1 51)).alloc (.cells c2 51)) c3 c4
  have e : ((w.alloc (.cells c1 51)).alloc (.cells c2 51)).heap.size = w.heap.size + 1 + 1 := by show ((w.heap.push _).push _).size = _; simp
  rw [e] at h
  exact h
/-! ### STEP 1: THE WALK: the Go text returns true. 'Grown w w'': the world has at most new blocks (Derived/RowKit3.lean). Part the cases AHEAD of 'go_enter' where a test parts the walk; take each callee by a contract of your own. -/
set_option maxRecDepth 100000 in
set_option maxHeartbeats 1000000 in
theorem walk (a0 : Bool) (a1 : Bool) (a2 : Bool) (a3 : Int) (a4 : Int) (w3 : (Lit.int .i64 a3).wf = true) (w4 : (Lit.int .i64 a4).wf = true) (w : World) :
    Calls Yba.prog 5 #[.bool a0, .bool a1, .bool a2, .int .i64 a3, .int .i64 a4] w fun e w' => e = .returned (.bool true) ∧ Grown w w' := by
  clear w3 w4
  have h28 := assert28
  have h42 := assert42
  have s28 := same28
  have s42 := same42
  have o28 := other28 w
  have o42 := other42' w
  have n28 := fun (w : World) p => run_neq_nil_ptr w (P := Yba.prog) (tp := 28) p Yba.underlying28
  have n42 := fun (w : World) p => run_neq_nil_ptr w (P := Yba.prog) (tp := 42) p Yba.underlying42
  cases a0 <;> cases a1 <;> cases a2
  all_goals
    go_enter Yba.func5, Yba.ntmps5
    go_wp2
    go_ret
    exact ⟨rfl, by repeat (first | exact Grown.refl _ | apply Grown.drew | apply Grown.alloc)⟩

/-! ### THE ROW's STEP: WRITTEN OUT: LEAVE IT -/
set_option maxRecDepth 100000 in
theorem lifted (os : Os) (started : os.Started) (H : Type) (enc : TypeId × Value → H) :
    ReturnsInHanded {} Yba.checked os 5 .any (Rows.lawS7558BWholeSpec.pre6 enc Yba.prog Yba.f5 Rows.lawS7558BWholeRow.domain false) (Rows.lawS7558BWholeSpec.post enc Yba.prog Yba.f5 false true false false) := by
  refine returnsInHanded_of_change (C := Yba.checked) own started (by kernel_rfl) Yba.func5
    (ChangeSpec.witness6 (enc := enc) (C := Yba.checked) false ⟨#[], #[.bool false, .bool false, .bool false, .int .i64 0, .int .i64 0], []⟩ 8 (by kernel_rfl) (by kernel_rfl) (by kernel_rfl) (by kernel_rfl)) ?_
  intro W base args ds gs before hval0 hW hcnd _
  have hval : ∀ (j : Nat) t v, Yba.f5.params[j]? = some t → args[j]? = some v → Value.okWide Yba.prog W .any base t v := hval0
  have hW' := hW
  obtain ⟨p, q, hA0, hV, rfl, hfz, hnd⟩ := hW
  have hA : DataW.TrodAll enc Yba.prog W 0 (fun _ => true) true Yba.f5.params.toList args.toList ds p := hA0
  rw [Yba.params5] at hA hval
  obtain ⟨v0, vs0, d0, ds0, p0, q0, hargs, rfl, rfl, h0, r0⟩ := trodAll_cons hA
  obtain ⟨v1, vs1, d1, ds1, p1, q1, rfl, rfl, rfl, h1, r1⟩ := trodAll_cons r0
  obtain ⟨v2, vs2, d2, ds2, p2, q2, rfl, rfl, rfl, h2, r2⟩ := trodAll_cons r1
  obtain ⟨v3, vs3, d3, ds3, p3, q3, rfl, rfl, rfl, h3, r3⟩ := trodAll_cons r2
  obtain ⟨v4, vs4, d4, ds4, p4, q4, rfl, rfl, rfl, h4, r4⟩ := trodAll_cons r3
  obtain ⟨rfl, rfl, rfl⟩ := trodAll_nil r4
  obtain rfl : args = #[v0, v1, v2, v3, v4] := by cases args; simp_all
  obtain ⟨rfl, rfl⟩ := trodVars_none hV
  obtain ⟨a0, rfl, rfl, rfl⟩ := open_bool Yba.underlying4 (hval 0 4 v0 rfl rfl) h0
  obtain ⟨a1, rfl, rfl, rfl⟩ := open_bool Yba.underlying4 (hval 1 4 v1 rfl rfl) h1
  obtain ⟨a2, rfl, rfl, rfl⟩ := open_bool Yba.underlying4 (hval 2 4 v2 rfl rfl) h2
  obtain ⟨a3, rfl, rfl, rfl, w3⟩ := open_int Yba.underlying3 (hval 3 3 v3 rfl rfl) h3
  obtain ⟨a4, rfl, rfl, rfl, w4⟩ := open_int Yba.underlying3 (hval 4 3 v4 rfl rfl) h4
  clear hA0 hval0
  simp only [List.append_nil] at hW'
  refine (walk a0 a1 a2 a3 a4 w3 w4 W).mono fun e W' ⟨he, hg⟩ => ?_
  subst he
  exact ⟨_, rfl, post_of_same (pa := []) (pv := []) hW' (fun _ _ _ => (trodAll_cons_mk (shut_bool Yba.underlying4 _) trodAll_mk0)) (fun sp _ => (trodAll_cons_mk (shut_bool Yba.underlying4 _) (trodAll_cons_mk (shut_bool Yba.underlying4 _) (trodAll_cons_mk (shut_bool Yba.underlying4 _) (trodAll_cons_mk (shut_int Yba.underlying3 w3) (trodAll_cons_mk (shut_int Yba.underlying3 w4) trodAll_mk0)))))) (fun _ _ => rfl) rfl
    (hg.frame _) hg.2.1 (ok_one (by kernel_rfl) rfl (okWide_bool_mk Yba.underlying4 _))⟩

theorem over : Rows.lawS7558BWholeRow.holds Yba.pinned (OpenSpec.ofChange Rows.lawS7558BWholeSpec) :=
  OpenClaim.holds_of_wide 5 Yba.f5 rfl rfl rfl rfl rfl rfl rfl ⟨rfl, rfl, rfl, rfl, rfl⟩ rfl rfl rfl rfl rfl (by kernel_rfl) Yba.func5 (by kernel_rfl)
    (of_decide_eq_true (by kernel_rfl)) (by unfold Func.isWrapper; first | (rw [if_pos (by decide +kernel)]; kernel_rfl) | (rw [if_neg (by decide +kernel)]; exact ⟨rfl, rfl⟩))
    (fun os started H enc _ => lifted os started H enc)

/-- ████ THE STATEMENT ████ -/
theorem proved : Rows.LawS7558BWholeSaid :=
  over
end Go.Proofs.Ybulkezms.lawS7558BWhole
