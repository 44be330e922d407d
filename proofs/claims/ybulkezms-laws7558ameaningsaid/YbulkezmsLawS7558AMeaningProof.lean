/-
  THE SHELL OF A PROOF OF 'Rows.LawS7558AMeaningSaid' ('example.com/pailmap/pailmap.LawS7558AMeaning'), WRITTEN BY PROGRAM (proof-skeleton.mjs) off the guide's own print for that function.
  The hole is filled by hand. ALL ELSE IS THE GUIDE's TEMPLATE (howto/template/XProofs.lean) at this function's number and types: leave it.
-/
import Derived.Test.YbulkezmsRows
import Derived.Test.YbulkezmsWalks
import Derived.Test.YbulkezmsPlain2
import Derived.WalkKit
import Derived.ProofKit
import Derived.OpenShut
import Derived.ShutString
namespace Go.Proofs.Ybulkezms.lawS7558AMeaning
open Go.ChangeShapes Go.WideShapes Go.ChangeAt Go.RowKit
open Go.ChangeMaps (open_string shut_string)
set_option linter.unusedVariables false      -- a walk need not use every 'w<i>' (that an integer argument fits its kind)

theorem own : ownKnob Yba.prog.godebug = none := by kernel_rfl

theorem byte_eq (T U k : Nat) (hU : U < 256) (hk : k < 8) : ((T : Int) / 2 ^ (8 * k) % 256 == (U : Int)) = decide (PM.xb (PM.xw T U) k = 0) := by
  rw [PM.xb_xw T U k hU hk]
  have e : ((T : Int) / 2 ^ (8 * k) % 256) = ((PM.xb T k : Nat) : Int) := by
    unfold PM.xb
    rw [Int.natCast_emod, Int.natCast_ediv, Int.natCast_pow]
    rfl
  rw [e]
  by_cases c : PM.xb T k = U
  · rw [c, Nat.xor_self]; simp
  · have h1 : ¬ (PM.xb T k ^^^ U = 0) := fun h => c ((PM.xor_eq_zero' _ _).1 h)
    rw [decide_eq_false h1, beq_eq_false_iff_ne]
    omega
theorem and_val (X k : Nat) (hX : X < 18446744073709551616) (hk : k < 8) :
    bits BinOp.and IntKind.u64 ((PM.mt X : Nat) : Int) (IntKind.u64.wrap (2 ^ (8 * k + 7))) = if PM.hit X k = true then ((2 ^ (8 * k + 7) : Nat) : Int) else 0 := by
  rw [wrap_pow k hk, u64_and_nat _ _ (PM.mt_lt X) (pow_lt k hk), PM.mt_and X k hX hk]
  split <;> rfl
theorem not_val (X : Nat) : bits BinOp.andNot IntKind.u64 ((PM.mt X : Nat) : Int) 9259542123273814144 = 0 := by
  have := u64_andNot_nat (PM.mt X) 9259542123273814144 (PM.mt_lt X) (by decide)
  have e := PM.mt_not X
  unfold PM.H at e
  rw [e] at this
  exact this
theorem pow_ne (k : Nat) : (((2 ^ (8 * k + 7) : Nat) : Int) == 0) = false := by
  rw [beq_eq_false_iff_ne]
  have : 0 < 2 ^ (8 * k + 7) := Nat.pow_pos (by decide)
  omega
set_option maxHeartbeats 1000000 in
theorem walkN (T U : Nat) (hT : T < 18446744073709551616) (hU : U < 256) (w : World) :
    Calls Yba.prog 4 #[.int .u64 T, .int .u8 U] w fun e w' => e = .returned (.bool true) ∧ w' = w := by
  have h6 := hide (match_any T U hT hU)
  have hX := PM.xw_lt T U hT hU
  have HB := hide (fun k hk => byte_eq T U k hU hk)
  have HV := hide (fun k hk => and_val (PM.xw T U) k hX hk)
  have HE := hide (PM.end_none (PM.xw T U) hX)
  have hN := not_val (PM.xw T U)
  clear hX hT hU
  generalize PM.xw T U = X at *
  go_enter Yba.func4, Yba.ntmps4
  go_wp2_with (first | (go_at_call 6; refine (unhide h6 _).mono ?_; rintro e w' ⟨rfl, rfl⟩))
  clear hN
  go_loop [6, 7, 8] (fun a l i => ∃ k : Nat, k ≤ 8 ∧ i = .int .i64 k ∧ a = .bool (PM.anyB X k) ∧ l = .int .i64 (PM.lowI X k)) (fun _ _ i => 8 - (intOf i).toNat)
  case atStart => exact ⟨0, by omega, rfl, rfl, rfl⟩
  case round =>
    obtain ⟨k, hk, rfl, rfl, rfl⟩ := hrel
    by_cases hlt : k < 8
    · have e1 := unhide HB k hlt
      have e2 := unhide HV k hlt
      clear HE HB HV
      have hp := pow_ne k
      have hl := PM.low_range X k
      have ha : Hid (PM.anyB X (k + 1) = if PM.xb X k = 0 then true else PM.anyB X k) := hide rfl
      have hs : Hid (PM.lowI X (k + 1) = if PM.lowI X k < 0 then (if PM.hit X k = true then (k : Int) else PM.lowI X k) else PM.lowI X k) := hide rfl
      have hz := PM.hit_of_zero X k
      generalize PM.lowI X k = l at *
      generalize PM.anyB X k = a at *
      generalize ((2 ^ (8 * k + 7) : Nat) : Int) = g at *
      by_cases c1 : PM.xb X k = 0
      · have c2 := hz c1
        rw [c2, if_pos rfl] at e2
        rw [decide_eq_true c1] at e1
        have HS : Hid (PM.anyB X (k + 1) = true) := hide (by rw [ha.out, if_pos c1])
        have HL : Hid (PM.lowI X (k + 1) = if l < 0 then (k : Int) else l) := hide (by rw [hs.out, c2, if_pos rfl])
        clear hz c1 c2 ha hs
        by_cases c3 : l < 0
        all_goals
          go_wp2
          refine ⟨⟨k + 1, by omega, by go_num, by rw [HS.out], ?_⟩, by simp [intOf]; omega⟩
          rw [HL.out]
          first | rw [if_pos c3] | rw [if_neg c3]
      · rw [decide_eq_false c1] at e1
        have HS : Hid (PM.anyB X (k + 1) = a) := hide (by rw [ha.out, if_neg c1])
        cases c2 : PM.hit X k
        all_goals
          rw [c2] at e2
          have HL : Hid (PM.lowI X (k + 1) = if l < 0 then (if PM.hit X k = true then (k : Int) else l) else l) := hide (by rw [hs.out])
          rw [c2] at HL
          simp only [if_true, Bool.false_eq_true, if_false] at e2 HL
          clear hz c1 c2 ha hs
          by_cases c3 : l < 0
          all_goals
            go_wp2
            refine ⟨⟨k + 1, by omega, by go_num, by rw [HS.out], ?_⟩, by simp [intOf]; omega⟩
            rw [HL.out]
            first | rw [if_pos c3] | rw [if_neg c3]
    · obtain rfl : k = 8 := by omega
      clear hlt hk
      cases ha : PM.anyB X 8
      · have hm := HE.out ha
        clear HE HB HV ha
        have hm' : (((PM.mt X : Nat) : Int) == 0) = true := by rw [hm]; rfl
        clear hm
        go_wp2
        go_ret
        exact ⟨rfl, rfl⟩
      · obtain ⟨j, hj, hl, hx⟩ := PM.end_some X ha
        have e1 := HB.out j hj
        rw [decide_eq_true hx] at e1
        rw [hl]
        clear HE HB HV ha hl hx
        go_wp2
        go_ret
        exact ⟨rfl, rfl⟩
/-! ### STEP 1: THE WALK: the Go text returns true. 'Grown w w'': the world has at most new blocks (Derived/RowKit3.lean). Part the cases AHEAD of 'go_enter' where a test parts the walk; take each callee by a contract of your own. -/
theorem walk (a0 : Int) (a1 : Int) (w0 : (Lit.int .u64 a0).wf = true) (w1 : (Lit.int .u8 a1).wf = true) (w : World) :
    Calls Yba.prog 4 #[.int .u64 a0, .int .u8 a1] w fun e w' => e = .returned (.bool true) ∧ Grown w w' := by
  obtain ⟨p0, q0⟩ := bounds_u64 w0
  obtain ⟨p1, q1⟩ := bounds_u8 w1
  obtain ⟨T, rfl⟩ := Int.eq_ofNat_of_zero_le p0
  obtain ⟨U, rfl⟩ := Int.eq_ofNat_of_zero_le p1
  refine (walkN T U (by omega) (by omega) w).mono ?_
  rintro e w' ⟨rfl, rfl⟩
  exact ⟨rfl, Grown.refl _⟩

/-! ### THE ROW's STEP: WRITTEN OUT: LEAVE IT -/
set_option maxRecDepth 100000 in
theorem lifted (os : Os) (started : os.Started) (H : Type) (enc : TypeId × Value → H) :
    ReturnsInHanded {} Yba.checked os 4 .any (Rows.lawS7558AMeaningSpec.pre6 enc Yba.prog Yba.f4 Rows.lawS7558AMeaningRow.domain false) (Rows.lawS7558AMeaningSpec.post enc Yba.prog Yba.f4 false true false false) := by
  refine returnsInHanded_of_change (C := Yba.checked) own started (by kernel_rfl) Yba.func4
    (ChangeSpec.witness6 (enc := enc) (C := Yba.checked) false ⟨#[], #[.int .u64 0, .int .u8 0], []⟩ 8 (by kernel_rfl) (by kernel_rfl) (by kernel_rfl) (by kernel_rfl)) ?_
  intro W base args ds gs before hval0 hW hcnd _
  have hval : ∀ (j : Nat) t v, Yba.f4.params[j]? = some t → args[j]? = some v → Value.okWide Yba.prog W .any base t v := hval0
  have hW' := hW
  obtain ⟨p, q, hA0, hV, rfl, hfz, hnd⟩ := hW
  have hA : DataW.TrodAll enc Yba.prog W 0 (fun _ => true) true Yba.f4.params.toList args.toList ds p := hA0
  rw [Yba.params4] at hA hval
  obtain ⟨v0, vs0, d0, ds0, p0, q0, hargs, rfl, rfl, h0, r0⟩ := trodAll_cons hA
  obtain ⟨v1, vs1, d1, ds1, p1, q1, rfl, rfl, rfl, h1, r1⟩ := trodAll_cons r0
  obtain ⟨rfl, rfl, rfl⟩ := trodAll_nil r1
  obtain rfl : args = #[v0, v1] := by cases args; simp_all
  obtain ⟨rfl, rfl⟩ := trodVars_none hV
  obtain ⟨a0, rfl, rfl, rfl, w0⟩ := open_int Yba.underlying22 (hval 0 22 v0 rfl rfl) h0
  obtain ⟨a1, rfl, rfl, rfl, w1⟩ := open_int Yba.underlying5 (hval 1 5 v1 rfl rfl) h1
  clear hA0 hval0
  simp only [List.append_nil] at hW'
  refine (walk a0 a1 w0 w1 W).mono fun e W' ⟨he, hg⟩ => ?_
  subst he
  exact ⟨_, rfl, post_of_same (pa := []) (pv := []) hW' (fun _ _ _ => (trodAll_cons_mk (shut_bool Yba.underlying4 _) trodAll_mk0)) (fun sp _ => (trodAll_cons_mk (shut_int Yba.underlying22 w0) (trodAll_cons_mk (shut_int Yba.underlying5 w1) trodAll_mk0))) (fun _ _ => rfl) rfl
    (hg.frame _) hg.2.1 (ok_one (by kernel_rfl) rfl (okWide_bool_mk Yba.underlying4 _))⟩

theorem over : Rows.lawS7558AMeaningRow.holds Yba.pinned (OpenSpec.ofChange Rows.lawS7558AMeaningSpec) :=
  OpenClaim.holds_of_wide 4 Yba.f4 rfl rfl rfl rfl rfl rfl rfl ⟨rfl, rfl, rfl, rfl, rfl⟩ rfl rfl rfl rfl rfl (by kernel_rfl) Yba.func4 (by kernel_rfl)
    (of_decide_eq_true (by kernel_rfl)) (by unfold Func.isWrapper; first | (rw [if_pos (by decide +kernel)]; kernel_rfl) | (rw [if_neg (by decide +kernel)]; exact ⟨rfl, rfl⟩))
    (fun os started H enc _ => lifted os started H enc)

/-- ████ THE STATEMENT ████ -/
theorem proved : Rows.LawS7558AMeaningSaid :=
  over
end Go.Proofs.Ybulkezms.lawS7558AMeaning
