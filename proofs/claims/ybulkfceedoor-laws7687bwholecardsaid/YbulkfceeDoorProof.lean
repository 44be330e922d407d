import Derived.Test.YbulkfceeDoorRows
import Derived.Test.YbulkfceeDoorTie
import Derived.Test.YbulkfceeDoorCards
import Derived.Test.YbulkfceeDoorWalksH
import Derived.WalkKit
import Derived.ProofKit
import Derived.LaidMore
import Derived.OpenShut
import Derived.ShutString
import Derived.ChangeOld
import Derived.Below
import Derived.SizedLaws
import Derived.Stop.Joined
import Derived.Stop.LaidErr
import Derived.SevenTiedAt
namespace Go.Proofs.YbulkfceeDoor.lawS7687BWhole
open Go.ChangeShapes Go.WideShapes Go.ChangeAt Go.WideMaps Go.WideElems Go.RowKit
set_option linter.unusedVariables false
theorem own : ownKnob Ybad.prog.godebug = none := by kernel_rfl
theorem laidOut : laidOutB Ybad.prog = true := by kernel_rfl
theorem gSyn : Ybad.prog.globalNamed "strconv.ErrSyntax" = some 0 := by kernel_rfl
theorem gSynType : (Ybad.prog.globals[0]?).map (·.type) = some 29 := by kernel_rfl
theorem cells5 : Ybad.prog.cellsOf 5 = 1 := by kernel_rfl
theorem cells22 : Ybad.prog.cellsOf 22 = 4 := by kernel_rfl
theorem bytes5 : Ybad.prog.bytesOf 5 = 1 := by kernel_rfl
/-- The door's own heap meets the condition: three closed facts. -/
theorem door_met (os : Os) (args : Array Value) : laidMetH Ybad.prog Rows.lawS7687BWholeRow.laid ((World.doorLaid Ybad.prog 400 os).forCall (fun _ _ => 0) ⟨#[], args, []⟩).memory :=
  laidMetH_of_parts3 (fuel := 8) (laidMet_of_run' 8 (by kernel_rfl) (by kernel_rfl)) (by kernel_rfl) (by kernel_rfl)

/-- What the condition gives the walks: the variable strconv.ErrSyntax holds an interface value. -/
theorem of_laid {W : World} (h : laidMetH Ybad.prog Rows.lawS7687BWholeRow.laid W) : ∃ te pe, W.cell? ⟨0, 0, none⟩ = some (.iface te pe) := by
  rw [MakeChecks.laidMetH_plain _ _ _ (by kernel_rfl)] at h
  have h4 := h.tail.tail.tail.tail
  obtain ⟨ps, ⟨g0, t0, cs0, f0, p0, q0, hg0, ht0, hv0, hd0, _, _⟩, _, _⟩ := h4
  obtain rfl := Option.some.inj (gSyn.symm.trans hg0)
  obtain rfl := Option.some.inj (gSynType.symm.trans ht0)
  obtain ⟨f1, u, v, hcs, _, _⟩ := iface_of_trod Ybad.underlying29 hd0
  have := World.var?_cell gSyn hv0 0
  rw [Array.eq_one_of_toList hcs] at this
  exact ⟨u, v, by simpa using this⟩

theorem take1 {α : Type} (l : List α) (i : Nat) (x : α) (h : ((l.drop (i * 1)).take 1) = [x]) : l[i]? = some x := by
  rw [Nat.mul_one] at h
  have := congrArg (·[0]?) h
  simpa [List.getElem?_take, List.getElem?_drop] using this

/-- an array of four bytes that came in -/
theorem open_arr {H : Type} {enc : TypeId × Value → H} {W : World} {base : Nat} {v : Value} {d : DataW H} {p : List MemPlace} {sp : Nat → Bool} {held : Bool} {b0 : Nat}
    (hok : Value.okWide Ybad.prog W .any base 22 v) (h : ∃ fuel, DataW.trod enc Ybad.prog W b0 sp held fuel 22 v.cells.toList = some (d, p)) :
    ∃ h0 h1 h2 h3 : Int, v = .agg #[.int .u8 h0, .int .u8 h1, .int .u8 h2, .int .u8 h3] ∧ ∀ x ∈ [h0, h1, h2, h3], 0 ≤ x ∧ x ≤ 255 := by
  obtain ⟨cs, rfl, hsz⟩ : ∃ cs, v = .agg cs ∧ cs.size = Ybad.prog.cellsOf 22 := by
    simp only [Value.okWide, Ybad.underlying22] at hok
    obtain ⟨cs, h1, h2, _⟩ := hok
    exact ⟨cs, h1, h2⟩
  rw [cells22] at hsz
  obtain ⟨fuel, hf⟩ := h
  obtain ⟨xs, m, rfl, hx, hlen, hn, hel⟩ := DataW.trod_array Ybad.underlying22 hf
  have key : ∀ i, i < 4 → ∃ n, cs[i]? = some (.int .u8 n) ∧ 0 ≤ n ∧ n ≤ 255 := by
    intro i hi
    have h1 := hel i hi
    rw [cells5, List.getElem?_eq_getElem (by omega)] at h1
    obtain ⟨n, e1, e2, e3⟩ := DataW.trod_int Ybad.underlying5 h1
    have e := take1 _ _ _ e1
    obtain ⟨b1, b2⟩ := bounds_u8 e3
    exact ⟨n, by simpa [Value.cells] using e, b1, by omega⟩
  obtain ⟨h0, e0, b0⟩ := key 0 (by omega)
  obtain ⟨h1, e1, b1⟩ := key 1 (by omega)
  obtain ⟨h2, e2, b2⟩ := key 2 (by omega)
  obtain ⟨h3, e3, b3⟩ := key 3 (by omega)
  refine ⟨h0, h1, h2, h3, ?_, by simp only [List.mem_cons, List.not_mem_nil, or_false]; rintro x (rfl | rfl | rfl | rfl) <;> assumption⟩
  congr 1
  obtain ⟨l⟩ := cs
  match l, hsz with
  | [c0, c1, c2, c3], _ =>
    simp at e0 e1 e2 e3
    subst e0 e1 e2 e3
    rfl

/-- a slice of bytes that came in -/
theorem open_bytes {H : Type} {enc : TypeId × Value → H} {W : World} {a : Option Addr} {len cap : Nat} {d : DataW H} {p : List MemPlace}
    (h : ∃ fuel, DataW.trod enc Ybad.prog W 0 (fun _ => true) true fuel 23 (Value.slice a len cap).cells.toList = some (d, p))
    (hr : ∀ elems spare, d = .slice elems spare → (elems.length + spare.length) * Ybad.prog.bytesOf 5 ≤ reachBytes) :
    ∃ bs, Sl W a len cap bs ∧ (a = none → cap = 0) ∧ len ≤ 140737488355328 := by
  obtain ⟨fuel, hf⟩ := h
  rcases open_ints Ybad.underlying23 Ybad.underlying5 cells5 hf with ⟨hcs, hx⟩ | ⟨x, l, c, zs, hcs, _, hl, hm, hz, hx, hcell, hwz⟩
  · simp [Value.cells] at hcs
    obtain ⟨rfl, rfl, rfl⟩ := hcs
    exact ⟨[], ⟨rfl, Nat.le_refl _, by unfold maxLen; omega, fun h => absurd h (by omega)⟩, fun _ => rfl, by omega⟩
  · simp [Value.cells] at hcs
    obtain ⟨rfl, rfl, rfl⟩ := hcs
    simp at hz
    have hd := congrArg Prod.fst hx
    have hw := hr _ _ hd
    rw [bytes5] at hw
    simp only [lits, List.length_map, List.length_take, List.length_drop] at hw
    have hrb := reachBytes_lt
    refine ⟨(zs.take len).map fun n => UInt8.ofNat n.toNat, ⟨by simp; omega, hl, hm, fun hp => ?_⟩, (fun h => by cases h), by omega⟩
    obtain ⟨b, off, rfl, hc⟩ := ints_at hcell (by omega)
    refine ⟨b, off, rfl, fun i hi => ?_⟩
    rw [hc i (by omega)]
    have hb := bounds_u8 (hwz (zs.getD i 0) (by rw [List.getD_eq_getElem?_getD, List.getElem?_eq_getElem (show i < zs.length by omega)]; exact List.getElem_mem _))
    have e : ((zs.take len).map fun n => UInt8.ofNat n.toNat).getD i 0 = UInt8.ofNat (zs.getD i 0).toNat := by
      rw [List.getD_eq_getElem?_getD, List.getElem?_map, List.getElem?_take, if_pos hi, List.getD_eq_getElem?_getD, List.getElem?_eq_getElem (show i < zs.length by omega)]
      rfl
    rw [e]
    have : (UInt8.ofNat (zs.getD i 0).toNat).toNat = (zs.getD i 0).toNat := by
      rw [UInt8.toNat_ofNat']
      omega
    rw [this]
    congr 2
    omega

/-- the walk, of every input -/
theorem walk (s0 c0 h0 h1 h2 h3 : Int) (a3 a4 : Option Addr) (len3 cap3 len4 cap4 : Nat) (bs3 bs4 : List UInt8) (w : World) (hs0 : 0 ≤ s0 ∧ s0 ≤ 255) (hc0 : 0 ≤ c0 ∧ c0 ≤ 255) (hh : ∀ x ∈ [h0, h1, h2, h3], 0 ≤ x ∧ x ≤ 255)
    (hS3 : Sl w a3 len3 cap3 bs3) (hn3 : a3 = none → cap3 = 0) (hl3 : len3 ≤ 140737488355328) (hS4 : Sl w a4 len4 cap4 bs4) (hl4 : len4 ≤ 140737488355328) (te : TypeId) (pe : Value) (hv : w.cell? ⟨0, 0, none⟩ = some (.iface te pe)) :
    Calls Ybad.prog 3 #[.int .u8 s0, .agg #[.int .u8 h0, .int .u8 h1, .int .u8 h2, .int .u8 h3], .int .u8 c0, .slice a3 len3 cap3, .slice a4 len4 cap4] w fun e w' => e = .returned (.bool true) ∧ Below w.heap.size w w' := by
  by_cases hl : 1048576 < len3 + len4
  · exact law_long s0 c0 _ a3 a4 len3 cap3 len4 cap4 w hl3 hl4 hl
  · by_cases hs : (s0 % 4 == 0) = true
    · exact law_raw s0 c0 _ a3 a4 len3 cap3 len4 cap4 bs4 w (by omega) hS4 hs0.1 hs0.2 hs (.iface te pe) hv (Or.inr ⟨te, pe, rfl⟩)
    · exact law_built s0 c0 h0 h1 h2 h3 a3 a4 len3 cap3 len4 cap4 bs3 w (by omega) hS3 hn3 hh hs0.1 hs0.2 hc0.1 hc0.2 (by simpa using hs) (.iface te pe) hv (Or.inr ⟨te, pe, rfl⟩)

set_option maxRecDepth 100000 in
theorem lifted (os : Os) (started : os.Started) (H : Type) (enc : TypeId × Value → H) :
    ReturnsInHanded {} Ybad.checked os 3 .any (fun w args => (Rows.lawS7687BWholeSpec.pre enc Ybad.prog Ybad.f3 [] false w args ∧ laidMetH Ybad.prog Rows.lawS7687BWholeRow.laid w) ∧ sizedMet enc Ybad.prog Ybad.f3 (OpenSpec.ofChange Rows.lawS7687BWholeSpec) false w args)
      (Rows.lawS7687BWholeSpec.post enc Ybad.prog Ybad.f3 false true false false) := by
  refine returnsInHanded_of_change_and (C := Ybad.checked) (X := fun w _ => laidMetH Ybad.prog Rows.lawS7687BWholeRow.laid w) (fun _ _ _ hh h => h.of_heap hh) own started (by kernel_rfl) Ybad.func3
    (ChangeSpec.witness_shaped (enc := enc) (C := Ybad.checked) (os := os) (X := fun w _ => laidMetH Ybad.prog Rows.lawS7687BWholeRow.laid w) false (World.doorLaid Ybad.prog 400 os) #[.int .u8 0, .agg #[.int .u8 0, .int .u8 0, .int .u8 0, .int .u8 0], .int .u8 0, .slice none 0 0, .slice none 0 0] 8 rfl (World.shaped_of_RefB (by kernel_rfl) (by kernel_rfl)) (by kernel_rfl) (by kernel_rfl) (by kernel_rfl) (door_met os _)) ?_
  intro W base args ds gs before hval0 hW _ hsz hL _
  have hval : ∀ (j : Nat) t v, Ybad.f3.params[j]? = some t → args[j]? = some v → Value.okWide Ybad.prog W .any base t v := hval0
  have hW' := hW
  obtain ⟨p, q, hA0, hV, rfl, hfz, hnd⟩ := hW
  have hA : DataW.TrodAll enc Ybad.prog W 0 (fun _ => true) true Ybad.f3.params.toList args.toList ds p := hA0
  rw [Ybad.params3] at hA hval
  rw [Ybad.params3] at hsz
  obtain ⟨v0, vs0, d0, ds0, p0, q0, hargs, rfl, rfl, h0, r0⟩ := trodAll_cons hA
  obtain ⟨v1, vs1, d1, ds1, p1, q1, rfl, rfl, rfl, h1, r1⟩ := trodAll_cons r0
  obtain ⟨v2, vs2, d2, ds2, p2, q2, rfl, rfl, rfl, h2, r2⟩ := trodAll_cons r1
  obtain ⟨v3, vs3, d3, ds3, p3, q3, rfl, rfl, rfl, h3, r3⟩ := trodAll_cons r2
  obtain ⟨v4, vs4, d4, ds4, p4, q4, rfl, rfl, rfl, h4, r4⟩ := trodAll_cons r3
  obtain ⟨rfl, rfl, rfl⟩ := trodAll_nil r4
  obtain rfl : args = #[v0, v1, v2, v3, v4] := by cases args; simp_all
  obtain ⟨rfl, rfl⟩ := trodVars_none hV
  obtain ⟨s0, rfl, rfl, rfl, w0⟩ := open_int Ybad.underlying5 (hval 0 5 v0 rfl rfl) h0
  obtain ⟨c0, rfl, rfl, rfl, w2⟩ := open_int Ybad.underlying5 (hval 2 5 v2 rfl rfl) h2
  obtain ⟨a3, len3, cap3, rfl⟩ := okWide_slice Ybad.underlying23 (hval 3 23 v3 rfl rfl)
  obtain ⟨a4, len4, cap4, rfl⟩ := okWide_slice Ybad.underlying23 (hval 4 23 v4 rfl rfl)
  have k1 := h1
  have k3 := h3
  have k4 := h4
  have lt1 : ∀ x ∈ p1, x.block < W.heap.size := by obtain ⟨m, hm⟩ := k1; exact DataW.trod_lt m _ _ _ hm
  have lt3 : ∀ x ∈ p3, x.block < W.heap.size := by obtain ⟨m, hm⟩ := k3; exact DataW.trod_lt m _ _ _ hm
  have lt4 : ∀ x ∈ p4, x.block < W.heap.size := by obtain ⟨m, hm⟩ := k4; exact DataW.trod_lt m _ _ _ hm
  obtain ⟨x0, x1, x2, x3, rfl, hx⟩ := open_arr (hval 1 22 v1 rfl rfl) h1
  obtain ⟨bs3, hS3, hn3, hl3⟩ := open_bytes h3 (fun elems spare e => sized_slice hsz (j := 3) (t := 23) (e := 5) rfl (by rw [e]; rfl) Ybad.underlying23)
  obtain ⟨bs4, hS4, hn4, hl4⟩ := open_bytes h4 (fun elems spare e => sized_slice hsz (j := 4) (t := 23) (e := 5) rfl (by rw [e]; rfl) Ybad.underlying23)
  obtain ⟨te, pe, hv⟩ := of_laid hL
  obtain ⟨s00, s01⟩ := bounds_u8 w0
  obtain ⟨c00, c01⟩ := bounds_u8 w2
  clear hA0 hval0
  refine (walk s0 c0 x0 x1 x2 x3 a3 a4 len3 cap3 len4 cap4 bs3 bs4 W ⟨s00, by omega⟩ ⟨c00, by omega⟩ hx hS3 hn3 hl3 hS4 hl4 te pe hv).mono fun e W' ⟨he, bel⟩ => ?_
  subst he
  exact ⟨_, rfl, _, _, _, [], _, [], hW', trodAll_mk1 (shut_bool Ybad.underlying4 _), (trodAll_cons_mk (shut_int Ybad.underlying5 w0) (trodAll_cons_mk (Below.trod laidOut (by kernel_rfl) (of_decide_eq_true (by kernel_rfl)) k1 bel lt1) (trodAll_cons_mk (shut_int Ybad.underlying5 w2) (trodAll_cons_mk (Below.trod laidOut (by kernel_rfl) (of_decide_eq_true (by kernel_rfl)) k3 bel lt3) (trodAll_cons_mk (Below.trod laidOut (by kernel_rfl) (of_decide_eq_true (by kernel_rfl)) k4 bel lt4) trodAll_mk0))))), rfl, bel.frame _, fun h => by cases h⟩

theorem row_holds : Rows.LawS7687BWholeSaid :=
  OpenClaim.holds_of_wide 3 Ybad.f3 rfl rfl rfl rfl rfl rfl rfl ⟨rfl, rfl, rfl, rfl, rfl⟩ rfl rfl rfl rfl rfl (by kernel_rfl) Ybad.func3 (by kernel_rfl)
    (of_decide_eq_true (by kernel_rfl)) (by unfold Func.isWrapper; first | (rw [if_pos (by decide +kernel)]; kernel_rfl) | (rw [if_neg (by decide +kernel)]; exact ⟨rfl, rfl⟩))
    (fun os started H enc _ => lifted os started H enc)

/-- THE TIED CARD -/
theorem proved : Rows.LawS7687BWholeCardSaid :=
  Claim7.holds_tied_plain_at .later [] [.data, .data, .data, .sentinel, .sentinel] true (true, "d140e8d6566fd41776d4b6b2e8a09d88f26ccac99236f2aa6d1bc0b19ee4dfa4") true
    row_holds (fun _ h => by cases h) (by kernel_rfl) (fun _ h => by cases h) lawS7687BWhole_row_tie rfl ⟨rfl, rfl⟩ (by kernel_rfl) rfl
    (fun f fn hf hfn => by
      obtain rfl : f = 3 := Option.some.inj ((show Ybad.prog.funcNamed Rows.lawS7687BWholeRow.func = some 3 by kernel_rfl).symm.trans hf) |>.symm
      obtain rfl : fn = Ybad.f3 := (Option.some.inj (Ybad.func3.symm.trans hfn)).symm
      exact ⟨by kernel_rfl, fun j t ht => by
        rw [Ybad.params3] at ht
        have hm : t ∈ [5, 22, 5, 23, 23] := by simpa using Array.mem_of_getElem? ht
        have hall : ([5, 22, 5, 23, 23].all fun u => !Ybad.prog.wantsStandIn u) = true := by kernel_rfl
        exact (show Ybad.prog.wantsStandIn t = false by simpa using List.all_eq_true.1 hall t hm)⟩)
    (by kernel_rfl)
end Go.Proofs.YbulkfceeDoor.lawS7687BWhole
