import Derived.Test.YbulkfceeDoorWalksG
import Derived.WalkSmall
import Derived.WalkSpells
import Derived.OwnWalk
import Derived.Laws.AppendOwn
import Derived.Laws.AppendOwnNone
import Derived.Maps.AppendAt
namespace Go.Proofs.YbulkfceeDoor
open Go.RowKit
set_option linter.unusedVariables false
def tbl : ByteArray := ⟨#[48, 49, 50, 51, 52, 53, 54, 55, 56, 57, 97, 98, 99, 100, 101, 102, 65, 66, 67, 68, 69, 70, 48, 49, 50, 51, 52, 53, 54, 55, 56, 57, 97, 70, 95, 43, 45, 32, 120, 103, 71, 92, 117]⟩
/-- what the loop knows behind k rounds -/
def Built (w0 : World) (hs : List Int) (len3 : Nat) (k : Nat) (v : Value) (W : World) : Prop :=
  ∃ bs : List UInt8, bs.length = 2 + k ∧ W.ownsRow (w0.heap.size + 1) 5 1 v (2 + k) (Lib.byteCells bs) ∧ Below w0.heap.size w0 W ∧ w0.heap.size < W.heap.size ∧ ∀ j, j < 4 → W.cell? ⟨w0.heap.size, j, none⟩ = some (.int .u8 (hs.getD j 0))
theorem tbl_at (x : Int) (h0 : 0 ≤ x) : ∃ c : UInt8, ∀ W, (Instr.index 9 (.string ⟨#[48, 49, 50, 51, 52, 53, 54, 55, 56, 57, 97, 98, 99, 100, 101, 102, 65, 66, 67, 68, 69, 70, 48, 49, 50, 51, 52, 53, 54, 55, 56, 57, 97, 70, 95, 43, 45, 32, 120, 103, 71, 92, 117]⟩) (.int .i64 (x % 43))).run Ybad.prog W = .ok (.int .u8 (c.toNat : Int)) W := by
  obtain ⟨j, hj⟩ : ∃ j : Nat, x % 43 = (j : Int) := Int.eq_ofNat_of_zero_le (by omega)
  have hj43 : j < tbl.size := by show j < 43; omega
  refine ⟨tbl[j], fun W => ?_⟩
  show (Instr.index 9 (.string tbl) (.int .i64 (x % 43))).run Ybad.prog W = _
  rw [hj, run_index_string W 9 tbl .i64 (j : Int) Ybad.underlying9, dif_pos ⟨by omega, by omega⟩]
  rfl
theorem built_start (w : World) (hs : List Int) (len3 : Nat) (A M C : Array Value) (v1 : Value) (w1 : World) (hA : ∀ j, j < 4 → (w.alloc (.cells A 22)).cell? ⟨w.heap.size, j, none⟩ = some (.int .u8 (hs.getD j 0)))
    (hown : w1.ownsRow (w.heap.size + 1) 5 1 v1 2 [.int .u8 92, .int .u8 117]) (hg : (((w.alloc (.cells A 22)).alloc (.cells M 5)).alloc (.cells C 5)).grownBy w1 (some (w.heap.size + 1))) : Built w hs len3 0 v1 w1 := by
  have hb : Below w.heap.size w (((w.alloc (.cells A 22)).alloc (.cells M 5)).alloc (.cells C 5)) := (((Below.refl _ w).alloc (Nat.le_refl _) _).alloc (by simp) _).alloc (by simp; omega) _
  have hsz := hg.size
  simp at hsz
  refine ⟨[92, 117], rfl, hown, hb.grown hg (by simp; omega) (by intro k hk; have := Option.some.inj hk; omega), by omega, fun j hj => hg.cell ?_ (by simp)⟩
  have h1 := hA j hj
  have k1 : Below (w.alloc (.cells A 22)).heap.size (w.alloc (.cells A 22)) ((w.alloc (.cells A 22)).alloc (.cells M 5)) := (Below.refl _ _).alloc (Nat.le_refl _) _
  have h2 := (k1.cell (p := ⟨w.heap.size, j, none⟩) (by simp)).trans h1
  have k2 : Below ((w.alloc (.cells A 22)).alloc (.cells M 5)).heap.size ((w.alloc (.cells A 22)).alloc (.cells M 5)) (((w.alloc (.cells A 22)).alloc (.cells M 5)).alloc (.cells C 5)) := (Below.refl _ _).alloc (Nat.le_refl _) _
  exact (k2.cell (p := ⟨w.heap.size, j, none⟩) (by simp; omega)).trans h2
theorem built_step (w : World) (hs : List Int) (len3 k : Nat) (bs : List UInt8) (c : UInt8) (v v' : Value) (W W' : World) (hbl : bs.length = 2 + k) (hown : W.ownsRow (w.heap.size + 1) 5 1 v (2 + k) (Lib.byteCells bs))
    (hbel : Below w.heap.size w W) (hsz : w.heap.size < W.heap.size) (hcl : ∀ j, j < 4 → W.cell? ⟨w.heap.size, j, none⟩ = some (.int .u8 (hs.getD j 0)))
    (hown' : W'.ownsRow (w.heap.size + 1) 5 1 v' (2 + k + 1) (Lib.byteCells bs ++ [.int .u8 (c.toNat : Int)])) (hg : (W.alloc (.cells #[.int .u8 (c.toNat : Int)] 5)).grownBy W' v.ownBlock) : Built w hs len3 (k + 1) v' W' := by
  have hrow : ∀ q, v.ownBlock = some q → w.heap.size + 1 ≤ q := fun q hq => (hown.lt q hq).1
  have hb : Below w.heap.size w (W.alloc (.cells #[.int .u8 (c.toNat : Int)] 5)) := hbel.alloc (by omega) _
  have hsz' := hg.size
  simp at hsz'
  refine ⟨bs ++ [c], by simp [hbl]; omega, ?_, hb.grown hg (by simp; omega) (fun q hq => by have := hrow q hq; omega), by omega, fun j hj => hg.cell ?_ (fun e => by have := hrow _ e.symm; simp at this; omega)⟩
  · rw [Lib.byteCells_append]
    exact hown'
  · have k1 : Below W.heap.size W (W.alloc (.cells #[.int .u8 (c.toNat : Int)] 5)) := (Below.refl _ _).alloc (Nat.le_refl _) _
    exact (k1.cell (p := ⟨w.heap.size, j, none⟩) hsz).trans (hcl j hj)
theorem own_sl {W : World} {B n : Nat} {v : Value} {bs : List UInt8} (h : W.ownsRow B 5 1 v n (Lib.byteCells bs)) (hn : 0 < n) :
    ∃ g cap, v = .slice (some ⟨g, 0, none⟩) n cap ∧ B ≤ g ∧ n ≤ cap ∧ cap ≤ maxLen ∧ ∀ m, m ≤ n → Sl W (some ⟨g, 0, none⟩) m cap (bs.take m) := by
  have hl := h.1
  rw [Lib.byteCells_length] at hl
  rcases h.2 with ⟨_, h0⟩ | ⟨g, cap, cur, rfl, hB, hg, hnc, hcm, hcs, htake⟩
  · omega
  · refine ⟨g, cap, rfl, hB, hnc, hcm, fun m hm => ⟨by rw [List.length_take]; omega, Nat.le_trans hm hnc, hcm, fun _ => ⟨g, 0, rfl, fun i hi => ?_⟩⟩⟩
    have hx : bs[i]? = some (bs[i]'(by omega)) := List.getElem?_eq_getElem (by omega)
    have := h.cells (g := g) rfl i (.int .u8 ((bs[i]'(by omega)).toNat : Int)) (by simp [Lib.byteCells, hx])
    have e : (⟨g, 0, none⟩ : Addr).add i = ⟨g, 0 + i, none⟩ := by unfold Addr.add; split <;> simp_all
    rw [e] at this
    rw [this, List.getD_eq_getElem?_getD, List.getElem?_take, if_pos hi, hx]
    rfl
theorem Sl.news {W : World} {ad : Addr} {len cap : Nat} {bs : List UInt8} (h : Sl W (some ad) len cap bs) : ∀ j u, (Lib.byteCells bs)[j]? = some u → W.cell? (ad.add j) = some u := by
  intro j u hj
  obtain ⟨h1, h2, h3, h4⟩ := h
  have hjl : j < bs.length := by
    have := (List.getElem?_eq_some_iff.1 hj).1
    rwa [Lib.byteCells_length] at this
  obtain ⟨b, off, e, hc⟩ := h4 (by omega)
  obtain rfl := Option.some.inj e
  have e : (⟨b, off, none⟩ : Addr).add j = ⟨b, off + j, none⟩ := by unfold Addr.add; split <;> simp_all
  rw [e, hc j (by omega)]
  rw [List.getD_eq_getElem?_getD, List.getElem?_eq_getElem hjl]
  simpa [Lib.byteCells, List.getElem?_eq_getElem hjl] using hj
/-- what stands behind the last append: the slice's row, all that the rest of the law asks -/
theorem built_end (w W : World) (ev : Value) (hv : w.cell? ⟨0, 0, none⟩ = some ev) (hbel : Below w.heap.size w W) (g cap m : Nat) (bs : List UInt8) (hS : Sl W (some ⟨g, 0, none⟩) m cap bs) (hm : m ≤ 281474976710656) :
    ∃ M W4, (∀ X : World, (Instr.makeSlice 23 (.int .i64 (m : Int)) (.int .i64 (m : Int))).run Ybad.prog X = .ok (.slice (some ⟨X.heap.size, 0, none⟩) m m) (X.alloc (.cells M 5))) ∧
      (Builtin.copy_ #[23, 23] 3 #[.slice (some ⟨W.heap.size, 0, none⟩) m m, .slice (some ⟨g, 0, none⟩) m cap]).run Ybad.prog (W.alloc (.cells M 5)) = .ok (goInt m) W4 ∧
      Sl W4 (some ⟨W.heap.size, 0, none⟩) m m bs ∧ Sl W4 (some ⟨g, 0, none⟩) m cap bs ∧ Below w.heap.size w W4 ∧ W4.cell? ⟨0, 0, none⟩ = some ev := by
  obtain ⟨M, hM, hmk⟩ := make_run m hm
  obtain ⟨W4, hcp, hsl, hb4⟩ := copy_own W (some ⟨g, 0, none⟩) m cap bs hS M hM
  have hb : Below w.heap.size w W4 := hbel.trans (hb4.mono hbel.size)
  exact ⟨M, W4, hmk, hcp, hsl, hS.kept hb4, hb, below_cell hv hb⟩
set_option maxHeartbeats 4000000 in
set_option maxRecDepth 100000 in
theorem law_built (s0 c0 : Int) (h0 h1 h2 h3 : Int) (a3 a4 : Option Addr) (len3 cap3 len4 cap4 : Nat) (bs3 : List UInt8) (w : World) (hl : len3 + len4 ≤ 1048576) (hS3 : Sl w a3 len3 cap3 bs3) (hn3 : a3 = none → cap3 = 0)
    (hh : ∀ x ∈ [h0, h1, h2, h3], 0 ≤ x ∧ x ≤ 255)
    (hs0 : 0 ≤ s0) (hs1 : s0 ≤ 255) (hc0 : 0 ≤ c0) (hc1 : c0 ≤ 255) (hs : (s0 % 4 == 0) = false) (ev : Value) (hv : w.cell? ⟨0, 0, none⟩ = some ev) (hev : ev = .nilIface ∨ ∃ te pe, ev = .iface te pe) :
    Calls Ybad.prog 3 #[.int .u8 s0, .agg #[.int .u8 h0, .int .u8 h1, .int .u8 h2, .int .u8 h3], .int .u8 c0, .slice a3 len3 cap3, .slice a4 len4 cap4] w fun e w' => e = .returned (.bool true) ∧ Below w.heap.size w w' := by
  obtain ⟨i0, hi, hz0, hz1, hz2⟩ := info5_parts
  obtain ⟨M, hM, hmk0⟩ := make0_run (6 + len3) (by omega)
  have hmk : ∀ W : World, (Instr.makeSlice 23 (.int .i64 0) (.int .i64 (6 + (len3 : Int)))).run Ybad.prog W = .ok (.slice (some ⟨W.heap.size, 0, none⟩) 0 (6 + len3)) (W.alloc (.cells M 5)) := fun W => by
    have := hmk0 W
    rwa [show ((6 + len3 : Nat) : Int) = 6 + (len3 : Int) from by omega] at this
  clear hmk0
  have HI := Lib.hid (And.intro hi (And.intro hz0 (And.intro hz1 hz2)))
  have HS := Lib.hid (And.intro hS3 hn3)
  have HV := Lib.hid hv
  clear hi hz0 hz1 hz2 hS3 hn3 hv
  obtain ⟨A, hA⟩ : ∃ A : Array Value, A = #[.int .u8 h0, .int .u8 h1, .int .u8 h2, .int .u8 h3] := ⟨_, rfl⟩
  have HA : Hid (∀ j, j < 4 → (w.alloc (.cells A 22)).cell? ⟨w.heap.size, j, none⟩ = some (.int .u8 ([h0, h1, h2, h3].getD j 0))) := Lib.hid (fun j hj => by
    subst hA
    have e := heap_alloc_new w (.cells #[.int .u8 h0, .int .u8 h1, .int .u8 h2, .int .u8 h3] 22)
    unfold World.cell?
    rw [e]
    rcases (by omega : j = 0 ∨ j = 1 ∨ j = 2 ∨ j = 3) with rfl | rfl | rfl | rfl <;> rfl)
  have HO : Hid (((w.alloc (.cells A 22)).alloc (.cells M 5)).ownsRow (w.heap.size + 1) 5 1 (.slice (some ⟨w.heap.size + 1, 0, none⟩) 0 (6 + len3)) 0 []) := Lib.hid (by
    have := World.ownsRow_made (base := w.heap.size + 1) (e := 5) (size := 1) (w.alloc (.cells A 22)) M (6 + len3) (by simp) (by unfold maxLen; omega) (by omega)
    simpa using this)
  have HN : Hid (∀ j u, [Value.int .u8 92, Value.int .u8 117][j]? = some u → (((w.alloc (.cells A 22)).alloc (.cells M 5)).alloc (.cells #[.int .u8 92, .int .u8 117] 5)).cell? ((⟨w.heap.size + 1 + 1, 0, none⟩ : Addr).add j) = some u) := Lib.hid (by
    have := cell_two_new ((w.alloc (.cells A 22)).alloc (.cells M 5)) (.int .u8 92) (.int .u8 117) 5
    simpa using this)
  rw [← hA]
  clear hA hM
  go_enter Ybad.func3, Ybad.ntmps3
  go_wp2_with (at_builtin; go_must (refine wpList_append_own _ rfl (.tmp 31) (.tmp 32) 23 rfl (w.heap.size + 1) 5 i0 (.int .u8 0) 1 1 Ybad.underlying23 HI.out.1 HI.out.2.1 HI.out.2.2.1 HI.out.2.2.2 rfl (by decide) _ 0 [] rfl (HO.out.alloc _) ⟨w.heap.size + 1 + 1, 0, none⟩ 2 2 [.int .u8 92, .int .u8 117] rfl rfl HN.out ?_ (by unfold maxLen; omega) (by omega) (by first | (simp; done) | (simp; omega)) ?_); (intro u hu; simp at hu; rcases hu with rfl | rfl <;> rfl); intro v1 w1 hown1 hgrow1 hnil1)
  have hg1 : (((w.alloc (.cells A 22)).alloc (.cells M 5)).alloc (.cells #[.int .u8 92, .int .u8 117] 5)).grownBy w1 (some (w.heap.size + 1)) := hgrow1
  have HB1 : Hid (Built w [h0, h1, h2, h3] len3 0 v1 w1) := Lib.hid (built_start w _ len3 A M _ v1 w1 HA.out (by simpa using hown1) hg1)
  clear hown1 hgrow1 hnil1 hg1 HA HO HN hmk M
  go_loopw [11, 14] (fun s i W => ∃ k : Nat, k ≤ 4 ∧ i = .int .i64 k ∧ Built w [h0, h1, h2, h3] len3 k s W) (fun _ i _ => 4 - (intOf i).toNat)
  case atStart => exact ⟨0, by omega, rfl, HB1.out⟩
  case round =>
    obtain ⟨k, hk, rfl, hb⟩ := hrel
    by_cases hk4 : k < 4
    · obtain ⟨bs, hbl, hown, hbel, hsz, hcl⟩ := hb
      have hc := hcl k hk4
      have hx := hh ([h0, h1, h2, h3].getD k 0) (by rw [List.getD_eq_getElem?_getD, List.getElem?_eq_getElem (show k < [h0, h1, h2, h3].length from hk4)]; exact List.getElem_mem _)
      generalize [h0, h1, h2, h3].getD k 0 = x at hc hx
      obtain ⟨x0, x1⟩ := hx
      have Hown := Lib.hid hown
      have Hrest := Lib.hid (And.intro hbel hcl)
      clear hown hbel hcl HB1 hh
      obtain ⟨c, hidx⟩ := tbl_at x x0
      go_wp2_with (at_builtin; go_must (refine wpList_append_own _ rfl (.tmp 38) (.tmp 45) 23 rfl (w.heap.size + 1) 5 i0 (.int .u8 0) 1 1 Ybad.underlying23 HI.out.1 HI.out.2.1 HI.out.2.2.1 HI.out.2.2.2 rfl (by decide) _ (2 + k) (Lib.byteCells bs) rfl (Hown.out.alloc _) ⟨_, 0, none⟩ 1 1 [.int .u8 (c.toNat : Int)] rfl rfl (cell_one_new _ _ _) ?_ (by unfold maxLen; omega) (by omega) (by first | (simp; done) | (simp; omega)) ?_); (intro u hu; simp at hu; subst hu; rfl); intro v2 w2 hown2 hgrow2 hnil2)
      exact ⟨⟨k + 1, by omega, by go_num, built_step w _ len3 k bs c _ _ _ _ hbl Hown.out Hrest.out.1 hsz Hrest.out.2 hown2 hgrow2⟩, by simp [intOf]; omega⟩
    · obtain rfl : k = 4 := by omega
      obtain ⟨bs, hbl, hown, hbel, hsz, hcl⟩ := hb
      have Hown := Lib.hid hown
      have hcap := HS.out.2
      have HS := Lib.hid ((HS.out.1).kept hbel)
      clear hown hcl hk4 hk HB1
      obtain ⟨q, hq⟩ : ∃ q : Nat, c0 % 7 = (q : Int) := Int.eq_ofNat_of_zero_le (by omega)
      have hq7 : q < 7 := by omega
      cases a3 with
      | some ad =>
        clear hcap
        obtain ⟨n, hn⟩ : ∃ n, n = 6 + len3 := ⟨_, rfl⟩
        have hn6 : 6 ≤ n := by omega
        have hnb : n ≤ 1048582 := by omega
        have HNn : Hid (6 + len3 = n) := Lib.hid hn.symm
        clear hn
        by_cases hs3 : (s0 % 4 == 3) = true
        · by_cases hqn : q < n
          · go_wp2_with (at_builtin; go_must (refine wpList_append_own _ rfl (.tmp 47) (.tmp 48) 23 rfl (w.heap.size + 1) 5 i0 (.int .u8 0) 1 1 Ybad.underlying23 HI.out.1 HI.out.2.1 HI.out.2.2.1 HI.out.2.2.2 rfl (by decide) _ 6 (Lib.byteCells bs) rfl Hown.out ad len3 cap3 (Lib.byteCells bs3) rfl (by rw [Lib.byteCells_length, HS.out.1]; omega) HS.out.news (Lib.byteCells_one bs3) (by unfold maxLen; omega) (by omega) (by omega) ?_); intro v3 w3 hown3 hgrow3 hnil3; rw [← Lib.byteCells_append, HNn.out] at hown3; obtain ⟨g, cap, rfl, hBg, hnc, hcm, hsl⟩ := own_sl hown3 (by omega); have hbel3 : Below w.heap.size w w3 := hbel.grown hgrow3 (by omega) (fun q hq => by have := (Hown.out.lt q hq).1; omega); unfold maxLen at hcm; obtain ⟨M, W4, hmk, hcp, hs1, hs2, hb4, hv4⟩ := built_end w w3 ev HV.out hbel3 g cap q _ (hsl q (by omega)) (by omega); have HF := Lib.hid (And.intro hs1 (And.intro hs2 (And.intro hb4 hv4))); clear hown3 hgrow3 hnil3 hs1 hs2 hb4 hv4 hsl hbel3)
            refine (esc_any _ _ _ _ _ HF.out.2.1 ev HF.out.2.2.2 hev).mono ?_
            rintro e w5 ⟨rfl, hb5⟩
            have h1' := Lib.hid (Sl.kept HF.out.1 hb5)
            have h2' := Lib.hid (Sl.kept HF.out.2.1 hb5)
            go_wp2_with fail
            refine (model_any _ _ _ _ _ h1'.out).mono ?_
            rintro e w6 ⟨rfl, rfl⟩
            go_wp2_with (go_at_call 6; refine (equal_same _ _ _ _ _ _ _ _ (conv_any _ _ _ _ _ h2'.out) (conv_any _ _ _ _ _ h1'.out)).mono ?_; rintro e w7 ⟨rfl, rfl⟩)
            go_ret
            exact ⟨rfl, HF.out.2.2.1.trans (hb5.mono HF.out.2.2.1.size)⟩
          · go_wp2_with (at_builtin; go_must (refine wpList_append_own _ rfl (.tmp 47) (.tmp 48) 23 rfl (w.heap.size + 1) 5 i0 (.int .u8 0) 1 1 Ybad.underlying23 HI.out.1 HI.out.2.1 HI.out.2.2.1 HI.out.2.2.2 rfl (by decide) _ 6 (Lib.byteCells bs) rfl Hown.out ad len3 cap3 (Lib.byteCells bs3) rfl (by rw [Lib.byteCells_length, HS.out.1]; omega) HS.out.news (Lib.byteCells_one bs3) (by unfold maxLen; omega) (by omega) (by omega) ?_); intro v3 w3 hown3 hgrow3 hnil3; rw [← Lib.byteCells_append, HNn.out] at hown3; obtain ⟨g, cap, rfl, hBg, hnc, hcm, hsl⟩ := own_sl hown3 (by omega); have hbel3 : Below w.heap.size w w3 := hbel.grown hgrow3 (by omega) (fun q hq => by have := (Hown.out.lt q hq).1; omega); unfold maxLen at hcm; obtain ⟨M, W4, hmk, hcp, hs1, hs2, hb4, hv4⟩ := built_end w w3 ev HV.out hbel3 g cap n _ (hsl n (by omega)) (by omega); have HF := Lib.hid (And.intro hs1 (And.intro hs2 (And.intro hb4 hv4))); clear hown3 hgrow3 hnil3 hs1 hs2 hb4 hv4 hsl hbel3)
            refine (esc_any _ _ _ _ _ HF.out.2.1 ev HF.out.2.2.2 hev).mono ?_
            rintro e w5 ⟨rfl, hb5⟩
            have h1' := Lib.hid (Sl.kept HF.out.1 hb5)
            have h2' := Lib.hid (Sl.kept HF.out.2.1 hb5)
            go_wp2_with fail
            refine (model_any _ _ _ _ _ h1'.out).mono ?_
            rintro e w6 ⟨rfl, rfl⟩
            go_wp2_with (go_at_call 6; refine (equal_same _ _ _ _ _ _ _ _ (conv_any _ _ _ _ _ h2'.out) (conv_any _ _ _ _ _ h1'.out)).mono ?_; rintro e w7 ⟨rfl, rfl⟩)
            go_ret
            exact ⟨rfl, HF.out.2.2.1.trans (hb5.mono HF.out.2.2.1.size)⟩
        · have hs3' : (s0 % 4 == 3) = false := by simpa using hs3
          clear hs3
          go_wp2_with (at_builtin; go_must (refine wpList_append_own _ rfl (.tmp 47) (.tmp 48) 23 rfl (w.heap.size + 1) 5 i0 (.int .u8 0) 1 1 Ybad.underlying23 HI.out.1 HI.out.2.1 HI.out.2.2.1 HI.out.2.2.2 rfl (by decide) _ 6 (Lib.byteCells bs) rfl Hown.out ad len3 cap3 (Lib.byteCells bs3) rfl (by rw [Lib.byteCells_length, HS.out.1]; omega) HS.out.news (Lib.byteCells_one bs3) (by unfold maxLen; omega) (by omega) (by omega) ?_); intro v3 w3 hown3 hgrow3 hnil3; rw [← Lib.byteCells_append, HNn.out] at hown3; obtain ⟨g, cap, rfl, hBg, hnc, hcm, hsl⟩ := own_sl hown3 (by omega); have hbel3 : Below w.heap.size w w3 := hbel.grown hgrow3 (by omega) (fun q hq => by have := (Hown.out.lt q hq).1; omega); unfold maxLen at hcm; obtain ⟨M, W4, hmk, hcp, hs1, hs2, hb4, hv4⟩ := built_end w w3 ev HV.out hbel3 g cap n _ (hsl n (by omega)) (by omega); have HF := Lib.hid (And.intro hs1 (And.intro hs2 (And.intro hb4 hv4))); clear hown3 hgrow3 hnil3 hs1 hs2 hb4 hv4 hsl hbel3)
          refine (esc_any _ _ _ _ _ HF.out.2.1 ev HF.out.2.2.2 hev).mono ?_
          rintro e w5 ⟨rfl, hb5⟩
          have h1' := Lib.hid (Sl.kept HF.out.1 hb5)
          have h2' := Lib.hid (Sl.kept HF.out.2.1 hb5)
          go_wp2_with fail
          refine (model_any _ _ _ _ _ h1'.out).mono ?_
          rintro e w6 ⟨rfl, rfl⟩
          go_wp2_with (go_at_call 6; refine (equal_same _ _ _ _ _ _ _ _ (conv_any _ _ _ _ _ h2'.out) (conv_any _ _ _ _ _ h1'.out)).mono ?_; rintro e w7 ⟨rfl, rfl⟩)
          go_ret
          exact ⟨rfl, HF.out.2.2.1.trans (hb5.mono HF.out.2.2.1.size)⟩
      | none =>
        obtain rfl := hcap rfl
        obtain rfl : len3 = 0 := by have := HS.out.2.1; omega
        obtain ⟨n, hn, Hown⟩ : ∃ n, n = 6 ∧ Hid (World.ownsRow _ (w.heap.size + 1) 5 1 _ n (Lib.byteCells bs)) := ⟨6, rfl, Hown⟩
        have hn6 : 6 ≤ n := by omega
        have hnb : n ≤ 6 := by omega
        clear hn
        obtain ⟨g, cap, rfl, hBg, hnc, hcm, hsl⟩ := own_sl Hown.out (by omega)
        unfold maxLen at hcm
        by_cases hs3 : (s0 % 4 == 3) = true
        · by_cases hqn : q < n
          · obtain ⟨M, W4, hmk, hcp, hs1, hs2, hb4, hv4⟩ := built_end w _ ev HV.out hbel g cap q _ (hsl q (by omega)) (by omega)
            have HF := Lib.hid (And.intro hs1 (And.intro hs2 (And.intro hb4 hv4)))
            clear hs1 hs2 hb4 hv4 hsl
            go_wp2_with (at_builtin; go_must (refine wpList_append_own_none rfl (.tmp 47) (.tmp 48) 23 rfl (w.heap.size + 1) 5 i0 1 Ybad.underlying23 HI.out.1 _ n (Lib.byteCells bs) rfl Hown.out rfl ?_))
            refine (esc_any _ _ _ _ _ HF.out.2.1 ev HF.out.2.2.2 hev).mono ?_
            rintro e w5 ⟨rfl, hb5⟩
            have h1' := Lib.hid (Sl.kept HF.out.1 hb5)
            have h2' := Lib.hid (Sl.kept HF.out.2.1 hb5)
            go_wp2_with fail
            refine (model_any _ _ _ _ _ h1'.out).mono ?_
            rintro e w6 ⟨rfl, rfl⟩
            go_wp2_with (go_at_call 6; refine (equal_same _ _ _ _ _ _ _ _ (conv_any _ _ _ _ _ h2'.out) (conv_any _ _ _ _ _ h1'.out)).mono ?_; rintro e w7 ⟨rfl, rfl⟩)
            go_ret
            exact ⟨rfl, HF.out.2.2.1.trans (hb5.mono HF.out.2.2.1.size)⟩
          · obtain ⟨M, W4, hmk, hcp, hs1, hs2, hb4, hv4⟩ := built_end w _ ev HV.out hbel g cap n _ (hsl n (by omega)) (by omega)
            have HF := Lib.hid (And.intro hs1 (And.intro hs2 (And.intro hb4 hv4)))
            clear hs1 hs2 hb4 hv4 hsl
            go_wp2_with (at_builtin; go_must (refine wpList_append_own_none rfl (.tmp 47) (.tmp 48) 23 rfl (w.heap.size + 1) 5 i0 1 Ybad.underlying23 HI.out.1 _ n (Lib.byteCells bs) rfl Hown.out rfl ?_))
            refine (esc_any _ _ _ _ _ HF.out.2.1 ev HF.out.2.2.2 hev).mono ?_
            rintro e w5 ⟨rfl, hb5⟩
            have h1' := Lib.hid (Sl.kept HF.out.1 hb5)
            have h2' := Lib.hid (Sl.kept HF.out.2.1 hb5)
            go_wp2_with fail
            refine (model_any _ _ _ _ _ h1'.out).mono ?_
            rintro e w6 ⟨rfl, rfl⟩
            go_wp2_with (go_at_call 6; refine (equal_same _ _ _ _ _ _ _ _ (conv_any _ _ _ _ _ h2'.out) (conv_any _ _ _ _ _ h1'.out)).mono ?_; rintro e w7 ⟨rfl, rfl⟩)
            go_ret
            exact ⟨rfl, HF.out.2.2.1.trans (hb5.mono HF.out.2.2.1.size)⟩
        · have hs3' : (s0 % 4 == 3) = false := by simpa using hs3
          clear hs3
          obtain ⟨M, W4, hmk, hcp, hs1, hs2, hb4, hv4⟩ := built_end w _ ev HV.out hbel g cap n _ (hsl n (by omega)) (by omega)
          have HF := Lib.hid (And.intro hs1 (And.intro hs2 (And.intro hb4 hv4)))
          clear hs1 hs2 hb4 hv4 hsl
          go_wp2_with (at_builtin; go_must (refine wpList_append_own_none rfl (.tmp 47) (.tmp 48) 23 rfl (w.heap.size + 1) 5 i0 1 Ybad.underlying23 HI.out.1 _ n (Lib.byteCells bs) rfl Hown.out rfl ?_))
          refine (esc_any _ _ _ _ _ HF.out.2.1 ev HF.out.2.2.2 hev).mono ?_
          rintro e w5 ⟨rfl, hb5⟩
          have h1' := Lib.hid (Sl.kept HF.out.1 hb5)
          have h2' := Lib.hid (Sl.kept HF.out.2.1 hb5)
          go_wp2_with fail
          refine (model_any _ _ _ _ _ h1'.out).mono ?_
          rintro e w6 ⟨rfl, rfl⟩
          go_wp2_with (go_at_call 6; refine (equal_same _ _ _ _ _ _ _ _ (conv_any _ _ _ _ _ h2'.out) (conv_any _ _ _ _ _ h1'.out)).mono ?_; rintro e w7 ⟨rfl, rfl⟩)
          go_ret
          exact ⟨rfl, HF.out.2.2.1.trans (hb5.mono HF.out.2.2.1.size)⟩
end Go.Proofs.YbulkfceeDoor
