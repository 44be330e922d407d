import Derived.Test.YbulkfcfgWalksD2
import Derived.Lib.SliceRun
namespace Go.Proofs.Ybulkfcfg
open Go.RowKit
set_option linter.unusedVariables false
theorem cell_one_new_set (W : World) (a : Addr) (v x : Value) (t : TypeId) : ∀ j u, [x][j]? = some u → ((W.setCell a v).alloc (.cells #[x] t)).cell? ((⟨W.heap.size, 0, none⟩ : Addr).add j) = some u := by
  have h : (W.setCell a v).heap.size = W.heap.size := by simp [World.setCell]
  have := cell_one_new (W.setCell a v) x t
  rwa [h] at this
theorem below_drewN' {B : Nat} {w X : World} (h : Below B w X) (nq : Nat) : Below B w (X.drewN nq) := ⟨h.os, h.tape, h.output, h.size, h.block⟩
theorem own_none {W : World} {base : Nat} {e : TypeId} {a : Option Addr} {n c : Nat} {xs : List Value} (h : W.ownsRow base e 1 (.slice a n c) n xs) : a.isNone = true ↔ Value.slice a n c = .slice none 0 0 := by
  rcases h.2 with ⟨e, _⟩ | ⟨g, cap, cur, e, _⟩
  · rw [e]
    injection e with e1 e2 e3
    subst e1
    simp
  · injection e with e1 e2 e3
    subst e1
    simp
theorem own_at {W : World} {base : Nat} {e : TypeId} {a : Option Addr} {n c : Nat} {l : List Nat} (h : W.ownsRow base e 1 (.slice a n c) n (ucells l)) {j : Nat} (hj : j < n) :
    ∃ g, a = some ⟨g, 0, none⟩ ∧ W.cell? ⟨g, j, none⟩ = some (.int .u32 ((l.getD j 0 : Nat) : Int)) := by
  have hl := h.1
  simp [ucells] at hl
  rcases h.2 with ⟨e, h0⟩ | ⟨g, cap, cur, e, _⟩
  · omega
  · injection e with e1 e2 e3
    subst e1
    refine ⟨g, rfl, ?_⟩
    have := h.cells (g := g) rfl j (.int .u32 ((l.getD j 0 : Nat) : Int)) (by
      simp only [ucells, List.getElem?_map]
      rw [List.getElem?_eq_getElem (by omega), List.getD_eq_getElem?_getD, List.getElem?_eq_getElem (by omega)]
      rfl)
    have e : (⟨g, 0, none⟩ : Addr).add j = ⟨g, j, none⟩ := by unfold Addr.add; split <;> simp_all
    rw [e] at this
    exact this
set_option maxHeartbeats 4000000 in
set_option maxRecDepth 100000 in
theorem lawA_long (a0 : Option Addr) (len cap : Nat) (w : World) (h : 16384 < len) :
    Calls Yba.prog 3 #[.slice a0 len cap] w fun e w' => e = .returned (.bool true) ∧ Below w.heap.size w w' := by
  go_enter Yba.func3, Yba.ntmps3
  go_wp2
  go_ret
  exact ⟨rfl, Below.refl _ _⟩
set_option maxHeartbeats 8000000 in
set_option maxRecDepth 100000 in
theorem lawA_short (a0 : Option Addr) (n cap : Nat) (zs : List Int) (w : World) (hn : n ≤ 16384) (hz : ∀ i, i < n → 0 ≤ zs.getD i 0 ∧ zs.getD i 0 ≤ 255)
    (hrow : 0 < n → ∃ b off, a0 = some ⟨b, off, none⟩ ∧ ∀ i, i < n → w.cell? ⟨b, off + i, none⟩ = some (.int .u8 (zs.getD i 0))) :
    Calls Yba.prog 3 #[.slice a0 n cap] w fun e w' => e = .returned (.bool true) ∧ Below w.heap.size w w' := by
  obtain ⟨i0, hi, hz0, hz1, hz2⟩ := info24_parts
  have HI := Lib.hid (And.intro hi (And.intro hz0 (And.intro hz1 hz2)))
  obtain ⟨M, hM, hmk0⟩ := make24 (n + 1) (by omega)
  have hmk : ∀ W : World, (Instr.makeSlice 23 (.int .i64 ((n : Int) + 1)) (.int .i64 ((n : Int) + 1))).run Yba.prog W = .ok (.slice (some ⟨W.heap.size, 0, none⟩) (n + 1) (n + 1)) (W.alloc (.cells M 24)) := fun W => by
    have := hmk0 W
    rwa [show ((n + 1 : Nat) : Int) = (n : Int) + 1 from by omega] at this
  clear hmk0 hi hz0 hz1 hz2
  have HL0 : Hid (L1 w (w.alloc (.cells M 24)) n 0 zs (.slice none 0 0) M) := Lib.hid ⟨heap_alloc_new w _, hM, fun j hj => absurd hj (by omega), by simpa [PA.wn, ucells] using World.ownsRow_nil _ _ 24 1, by simp [PA.wn], (Below.refl _ w).alloc (Nat.le_refl _) _⟩
  have HMM := Lib.hid hM
  have HZ := Lib.hid (And.intro hz hrow)
  clear hz hrow hM
  go_enter Yba.func3, Yba.ntmps3
  go_wp2
  go_loopw [5, 6, 26] (fun t wv i Wk => ∃ (k : Nat) (cur : Array Value), k ≤ n ∧ i = .int .i64 k ∧ t = .int .i64 (PA.st zs k) ∧ L1 w Wk n k zs wv cur) (fun _ _ i _ => n - (intOf i).toNat)
  case atStart => exact ⟨0, M, by omega, rfl, rfl, HL0.out⟩
  case round =>
    obtain ⟨k, cur, hk, rfl, rfl, hl1⟩ := hrel
    have hsk := PA.st_range zs k
    by_cases hkn : k < n
    · obtain ⟨b, off, rfl, hc⟩ := HZ.out.2 (by omega)
      have hx := HZ.out.1 k hkn
      have c0 := hc k hkn
      have c1 := (hl1.bel.cell (p := ⟨b, off + k, none⟩) (World.block_lt_of_cell? w _ c0)).trans c0
      obtain ⟨y, s1⟩ := hl1.cellAt (by omega)
      have f1 := frozen_of (o := k) hl1.blk
      have hst1 : PA.st zs (k + 1) = PA.st zs k + PA.kk (zs.getD k 0) := rfl
      have hw1 : PA.wn zs (k + 1) = if 1 < PA.kk (zs.getD k 0) then PA.wn zs k ++ [k] else PA.wn zs k := rfl
      unfold PA.kk at hst1 hw1
      have HST := Lib.hid hst1
      have HW := Lib.hid hw1
      have hlen := PA.wn_len zs k
      obtain ⟨wa, wc, rfl⟩ := own_shape hl1.own
      have H1 := Lib.hid hl1
      clear hst1 hw1 hl1 hc c0 HL0
      generalize zs.getD k 0 = x at *
      obtain ⟨x0, x1⟩ := hx
      by_cases hgt : 1 < 1 + x % 4
      · have HW2 : Hid (PA.wn zs (k + 1) = PA.wn zs k ++ [k]) := Lib.hid (by rw [HW.out, if_pos hgt])
        generalize hm : (PA.wn zs k).length = m at *
        generalize hT : PA.st zs k = T at *
        have HT := Lib.hid (And.intro hm hT)
        clear hm hT
        go_wp2_with (at_builtin; go_must (refine wpList_append_own _ rfl (.tmp 45) (.tmp 48) 23 rfl (w.heap.size + 1) 24 i0 (.int .u32 0) 1 4 Yba.underlying23 HI.out.1 HI.out.2.1 HI.out.2.2.1 HI.out.2.2.2 rfl (by decide) _ m (ucells (PA.wn zs k)) rfl ((ownsRow_setCell_below (by have := H1.out.own; rwa [HT.out.1] at this) (by simp) _).alloc _) ⟨_, 0, none⟩ 1 1 [.int .u32 (k : Int)] rfl rfl (cell_one_new_set _ _ _ _ _) ?_ (by unfold maxLen; omega) (by omega) (by have := lt_of_block H1.out.blk; simp; omega) ?_); (intro u hu; simp at hu; subst hu; rfl); intro v3 w3 hown3 hgrow3 hnil3)
        refine ⟨⟨k + 1, _, by omega, by go_num, by rw [HST.out], H1.out.yes hkn _ (by rw [HT.out.2]) HW2.out hgrow3 (by rw [HT.out.1]; exact hown3) hnil3⟩, by simp [intOf]; omega⟩
      · have HW2 : Hid (PA.wn zs (k + 1) = PA.wn zs k) := Lib.hid (by rw [HW.out, if_neg hgt])
        go_wp2
        refine ⟨⟨k + 1, _, by omega, by go_num, by rw [HST.out], H1.out.no hkn _ rfl HW2.out⟩, by simp [intOf]; omega⟩
    · obtain rfl : k = n := by omega
      obtain ⟨y, s1⟩ := hl1.cellAt (by omega)
      have f1 := frozen_of (o := k) hl1.blk
      obtain ⟨W4, hcp, hend⟩ := hl1.done M HMM.out
      obtain ⟨M3, hmk3⟩ := make111 (PA.st zs k) (by omega) (by omega)
      obtain ⟨wa, wc, rfl⟩ := own_shape hend.own
      have HE := Lib.hid hend
      clear hend hl1 HL0 HI HZ HMM
      generalize hT : PA.st zs k = T at *
      generalize hm : (PA.wn zs k).length = m at *
      have HT := Lib.hid (And.intro hT hm)
      clear hT hm hkn
      go_wp2_with fail
      refine (find_law w W4 k zs _ _ _ T M3 hn HE.out HT.out.1).mono ?_
      rintro e X' ⟨rfl, nv, tm, hA⟩
      have c1 := hA.c1
      have c7 := hA.c7
      rw [HT.out.1] at c7
      have c13 := hA.c13
      have c10 := hA.c10
      have c12 := hA.c12
      have c6 := hA.c6
      have pg := hA.pg
      have HAf := Lib.hid hA
      clear hA HE hcp hmk3 hmk s1 f1
      generalize W4.heap.size = g at *
      go_wp2_with fail
      clear c1 c7 c13 c10 c6
      go_loopw [14] (fun i Wk => ∃ (j nq : Nat), j ≤ k + 1 ∧ i = .int .i64 j ∧ Wk = X'.drewN nq) (fun i _ => k + 1 - (intOf i).toNat)
      case atStart => exact ⟨0, 0, by omega, rfl, rfl⟩
      case round =>
        obtain ⟨j, nq, hj, rfl, rfl⟩ := hrel
        by_cases hjk : j ≤ k
        · have s1 := HAf.out.starts j hjk
          have s2 := HAf.out.page j hjk
          clear HAf HT
          generalize PA.st zs j = x at *
          go_wp2
          go_quiet (fail)
          go_wp2
          exact ⟨⟨j + 1, _, by omega, by go_num, rfl⟩, by simp [intOf]; omega⟩
        · obtain rfl : j = k + 1 := by omega
          clear c12 pg hjk hj
          have c19 := HAf.out.c19
          have c20 := HAf.out.c20
          have q23 := fun (W : World) a n c => Lib.run_eql_slice_nil (P := Yba.prog) W 23 24 a n c 0 0 Yba.underlying23
          rcases HAf.out.found with ⟨hf1, rfl, rfl⟩ | ⟨hf1, rfl, ⟨B, hf3⟩, hf4⟩
          · rw [HT.out.2] at hf1
            have hlt : max 8 ((k : Int) / 64) < (m : Int) := by omega
            clear hf1
            have HB := Lib.hid HAf.out.bel
            clear HAf
            go_wp2
            go_ret
            exact ⟨rfl, below_drewN' HB.out _⟩
          · have hown := HAf.out.own
            have hnil := HAf.out.nil
            have hbel := HAf.out.bel
            rw [HT.out.2] at hf1 hf3 hown
            obtain ⟨na, nc, rfl⟩ := own_shape hf3
            have hnn : wa.isNone = na.isNone := by
              rw [Bool.eq_iff_iff, own_none hown, own_none hf3, hnil, hf4]
            have hlt : ¬ (max 8 ((k : Int) / 64) < (m : Int)) := by omega
            have hmk : m ≤ k := by rw [← HT.out.2]; exact PA.wn_len zs k
            have HO := Lib.hid (And.intro hown (And.intro hf3 hbel))
            clear hown hf3 hbel hnil hf4 HAf hf1
            go_wp2_with fail
            clear hnn hlt q23 c20
            go_loopw [15] (fun i Wk => ∃ (j nq : Nat), j ≤ m ∧ i = .int .i64 j ∧ Wk = X'.drewN nq) (fun i _ => m - (intOf i).toNat)
            case atStart => exact ⟨0, _, by omega, rfl, rfl⟩
            case round =>
              obtain ⟨j, nq2, hj, rfl, rfl⟩ := hrel
              by_cases hjm : j < m
              · obtain ⟨g1, rfl, s1⟩ := own_at HO.out.1 hjm
                obtain ⟨g2, rfl, s2⟩ := own_at HO.out.2.1 hjm
                generalize (((PA.wn zs k).getD j 0 : Nat) : Int) = x at *
                go_wp2
                go_quiet (fail)
                go_wp2
                exact ⟨⟨j + 1, _, by omega, by go_num, rfl⟩, by simp [intOf]; omega⟩
              · clear c19
                go_wp2
                go_ret
                exact ⟨rfl, below_drewN' HO.out.2.2 _⟩
end Go.Proofs.Ybulkfcfg
