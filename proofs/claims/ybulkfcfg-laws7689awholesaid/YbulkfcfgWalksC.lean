import Derived.Test.YbulkfcfgWalksB
namespace Go.Proofs.Ybulkfcfg
open Go.RowKit
set_option linter.unusedVariables false
/-- what findSeveral leaves in the column -/
def Found (W W' : World) (n : Nat) (zs : List Int) (nv : Value) (tm : Bool) : Prop :=
  (max 8 (n / 64) < (PA.wn zs n).length ∧ tm = true ∧ nv = .slice none 0 0) ∨
  ((PA.wn zs n).length ≤ max 8 (n / 64) ∧ tm = false ∧ W'.ownsRow W.heap.size 24 1 nv (PA.wn zs n).length (ucells (PA.wn zs n)) ∧ (nv = .slice none 0 0 ↔ PA.wn zs n = []))
/-- the state at the head of a round -/
def AtRound (W Wk : World) (cb n k mo : Nat) (zs : List Int) (C : Array Value) : Prop :=
  (PA.wn zs k).length ≤ mo ∧ ∃ C' nv, Aft W Wk cb C C' nv false ∧ Wk.ownsRow W.heap.size 24 1 nv (PA.wn zs k).length (ucells (PA.wn zs k)) ∧ (nv = .slice none 0 0 ↔ PA.wn zs k = [])
def FindPost (W W' : World) (cb n : Nat) (zs : List Int) (C : Array Value) : Prop := ∃ C' nv tm, Aft W W' cb C C' nv tm ∧ Found W W' n zs nv tm
theorem own_shape {W : World} {base : Nat} {e : TypeId} {v : Value} {n : Nat} {xs : List Value} (h : W.ownsRow base e 1 v n xs) : ∃ a c, v = .slice a n c := by
  rcases h.2 with ⟨rfl, rfl⟩ | ⟨g, cap, cur, rfl, _⟩
  · exact ⟨none, 0, rfl⟩
  · exact ⟨_, _, rfl⟩
set_option maxHeartbeats 4000000 in
set_option maxRecDepth 100000 in
theorem find_any (cb pb sb n : Nat) (zs : List Int) (C : Array Value) (W : World) (hn : n ≤ 16384) (h : Col W cb pb sb n zs C) :
    Calls Yba.prog 5 #[.pointer (some ⟨cb, 0, none⟩)] W fun e W' => e = .returned (.tuple #[]) ∧ FindPost W W' cb n zs C := by
  obtain ⟨i0, hi, hz0, hz1, hz2⟩ := info24_parts
  have HI := Lib.hid (And.intro hi (And.intro hz0 (And.intro hz1 hz2)))
  have c1 : W.cell? ⟨cb, 1, none⟩ = some (.int .i64 (n : Int)) := (cell_of h.col).trans h.c1
  have c7 : W.cell? ⟨cb, 7, none⟩ = some (.int .i64 (PA.st zs n)) := (cell_of h.col).trans h.c7
  have c12 : W.cell? ⟨cb, 12, none⟩ = some (.slice (some ⟨pb, 0, none⟩) 1 1) := (cell_of h.col).trans h.c12
  have hcb := lt_of_block h.col
  have hst := PA.st_range zs n
  have H := Lib.hid h
  clear h hi hz0 hz1 hz2
  go_enter Yba.func5, Yba.ntmps5
  go_wp2_with (first | (go_at_call 17; refine (fewOf_any n hn _).mono ?_; rintro e w1 ⟨rfl, hw1⟩; obtain rfl := hw1.symm))
  go_quiet ((go_at_call 18; exact Calls.quiet_of_same (plen_any cb 6 _ _ c7)))
  have hA0 : ∀ nq, AtRound W (W.drewN nq) cb n 0 (max 8 (n / 64)) zs C := fun nq => ⟨by simp [PA.wn], C, _, (Aft.drewN ⟨⟨rfl, rfl, rfl, Nat.le_refl _, fun _ _ _ => rfl⟩, H.out.col, H.out.size, fun _ _ _ => rfl, H.out.c19, H.out.c20⟩ nq), by simpa [PA.wn, ucells] using World.ownsRow_nil (W.drewN nq) W.heap.size 24 1, by simp [PA.wn]⟩
  have HA0 := Lib.hid hA0
  clear hA0
  obtain ⟨mo, hmo⟩ : ∃ mo, mo = max 8 (n / 64) := ⟨_, rfl⟩
  have hmo2 : mo ≤ 256 := by omega
  rw [← hmo] at HA0 ⊢
  have HM := Lib.hid hmo
  have r0 : W.cell? ⟨sb, 0, none⟩ = some (.int .u32 0) := H.out.row 0 (by omega)
  have p0 := H.out.page
  clear hmo c1 c7
  go_wp2_with (first | (go_at_call 19; refine (at_any cb 12 pb sb n 0 0 _ hn (by omega) ?_ ?_ ?_).mono ?_; (first | exact c12 | simpa using c12); (first | exact p0 | simpa using p0); (first | exact r0 | simpa using r0); rintro e w1 ⟨rfl, hw1⟩; obtain rfl := hw1.symm))
  clear c12 r0 p0
  go_loopw [3, 4, 5] (fun b f r Wk => ∃ k : Nat, k ≤ n ∧ r = .int .i64 ((k : Int) + 1) ∧ f = .int .u32 (PA.st zs k) ∧ b = .int .i64 (PA.st zs n - n - (PA.st zs k - k)) ∧ AtRound W Wk cb n k mo zs C) (fun _ _ r _ => n + 1 - (intOf r).toNat)
  case atStart => exact ⟨0, by omega, rfl, rfl, by simp [PA.st], HA0.out nq⟩
  case round =>
    obtain ⟨k, hk, rfl, rfl, rfl, hlen, C', nv, haft, hown, hnil⟩ := hrel
    have hsk := PA.st_range zs k
    by_cases hbe : 0 < PA.st zs n - n - (PA.st zs k - k)
    · have hkn : k < n := by
        rcases Nat.lt_or_ge k n with h | h
        · exact h
        · obtain rfl : k = n := by omega
          omega
      have hd := PA.kk_range (zs.getD k 0)
      have hst1 : PA.st zs (k + 1) = PA.st zs k + PA.kk (zs.getD k 0) := rfl
      have hw1 : PA.wn zs (k + 1) = if 1 < PA.kk (zs.getD k 0) then PA.wn zs k ++ [k] else PA.wn zs k := rfl
      have cc12 := (cell_of (o := 12) haft.col).trans ((haft.same 12 (by decide) (by decide)).trans H.out.c12)
      have cp := haft.cell H.out.page H.out.hp
      have cr := haft.cell (H.out.row (k + 1) (by omega)) H.out.hs
      have c19 := (cell_of (o := 19) haft.col).trans haft.c19
      have f19 := frozen_of (o := 19) haft.col
      have c20 := (cell_of (o := 20) haft.col).trans haft.c20
      have f20 := frozen_of (o := 20) haft.col
      have hmono := PA.wn_mono zs (k + 1) (n - (k + 1))
      rw [show k + 1 + (n - (k + 1)) = n from by omega] at hmono
      have hs1 := PA.st_range zs (k + 1)
      rw [hst1] at cr hs1
      have HST := Lib.hid hst1
      have HW := Lib.hid hw1
      have HAf := Lib.hid haft
      have HOw := Lib.hid (And.intro hown hnil)
      clear hst1 hw1 haft hown hnil HA0
      generalize PA.kk (zs.getD k 0) = d at *
      generalize PA.st zs k = f at *
      generalize PA.st zs n = T at *
      by_cases hgt : 1 < d
      · have HW2 : Hid (PA.wn zs (k + 1) = PA.wn zs k ++ [k]) := Lib.hid (by rw [HW.out, if_pos hgt])
        obtain ⟨na, nc, rfl⟩ := own_shape HOw.out.1
        by_cases hfull : (PA.wn zs k).length = mo
        · have hm1 : (PA.wn zs (k + 1)).length = mo + 1 := by rw [HW2.out, List.length_append, hfull]; rfl
          have hfull' : (((PA.wn zs k).length : Int) == (mo : Int)) = true := by rw [beq_iff_eq]; omega
          clear hlen
          have HFu := Lib.hid (And.intro hfull hm1)
          clear hfull hm1
          generalize (PA.wn zs k).length = m at *
          go_wp2_with (first | (go_at_call 19; refine (at_any' cb 12 pb sb n (k + 1) _ _ _ (by omega) hn (by omega) cc12 cp cr).mono ?_; rintro e w1 ⟨rfl, hw1⟩; obtain rfl := hw1.symm))
          refine bodyPost_ret (v := .tuple #[]) (by simp [results, Yba.results5]) rfl ?_
          exact ⟨rfl, _, _, true, HAf.out.full, Or.inl ⟨by rw [← HM.out]; have := HFu.out.2; omega, rfl, rfl⟩⟩
        · have hfull' : (((PA.wn zs k).length : Int) == (mo : Int)) = false := by rw [beq_eq_false_iff_ne]; omega
          have hm1 : (PA.wn zs k).length ≤ k := PA.wn_len zs k
          have HL : Hid ((PA.wn zs (k + 1)).length = (PA.wn zs k).length + 1) := Lib.hid (by rw [HW2.out, List.length_append]; rfl)
          have hlt : (PA.wn zs k).length < mo := by omega
          clear hlen hfull c20 f20 hmono
          generalize hm : (PA.wn zs k).length = m at *
          clear hm
          go_wp2_with (first | (go_at_call 19; refine (at_any' cb 12 pb sb n (k + 1) _ _ _ (by omega) hn (by omega) cc12 cp cr).mono ?_; rintro e w1 ⟨rfl, hw1⟩; obtain rfl := hw1.symm) | (at_builtin; go_must (refine wpList_append_own _ rfl (.tmp 60) (.tmp 64) 23 rfl W.heap.size 24 i0 (.int .u32 0) 1 4 Yba.underlying23 HI.out.1 HI.out.2.1 HI.out.2.2.1 HI.out.2.2.2 rfl (by decide) _ m (ucells (PA.wn zs k)) rfl (HOw.out.1.alloc _) ⟨_, 0, none⟩ 1 1 [.int .u32 (k : Int)] rfl rfl (cell_one_new _ _ _) ?_ (by unfold maxLen; omega) (by omega) (by have := HAf.out.grown.size; simp; omega) ?_); (intro u hu; simp at hu; subst hu; rfl); intro v3 w3 hown3 hgrow3 hnil3; obtain ⟨a3, c3, rfl⟩ := own_shape hown3; have hcol3 := Aft.colGrown HAf.out hcb HOw.out.1 hgrow3; have c19' := (cell_of (o := 19) hcol3).trans HAf.out.c19; have f19' := frozen_of (o := 19) hcol3; have HO3 := Lib.hid (And.intro hown3 (And.intro hgrow3 hnil3)); clear hown3 hgrow3 hnil3 hcol3))
          refine ⟨⟨k + 1, by omega, by go_num, by rw [HST.out], by rw [HST.out]; go_num, by rw [HL.out]; omega, _, _, HAf.out.step hcb HOw.out.1 HO3.out.2.1, ?_, ?_⟩, by simp [intOf]; omega⟩
          · rw [HL.out, HW2.out]
            have := ownsRow_setCell_below HO3.out.1 (a := ⟨cb, 19, none⟩) hcb (.slice a3 (m + 1) c3)
            simpa [ucells] using this
          · rw [HW2.out]
            constructor
            · intro h
              have := (HO3.out.2.2.1 h).2
              cases this
            · intro h
              simp at h
      · obtain rfl : d = 1 := by omega
        have HW2 : Hid (PA.wn zs (k + 1) = PA.wn zs k) := Lib.hid (by rw [HW.out, if_neg hgt])
        clear hgt c19 f19 c20 f20
        go_wp2_with (first | (go_at_call 19; refine (at_any' cb 12 pb sb n (k + 1) _ _ _ (by omega) hn (by omega) cc12 cp cr).mono ?_; rintro e w1 ⟨rfl, hw1⟩; obtain rfl := hw1.symm))
        refine ⟨⟨k + 1, by omega, by go_num, by rw [HST.out], by rw [HST.out]; go_num, by rw [HW2.out]; exact hlen, C', nv, HAf.out, ?_, ?_⟩, by simp [intOf]; omega⟩
        · rw [HW2.out]; exact HOw.out.1
        · rw [HW2.out]; exact HOw.out.2
    · have hgap := PA.st_gap zs k (n - k)
      rw [show k + (n - k) = n from by omega] at hgap
      have hsame : PA.wn zs n = PA.wn zs k := by
        have := PA.wn_same zs k (n - k)
        rw [show k + (n - k) = n from by omega] at this
        exact this (by omega)
      have HF : Hid (FindPost W _ cb n zs C) := Lib.hid ⟨C', nv, false, haft, Or.inr ⟨by rw [hsame, ← HM.out]; exact hlen, rfl, by rw [hsame]; exact hown, by rw [hsame]; exact hnil⟩⟩
      clear haft hown hnil hsame hgap
      go_wp2
      go_end0
      exact ⟨rfl, HF.out⟩
end Go.Proofs.Ybulkfcfg
