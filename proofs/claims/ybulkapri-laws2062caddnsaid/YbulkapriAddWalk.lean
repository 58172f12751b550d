/-
  LawS2062CAddN: THE WALK.
-/
import Derived.Test.YbulkapriAdd
import Derived.Test.YbulkapriMinWalk
namespace Go.Proofs.Ybulkapri
open Go.RowKit Go.WideMaps Go.Maps

theorem grown_of_below {w w' : World} (h : Below w.heap.size w w') : w.grownBy w' none := ⟨h.os, h.tape, h.output, h.size, fun k hk _ => h.block k hk⟩

set_option maxRecDepth 100000 in
set_option maxHeartbeats 4000000 in
theorem addn_any (H : Type) (a0 u0 u1 u2 u3 u4 u5 f0 f1 f2 f3 f4 f5 n : Int) (w : World) (ba : 0 ≤ a0 ∧ a0 ≤ 255) (bn : 0 ≤ n ∧ n ≤ 65535)
    (hu : ∀ x ∈ [u0, u1, u2, u3, u4, u5], -9223372036854775808 ≤ x ∧ x ≤ 9223372036854775807) (hf : ∀ x ∈ [f0, f1, f2, f3, f4, f5], -9223372036854775808 ≤ x ∧ x ≤ 9223372036854775807) :
    Calls Yba.prog 4 #[.int .u8 a0, .agg #[.int .i64 u0, .int .i64 u1, .int .i64 u2, .int .i64 u3, .int .i64 u4, .int .i64 u5], .agg #[.int .i64 f0, .int .i64 f1, .int .i64 f2, .int .i64 f3, .int .i64 f4, .int .i64 f5], .int .u16 n] w
      fun e w' => e = .returned (.bool true) ∧ Below w.heap.size w w' := by
  have hmm := @run_makeMap Yba.prog
  go_enter Yba.func4, Yba.ntmps4
  go_wp2
  go_loopw [12] (fun i wr => ∃ (k : Nat) (DU DF : DataW H), k ≤ 6 ∧ i = .int .i64 k ∧
      wr.ownsMap Yba.prog 9 (plainElem Yba.prog 2) (w.heap.size + 1 + 1) k DU ∧ wr.ownsMap Yba.prog 9 (plainElem Yba.prog 2) (w.heap.size + 1 + 1 + 1) k DF ∧
      InvA (fun j => bits BinOp.and IntKind.u8 a0 (2 ^ j % 256) != 0) k DU DF ∧ St w wr)
    (fun i _ => 6 - (intOf i).toNat)
  case atStart =>
    have g1 := World.grownBy_alloc (((w.alloc (.cells #[.int .i64 u0, .int .i64 u1, .int .i64 u2, .int .i64 u3, .int .i64 u4, .int .i64 u5] 22)).alloc (.cells #[.int .i64 f0, .int .i64 f1, .int .i64 f2, .int .i64 f3, .int .i64 f4, .int .i64 f5] 22)).alloc (.map #[] 0)) (.map #[] 0) none
    have g2 := World.grownBy_alloc ((w.alloc (.cells #[.int .i64 u0, .int .i64 u1, .int .i64 u2, .int .i64 u3, .int .i64 u4, .int .i64 u5] 22)).alloc (.cells #[.int .i64 f0, .int .i64 f1, .int .i64 f2, .int .i64 f3, .int .i64 f4, .int .i64 f5] 22)) (.map #[] 0) none
    have g3 := World.grownBy_alloc (w.alloc (.cells #[.int .i64 u0, .int .i64 u1, .int .i64 u2, .int .i64 u3, .int .i64 u4, .int .i64 u5] 22)) (.cells #[.int .i64 f0, .int .i64 f1, .int .i64 f2, .int .i64 f3, .int .i64 f4, .int .i64 f5] 22) none
    have A1 := ((Arr.laid w u0 u1 u2 u3 u4 u5 22 hu).grown (g3.trans (g2.trans g1)) (by simp))
    have A2 := ((Arr.laid (w.alloc (.cells #[.int .i64 u0, .int .i64 u1, .int .i64 u2, .int .i64 u3, .int .i64 u4, .int .i64 u5] 22)) f0 f1 f2 f3 f4 f5 22 hf).grown (g2.trans g1) (by simp))
    have M1 := (World.ownsMap_made (H := H) ((w.alloc (.cells #[.int .i64 u0, .int .i64 u1, .int .i64 u2, .int .i64 u3, .int .i64 u4, .int .i64 u5] 22)).alloc (.cells #[.int .i64 f0, .int .i64 f1, .int .i64 f2, .int .i64 f3, .int .i64 f4, .int .i64 f5] 22)) Yba.prog 9 (plainElem Yba.prog 2)).kept g1 (by simp)
    have M2 := World.ownsMap_made (H := H) (((w.alloc (.cells #[.int .i64 u0, .int .i64 u1, .int .i64 u2, .int .i64 u3, .int .i64 u4, .int .i64 u5] 22)).alloc (.cells #[.int .i64 f0, .int .i64 f1, .int .i64 f2, .int .i64 f3, .int .i64 f4, .int .i64 f5] 22)).alloc (.map #[] 0)) Yba.prog 9 (plainElem Yba.prog 2)
    simp only [World.size_alloc] at A2 M1 M2
    exact ⟨0, .map [], .map [], by omega, rfl, M1, M2, invA_start, A1, A2,
      ((((Below.refl _ _).alloc (Nat.le_refl _) _).alloc (by simp) _).alloc (by simp; omega) _).alloc (by simp; omega) _⟩
  case round =>
    obtain ⟨k, DU, DF, hk, rfl, hU, hF, hI, hS⟩ := hrel
    by_cases hlt : k < 6
    · obtain ⟨u, hcu, hub⟩ := hS.1 k hlt
      obtain ⟨f, hcf, hfb⟩ := hS.2.1 k hlt
      have hkey : keyOf Yba.prog 9 (.string (nameOf k)) = some (keyLit k) := keyOf_string_mk Yba.underlying9 (name_size k hlt)
      have hsz := hF.lt
      have hUm := hU.isMap
      have hFm := hF.isMap
      have hq := u64_tmod u
      rcases Bool.eq_false_or_eq_true (bits BinOp.and IntKind.u8 a0 (2 ^ k % 256) != 0) with hB | hB
      · rcases (by omega : u < 1 ∨ (1 ≤ u ∧ u ≤ 1000) ∨ 1000 < u) with hu1 | hu1 | hu1 <;> by_cases hf0 : f < 0
        all_goals
            first | have hft := tmod_neg40 f hf0 | skip
            go_wp2_with (first
                      | (go_at_call 5; refine (name_any k hlt _).mono ?_; rintro e w' ⟨rfl, rfl⟩)
                      | (at_mapUpdate; refine wpList_mapUpdate_own _ rfl _ _ _ 24 rfl 9 2 law9 Yba.underlying24 _ (w.heap.size + 1 + 1 + 1) k DF rfl hF (by unfold maxLen; omega) _ _ _ rfl rfl hkey _ [] (plainElem_int Yba.underlying2 (WalkArith.wf_i64 (by omega))) ?_; intro w1 hF1 hg1; have hU := kept_ne hU hg1 (by omega); have hS := hS.grown hg1 (by omega); go_frame)
                      | (at_mapUpdate; refine wpList_mapUpdate_own _ rfl _ _ _ 24 rfl 9 2 law9 Yba.underlying24 _ (w.heap.size + 1 + 1) k DU rfl hU (by unfold maxLen; omega) _ _ _ rfl rfl hkey _ [] (plainElem_int Yba.underlying2 (WalkArith.wf_i64 (by omega))) ?_; intro w2 hU2 hg2; have hF2 := kept_ne hF1 hg2 (by omega); have hS := hS.grown hg2 (by omega); go_frame))
            first
            | exact ⟨⟨k + 1, _, _, by omega, by go_num, hU2, hF2, invA_put (invA_free hI hFm (by omega)) hB hUm (by omega), hS⟩, by simp [intOf]; omega⟩
      · rcases (by omega : u < 1 ∨ (1 ≤ u ∧ u ≤ 1000) ∨ 1000 < u) with hu1 | hu1 | hu1 <;> by_cases hf0 : f < 0
        all_goals
            first | have hft := tmod_neg40 f hf0 | skip
            go_wp2_with (first
                      | (go_at_call 5; refine (name_any k hlt _).mono ?_; rintro e w' ⟨rfl, rfl⟩)
                      | (at_mapUpdate; refine wpList_mapUpdate_own _ rfl _ _ _ 24 rfl 9 2 law9 Yba.underlying24 _ (w.heap.size + 1 + 1 + 1) k DF rfl hF (by unfold maxLen; omega) _ _ _ rfl rfl hkey _ [] (plainElem_int Yba.underlying2 (WalkArith.wf_i64 (by omega))) ?_; intro w1 hF1 hg1; have hU := kept_ne hU hg1 (by omega); have hS := hS.grown hg1 (by omega); go_frame))
            first
            | exact ⟨⟨k + 1, _, _, by omega, by go_num, hU.mono (by omega), hF1, invA_none (invA_free hI hFm (by omega)) hB, hS⟩, by simp [intOf]; omega⟩
    · have hk6 : k = 6 := by omega
      subst hk6
      have hsU := hU.size_le
      have hsF := hF.lt
      have hsS := hS.2.2.size
      have hMask := mask63 a0 ba.1 ba.2
      have HE : Hid ((a0 % 64 == 0) = true ↔ ∀ kl, has DU kl = false) := hMask.trans hI.empt.symm
      clear hMask
      have hk0 : 0 ≤ n % 1000 ∧ n % 1000 ≤ 999 := by omega
      rcases Bool.eq_false_or_eq_true (a0 % 64 == 0) with hm | hm
      all_goals
        go_wp2_with fail
        refine (count_any _ _ 6 6 DU DF _ hU hF (fun kl h => (hI.pos kl h).1) (fun kl => (hI.nonneg kl).1)).mono ?_
        rintro e w1 ⟨⟨r0, rfl, hr0⟩, hb1⟩
        have hU1 := hU.kept (grown_of_below hb1) (by simp)
        have hF1 := hF.kept (grown_of_below hb1) (by simp)
        have hz1 := hb1.size
        go_wp2_with fail
        refine (add_any _ _ 6 6 DU DF _ _ hU1 hF1 (by omega) (by unfold maxLen; omega) hk0 hI.pos hI.nonneg).mono ?_
        rintro e w2 ⟨rfl, hg2, hU2, DF', m', hF2, hR⟩
        have hz2 := hg2.size
        have hp' : ∀ kl, 0 ≤ val DF' kl := fun kl => by
          have h1 := (hI.nonneg kl).1
          rw [hR kl]
          split
          · have := Int.mul_nonneg (a := val DU kl) (b := n % 1000) (by have := (hI.pos kl (by assumption)).1; omega) hk0.1
            omega
          · omega
        go_wp2_with fail
        refine (count_any _ _ 6 m' DU DF' _ hU2 hF2 (fun kl h => (hI.pos kl h).1) hp').mono ?_
        rintro e w3 ⟨⟨r1, rfl, hr1⟩, hb3⟩
        have hBel : Below w.heap.size w w3 := ((hS.2.2.trans (hb1.mono hsS)).grown hg2 (by omega) (fun j hj => by cases hj; omega)).trans (hb3.mono (by omega))
      · have hn := HE.out.1 hm
        have e0 := answer_empty hr0 hn
        have e1 := answer_empty hr1 hn
        subst e0 e1
        go_wp2
        go_ret
        exact ⟨rfl, hBel⟩
      · have hn : ¬ ∀ kl, has DU kl = false := fun h => by rw [HE.out.2 h] at hm; cases hm
        have e1 := answer_raised hR (fun kl h => (hI.pos kl h).1) hr0 hr1 hn
        have E1 : Hid (r1 = r0 + n % 1000) := e1
        clear e1
        have hr := answer_bound hr0 (fun kl h => (hI.pos kl h).1) hI.nonneg
        go_wp2
        go_ret
        exact ⟨by rw [E1.out]; simp, hBel⟩

end Go.Proofs.Ybulkapri
