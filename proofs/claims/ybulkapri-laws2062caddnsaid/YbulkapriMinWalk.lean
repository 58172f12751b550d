/-
  LawS2062CMinFit: THE WALK.
-/
import Derived.Test.YbulkapriInv
namespace Go.Proofs.Ybulkapri
open Go.RowKit Go.WideMaps Go.Maps

/-- A boxed array of six int64s: each cell an integer of its kind. -/
def Arr (w : World) (b : Nat) : Prop := ∀ j, j < 6 → ∃ u : Int, w.cell? ⟨b, j, none⟩ = some (.int .i64 u) ∧ -9223372036854775808 ≤ u ∧ u ≤ 9223372036854775807

theorem Arr.grown {w w' : World} {b : Nat} {row : Option Nat} (h : Arr w b) (hg : w.grownBy w' row) (hne : some b ≠ row) : Arr w' b := fun j hj => by
  obtain ⟨u, hc, hb⟩ := h j hj
  exact ⟨u, hg.cell hc hne, hb⟩

theorem Arr.laid (w : World) (u0 u1 u2 u3 u4 u5 : Int) (t : TypeId) (hu : ∀ x ∈ [u0, u1, u2, u3, u4, u5], -9223372036854775808 ≤ x ∧ x ≤ 9223372036854775807) :
    Arr (w.alloc (.cells #[.int .i64 u0, .int .i64 u1, .int .i64 u2, .int .i64 u3, .int .i64 u4, .int .i64 u5] t)) w.heap.size := fun j hj => by
  refine six (P := fun j => ∃ u : Int, (w.alloc (.cells #[.int .i64 u0, .int .i64 u1, .int .i64 u2, .int .i64 u3, .int .i64 u4, .int .i64 u5] t)).cell? ⟨w.heap.size, j, none⟩ = some (.int .i64 u) ∧ -9223372036854775808 ≤ u ∧ u ≤ 9223372036854775807) ?_ ?_ ?_ ?_ ?_ ?_ j hj
  · exact ⟨u0, by go_simp, hu _ (by simp)⟩
  · exact ⟨u1, by go_simp, hu _ (by simp)⟩
  · exact ⟨u2, by go_simp, hu _ (by simp)⟩
  · exact ⟨u3, by go_simp, hu _ (by simp)⟩
  · exact ⟨u4, by go_simp, hu _ (by simp)⟩
  · exact ⟨u5, by go_simp, hu _ (by simp)⟩

theorem quo_neg (f q : Int) (h : f < 0) (hf : -9223372036854775808 ≤ f) (hq : 1 ≤ q) : wrap64 (-(f + 1).tdiv q) = -(f + 1) / q := by
  rw [← Int.neg_tdiv, Int.tdiv_eq_ediv_of_nonneg (by omega)]
  have h1 : 0 ≤ -(f + 1) / q := Int.ediv_nonneg (by omega) (by omega)
  have h2 : -(f + 1) / q ≤ -(f + 1) := Int.ediv_le_self _ (by omega)
  generalize -(f + 1) / q = x at h1 h2 ⊢
  unfold wrap64; omega

theorem end_put {H : Type} {DU DF : DataW H} {k : Nat} {f wv q r : Int} {fb : Bool} (h : Mid k DU DF f wv fb) (hk : k < 6) (hD : IsMap DU) (hq : 1 ≤ q) (X : Int) (hX : X = f / q)
    (hans : (fb = false ∧ r = X) ∨ (fb = true ∧ X < wv ∧ r = X) ∨ (fb = true ∧ ¬ X < wv ∧ r = wv)) : Inv (k + 1) (DU.put (keyLit k) (.lit (.int .i64 q))) DF r true := by
  subst hX; exact inv_put h hk hD hq hans

/-- What stays through the loop: the two boxed arrays; all that was there. -/
def St (w wr : World) : Prop := Arr wr w.heap.size ∧ Arr wr (w.heap.size + 1) ∧ Below w.heap.size w wr

theorem St.grown {w wr w' : World} {b : Nat} (h : St w wr) (hg : wr.grownBy w' (some b)) (hb : w.heap.size + 1 + 1 ≤ b) : St w w' :=
  ⟨h.1.grown hg (fun e => by have := Option.some.inj e; omega), h.2.1.grown hg (fun e => by have := Option.some.inj e; omega), h.2.2.grown hg h.2.2.size (fun j hj => by cases hj; omega)⟩

theorem kept_ne {H : Type} {w w' : World} {b c n : Nat} {D : DataW H} (h : w.ownsMap Yba.prog 9 (plainElem Yba.prog 2) b n D) (hg : w.grownBy w' (some c)) (hne : b ≠ c) : w'.ownsMap Yba.prog 9 (plainElem Yba.prog 2) b n D :=
  h.kept hg (fun e => hne (Option.some.inj e))

set_option maxRecDepth 100000 in
set_option maxHeartbeats 4000000 in
theorem minfit_any (H : Type) (a0 a1 u0 u1 u2 u3 u4 u5 f0 f1 f2 f3 f4 f5 : Int) (w : World)
    (hu : ∀ x ∈ [u0, u1, u2, u3, u4, u5], -9223372036854775808 ≤ x ∧ x ≤ 9223372036854775807) (hf : ∀ x ∈ [f0, f1, f2, f3, f4, f5], -9223372036854775808 ≤ x ∧ x ≤ 9223372036854775807) :
    Calls Yba.prog 3 #[.int .u8 a0, .int .u8 a1, .agg #[.int .i64 u0, .int .i64 u1, .int .i64 u2, .int .i64 u3, .int .i64 u4, .int .i64 u5], .agg #[.int .i64 f0, .int .i64 f1, .int .i64 f2, .int .i64 f3, .int .i64 f4, .int .i64 f5]] w
      fun e w' => e = .returned (.bool true) ∧ Below w.heap.size w w' := by
  have hmm := @run_makeMap Yba.prog
  go_enter Yba.func3, Yba.ntmps3
  go_wp2
  go_loopw [11, 12, 13] (fun fo wa i wr => ∃ (k : Nat) (DU DF : DataW H) (wv : Int) (fb : Bool), k ≤ 6 ∧ i = .int .i64 k ∧ fo = .bool fb ∧ wa = .int .i64 wv ∧
      wr.ownsMap Yba.prog 9 (plainElem Yba.prog 2) (w.heap.size + 1 + 1) k DU ∧ wr.ownsMap Yba.prog 9 (plainElem Yba.prog 2) (w.heap.size + 1 + 1 + 1) k DF ∧ Inv k DU DF wv fb ∧
      St w wr)
    (fun _ _ i _ => 6 - (intOf i).toNat)
  case atStart =>
    have g1 := World.grownBy_alloc (((w.alloc (.cells #[.int .i64 u0, .int .i64 u1, .int .i64 u2, .int .i64 u3, .int .i64 u4, .int .i64 u5] 22)).alloc (.cells #[.int .i64 f0, .int .i64 f1, .int .i64 f2, .int .i64 f3, .int .i64 f4, .int .i64 f5] 22)).alloc (.map #[] 0)) (.map #[] 0) none
    have g2 := World.grownBy_alloc ((w.alloc (.cells #[.int .i64 u0, .int .i64 u1, .int .i64 u2, .int .i64 u3, .int .i64 u4, .int .i64 u5] 22)).alloc (.cells #[.int .i64 f0, .int .i64 f1, .int .i64 f2, .int .i64 f3, .int .i64 f4, .int .i64 f5] 22)) (.map #[] 0) none
    have g3 := World.grownBy_alloc (w.alloc (.cells #[.int .i64 u0, .int .i64 u1, .int .i64 u2, .int .i64 u3, .int .i64 u4, .int .i64 u5] 22)) (.cells #[.int .i64 f0, .int .i64 f1, .int .i64 f2, .int .i64 f3, .int .i64 f4, .int .i64 f5] 22) none
    have A1 := ((Arr.laid w u0 u1 u2 u3 u4 u5 22 hu).grown (g3.trans (g2.trans g1)) (by simp))
    have A2 := ((Arr.laid (w.alloc (.cells #[.int .i64 u0, .int .i64 u1, .int .i64 u2, .int .i64 u3, .int .i64 u4, .int .i64 u5] 22)) f0 f1 f2 f3 f4 f5 22 hf).grown (g2.trans g1) (by simp))
    have M1 := (World.ownsMap_made (H := H) ((w.alloc (.cells #[.int .i64 u0, .int .i64 u1, .int .i64 u2, .int .i64 u3, .int .i64 u4, .int .i64 u5] 22)).alloc (.cells #[.int .i64 f0, .int .i64 f1, .int .i64 f2, .int .i64 f3, .int .i64 f4, .int .i64 f5] 22)) Yba.prog 9 (plainElem Yba.prog 2)).kept g1 (by simp)
    have M2 := World.ownsMap_made (H := H) (((w.alloc (.cells #[.int .i64 u0, .int .i64 u1, .int .i64 u2, .int .i64 u3, .int .i64 u4, .int .i64 u5] 22)).alloc (.cells #[.int .i64 f0, .int .i64 f1, .int .i64 f2, .int .i64 f3, .int .i64 f4, .int .i64 f5] 22)).alloc (.map #[] 0)) Yba.prog 9 (plainElem Yba.prog 2)
    simp only [World.size_alloc] at A2 M1 M2
    exact ⟨0, .map [], .map [], 0, false, by omega, rfl, rfl, rfl, M1, M2, inv_start, A1, A2,
      ((((Below.refl _ _).alloc (Nat.le_refl _) _).alloc (by simp) _).alloc (by simp; omega) _).alloc (by simp; omega) _⟩
  case round =>
    obtain ⟨k, DU, DF, wv, fb, hk, rfl, rfl, rfl, hU, hF, hI, hS⟩ := hrel
    by_cases hlt : k < 6
    · obtain ⟨u, hcu, hub⟩ := hS.1 k hlt
      obtain ⟨f, hcf, hfb⟩ := hS.2.1 k hlt
      have hkey : keyOf Yba.prog 9 (.string (nameOf k)) = some (keyLit k) := keyOf_string_mk Yba.underlying9 (name_size k hlt)
      have hsz := hF.lt
      have hUm := hU.isMap
      have hFm := hF.isMap
      have hM := mid_none hI hlt
      have hb : ∀ x : Int, 0 ≤ x → x ≤ 9223372036854775807 → Mid k DU (DF.put (keyLit k) (.lit (.int .i64 x))) x wv fb := fun x hx _ => mid_put hI hlt hFm hx
      rcases Bool.eq_false_or_eq_true (bits BinOp.and IntKind.u8 a1 (2 ^ k % 256) != 0) with hA | hA
      · rcases Bool.eq_false_or_eq_true (bits BinOp.and IntKind.u8 a0 (2 ^ k % 256) != 0) with hB | hB
        · by_cases hu1 : u < 1 <;> by_cases hf0 : f < 0 <;> cases fb
          all_goals
            first | have ht := tmod_neg u hu1 | skip
            go_wp2_with (first
                      | (go_at_call 5; refine (name_any k hlt _).mono ?_; rintro e w' ⟨rfl, rfl⟩)
                      | (at_mapUpdate; refine wpList_mapUpdate_own _ rfl _ _ _ 24 rfl 9 2 law9 Yba.underlying24 _ (w.heap.size + 1 + 1 + 1) k DF rfl hF (by unfold maxLen; omega) _ _ _ rfl rfl hkey _ [] (plainElem_int Yba.underlying2 (WalkArith.wf_i64 (by omega))) ?_; intro w1 hF1 hg1; have hU := kept_ne hU hg1 (by omega); have hS := hS.grown hg1 (by omega); go_frame)
                      | (at_mapUpdate; refine wpList_mapUpdate_own _ rfl _ _ _ 24 rfl 9 2 law9 Yba.underlying24 _ (w.heap.size + 1 + 1) k DU rfl hU (by unfold maxLen; omega) _ _ _ rfl rfl hkey _ [] (plainElem_int Yba.underlying2 (WalkArith.wf_i64 (by omega))) ?_; intro w2 hU2 hg2; have hF2 := kept_ne hF1 hg2 (by omega); have hS := hS.grown hg2 (by omega); go_frame))
          all_goals
            refine ⟨⟨k + 1, _, _, _, true, by omega, by go_num, rfl, rfl, hU2, hF2, ?_, hS⟩, by simp [intOf]; omega⟩
            first
            | exact end_put (hb _ (by omega) (by omega)) hlt hUm (by omega) _ rfl (Or.inl ⟨rfl, rfl⟩)
            | exact end_put (hb _ (by omega) (by omega)) hlt hUm (by omega) _ rfl (Or.inr (Or.inl ⟨rfl, ‹_›, rfl⟩))
            | exact end_put (hb _ (by omega) (by omega)) hlt hUm (by omega) _ rfl (Or.inr (Or.inr ⟨rfl, by omega, rfl⟩))
            | exact end_put (hb _ (by omega) (by omega)) hlt hUm (by omega) _ (quo_neg f _ hf0 hfb.1 (by omega)) (Or.inl ⟨rfl, rfl⟩)
            | exact end_put (hb _ (by omega) (by omega)) hlt hUm (by omega) _ (quo_neg f _ hf0 hfb.1 (by omega)) (Or.inr (Or.inl ⟨rfl, ‹_›, rfl⟩))
            | exact end_put (hb _ (by omega) (by omega)) hlt hUm (by omega) _ (quo_neg f _ hf0 hfb.1 (by omega)) (Or.inr (Or.inr ⟨rfl, by omega, rfl⟩))
        · by_cases hu1 : u < 1 <;> by_cases hf0 : f < 0
          all_goals
            first | have ht := tmod_neg u hu1 | skip
            go_wp2_with (first
                      | (go_at_call 5; refine (name_any k hlt _).mono ?_; rintro e w' ⟨rfl, rfl⟩)
                      | (at_mapUpdate; refine wpList_mapUpdate_own _ rfl _ _ _ 24 rfl 9 2 law9 Yba.underlying24 _ (w.heap.size + 1 + 1 + 1) k DF rfl hF (by unfold maxLen; omega) _ _ _ rfl rfl hkey _ [] (plainElem_int Yba.underlying2 (WalkArith.wf_i64 (by omega))) ?_; intro w1 hF1 hg1; have hU := kept_ne hU hg1 (by omega); have hS := hS.grown hg1 (by omega); go_frame))
            exact ⟨⟨k + 1, _, _, _, fb, by omega, by go_num, rfl, rfl, hU.mono (by omega), hF1, inv_none (hb _ (by omega) (by omega)), hS⟩, by simp [intOf]; omega⟩
      · rcases Bool.eq_false_or_eq_true (bits BinOp.and IntKind.u8 a0 (2 ^ k % 256) != 0) with hB | hB
        · by_cases hu1 : u < 1 <;> by_cases hf0 : f < 0 <;> cases fb
          all_goals
            first | have ht := tmod_neg u hu1 | skip
            go_wp2_with (first
                      | (go_at_call 5; refine (name_any k hlt _).mono ?_; rintro e w' ⟨rfl, rfl⟩)
                      | (at_mapUpdate; refine wpList_mapUpdate_own _ rfl _ _ _ 24 rfl 9 2 law9 Yba.underlying24 _ (w.heap.size + 1 + 1) k DU rfl hU (by unfold maxLen; omega) _ _ _ rfl rfl hkey _ [] (plainElem_int Yba.underlying2 (WalkArith.wf_i64 (by omega))) ?_; intro w2 hU2 hg2; have hF2 := kept_ne hF hg2 (by omega); have hS := hS.grown hg2 (by omega); go_frame))
          all_goals
            refine ⟨⟨k + 1, _, _, _, true, by omega, by go_num, rfl, rfl, hU2, hF2.mono (by omega), ?_, hS⟩, by simp [intOf]; omega⟩
            first
            | exact end_put hM hlt hUm (by omega) _ (by simp) (Or.inl ⟨rfl, rfl⟩)
            | exact end_put hM hlt hUm (by omega) 0 (by simp) (Or.inr (Or.inl ⟨rfl, ‹_›, rfl⟩))
            | exact end_put hM hlt hUm (by omega) 0 (by simp) (Or.inr (Or.inr ⟨rfl, by omega, rfl⟩))
        · by_cases hu1 : u < 1 <;> by_cases hf0 : f < 0
          all_goals
            go_wp2_with (first
                      | (go_at_call 5; refine (name_any k hlt _).mono ?_; rintro e w' ⟨rfl, rfl⟩))
            exact ⟨⟨k + 1, _, _, _, fb, by omega, by go_num, rfl, rfl, hU.mono (by omega), hF.mono (by omega), inv_none hM, hS⟩, by simp [intOf]; omega⟩
    · go_wp2_with (first
        | (go_at_call 6; refine (count_any _ _ k k DU DF _ hU hF hI.pos hI.nonneg).mono ?_; rintro e w' ⟨⟨r, rfl, hr⟩, hb⟩))
      go_ret
      exact ⟨by rw [answer_one hr hI.ans]; simp, hS.2.2.trans (hb.mono hS.2.2.size)⟩

end Go.Proofs.Ybulkapri
