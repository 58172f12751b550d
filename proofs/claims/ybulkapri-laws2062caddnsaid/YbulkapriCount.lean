/-
  CountIn: over whatever two maps of the world, units of at least 1, free of at least 0: the answer is the least quotient, on every order.
-/
import Derived.Test.YbulkapriRows
import Derived.Test.YbulkapriPlain
import Derived.WalkKit
import Derived.WalkSpells
import Derived.WalkLawsBesides
import Derived.OpenShut
namespace Go.Proofs.Ybulkapri
open Go.RowKit Go.WideMaps Go.Maps

theorem law9 : Keyed Yba.prog 9 := string_keyed Yba.underlying9
theorem zero2 (w : World) : (zeroValue 2).run Yba.prog w = .ok (.int .i64 0) w := by kernel_rfl

set_option maxRecDepth 100000 in
set_option maxHeartbeats 400000 in
theorem count_any {H : Type} (bU bF n m : Nat) (DU DF : DataW H) (w : World) (hU : w.ownsMap Yba.prog 9 (plainElem Yba.prog 2) bU n DU) (hF : w.ownsMap Yba.prog 9 (plainElem Yba.prog 2) bF m DF)
    (hpU : ∀ kl, has DU kl = true → 1 ≤ val DU kl) (hpF : ∀ kl, 0 ≤ val DF kl) :
    Calls Yba.prog 6 #[.map (some bU), .map (some bF)] w fun e w' => (∃ r : Int, e = .returned (.int .i64 r) ∧ Answer (has DU) (fitAt DU DF) r) ∧ Below w.heap.size w w' := by
  have hUl := hU.lt
  have hFl := hF.lt
  have hf0 : ∀ z, has DU z = true → 0 ≤ fitAt DU DF z := fun z hz => Int.ediv_nonneg (hpF z) (by have := hpU z hz; omega)
  go_enter Yba.func6, Yba.ntmps6
  go_wp2_with (first
    | (at_range; refine wpList_range_own _ rfl _ 24 rfl 9 2 law9 Yba.underlying24 _ bU n _ rfl hU ?_; intro w0 hrg0 hg0 hs0)
    | go_in)
  go_frame
  go_loopw [5] (fun t wr => ∃ (left : Lit → Bool) (cnt : Nat) (c : Int), t = .int .i64 c ∧ wr.ranges Yba.prog 9 (plainElem Yba.prog 2) bU w.heap.size n DU left cnt ∧
      Least (fun kl => has DU kl && !left kl) (fitAt DU DF) c ∧ wr.ownsMap Yba.prog 9 (plainElem Yba.prog 2) bF m DF ∧ Below w.heap.size w wr)
    (fun _ wr => wr.rangeLeft bU w.heap.size)
  case atStart =>
    exact ⟨_, _, -1, rfl, hrg0, least_start _ _ (fun kl => by cases has DU kl <;> rfl), hF.kept hg0 (by simp), (Below.refl _ _).grown hg0 (Nat.le_refl _) (fun j hj => by cases hj)⟩
  case round =>
    obtain ⟨left, cnt, c, rfl, hrg, hL, hF1, hnx⟩ := hrel
    go_wp2_with (first
      | (at_next; refine wpList_next_ranges_si _ rfl _ rfl 9 2 .i64 law9 Yba.underlying9 Yba.underlying2 bU w.heap.size n _ _ _ rfl hrg ?_ ?_)
      | go_in)
    · intro hc0 hl0
      have hLe := least_congr (p' := has DU) hL (fun z => by rw [hl0 z]; cases has DU z <;> rfl)
      have hlo := least_lo hLe hf0
      by_cases hc : c < 0
      · go_wp2
        go_ret
        exact ⟨⟨0, rfl, answer_neg hLe hf0 hc⟩, hnx⟩
      · go_wp2
        go_ret
        exact ⟨⟨c, rfl, answer_pos hLe (by omega)⟩, hnx⟩
    · intro s q w1 cnt1 hs hwq hlx hat hrg1 hlt hg1 hs1 hen
      have hF2 := hF1.kept hg1 (by simp; omega)
      have hhas := has_true_of_atKey hat
      have hvq : val DU (.string s.data.toList) = q := val_of (hat _)
      have hq1 : 1 ≤ q := by have := hpU _ hhas; omega
      have hnx1 := hnx.grown hg1 hnx.size (fun j hj => by cases hj; exact Nat.le_refl _)
      have HV : Hid (val DU (.string s.data.toList) = q) := hvq
      have HP : Hid (∀ z, (has DU z && !(left z && !z.sameKey (.string s.data.toList))) = true ↔ (has DU z && !left z) = true ∨ z = .string s.data.toList) := fun z => by
        have := WideAt.sameKey_iff (a := z) (b := .string s.data.toList) trivial
        by_cases e : z = .string s.data.toList
        · subst e; simp [hhas, this.2 rfl]
        · have : z.sameKey (.string s.data.toList) = false := by cases h : z.sameKey (.string s.data.toList); rfl; exact absurd (this.1 h) e
          simp [this, e]
      clear hvq hat hhas
      go_wp2_with (first
        | (at_lookup; refine wpList_lookup_own_int _ rfl _ _ 24 rfl 9 2 .i64 law9 Yba.underlying24 Yba.underlying2 (zero2 _) bF m _ rfl hF2 _ _ rfl (keyOf_string_mk Yba.underlying9 hs) ?_; intro f hatf hwf; have hf0' := hpF (.string s.data.toList); rw [val_of hatf] at hf0'; have hfb := bounds_i64 hwf; have HF : Hid (val DF (.string s.data.toList) = f) := val_of hatf; clear hatf hwf)
        | go_in)
      all_goals
        have hfit : f / q = fitAt DU DF (.string s.data.toList) := by unfold fitAt; rw [HV.out, HF.out]
        have hfp : ∀ z, (has DU z && !left z) = true → 0 ≤ fitAt DU DF z := fun z hz => hf0 z (by cases h : has DU z <;> simp [h] at hz; rfl)
        refine ⟨⟨_, cnt1, _, rfl, hrg1, ?_, hF2, hnx1⟩, by rw [hrg1.left_eq, hrg.left_eq]; exact hlt⟩
        first
        | (rw [hfit]; exact least_new hL HP.out hfp (by omega))
        | exact least_same hL HP.out (by omega) (by omega)
        | (rw [hfit]; exact least_less hL HP.out (by omega))

end Go.Proofs.Ybulkapri
