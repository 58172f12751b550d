/-
  The names, and what the law's loop keeps: the plain law of LawS2062CMinFit.
-/
import Derived.Test.YbulkapriCount
namespace Go.Proofs.Ybulkapri
open Go.RowKit Go.WideMaps Go.Maps

def nameOf : Nat → ByteArray
  | 0 => ⟨#[99, 112, 117]⟩
  | 1 => ⟨#[109, 101, 109, 111, 114, 121]⟩
  | 2 => ⟨#[103, 112, 117]⟩
  | 3 => ⟨#[100, 105, 115, 107]⟩
  | 4 => ⟨#[110, 101, 116, 45, 98, 119]⟩
  | _ => ⟨#[115, 108, 111, 116, 95, 120]⟩

def keyLit (j : Nat) : Lit := .string (nameOf j).data.toList

theorem keyOk (j : Nat) : WideAt.IsKeyLit (keyLit j) := trivial

theorem six {P : Nat → Prop} (h0 : P 0) (h1 : P 1) (h2 : P 2) (h3 : P 3) (h4 : P 4) (h5 : P 5) (k : Nat) (hk : k < 6) : P k := by
  match k, hk with
  | 0, _ => exact h0
  | 1, _ => exact h1
  | 2, _ => exact h2
  | 3, _ => exact h3
  | 4, _ => exact h4
  | 5, _ => exact h5
  | n + 6, h => omega

theorem name_any (k : Nat) (hk : k < 6) (w : World) : Calls Yba.prog 5 #[.int .i64 (k : Int)] w fun e w' => e = .returned (.string (nameOf k)) ∧ w' = w := by
  refine six (P := fun k => Calls Yba.prog 5 #[.int .i64 (k : Int)] w fun e w' => e = .returned (.string (nameOf k)) ∧ w' = w) ?_ ?_ ?_ ?_ ?_ ?_ k hk
  all_goals
    go_enter Yba.func5, Yba.ntmps5
    go_wp2
    go_ret
    exact ⟨rfl, rfl⟩

theorem name_size (k : Nat) (hk : k < 6) : (nameOf k).size ≤ maxLen := by
  refine six (P := fun k => (nameOf k).size ≤ maxLen) ?_ ?_ ?_ ?_ ?_ ?_ k hk <;> (unfold maxLen; decide)

theorem key_ne (j k : Nat) (hj : j < k) (hk : k < 6) : keyLit j ≠ keyLit k := by
  refine six (P := fun k => j < k → keyLit j ≠ keyLit k) ?_ ?_ ?_ ?_ ?_ ?_ k hk hj
  all_goals
    intro h
    refine six (P := fun j => j < _ → keyLit j ≠ keyLit _) ?_ ?_ ?_ ?_ ?_ ?_ j (by omega) h <;> (intro h; first | omega | simp [keyLit, nameOf])

theorem tmod_neg (u : Int) (h : u < 1) : -1000 < u.tmod 1000 ∧ u.tmod 1000 ≤ 0 := by
  have e : u = -(-u) := by omega
  rw [e, Int.neg_tmod, Int.tmod_eq_emod_of_nonneg (by omega)]
  omega

/-! ### the plain law -/
section
variable {H : Type} {D DU DF : DataW H} {k : Nat} {wv f q : Int} {fb : Bool} {K z : Lit} {c : Int}

theorem put_val_same (hD : IsMap D) (hK : WideAt.IsKeyLit K) : val (D.put K (.lit (.int .i64 c))) K = c := val_of (atKey_put_same hD hK _ _)
theorem put_val_other (hne : z ≠ K) (d : DataW H) : val (D.put K d) z = val D z := by unfold val; rw [atKey_put_other hne]
theorem put_has (hD : IsMap D) (hK : WideAt.IsKeyLit K) (d : DataW H) : has (D.put K d) z = true ↔ has D z = true ∨ z = K := by
  by_cases e : z = K
  · subst e; simp [has_put_same hD hK]
  · rw [has_put_other e]; simp [e]
theorem val_none (h : has D z = false) : val D z = 0 := by unfold val; rw [atKey_of_not_has h]

structure Inv (k : Nat) (DU DF : DataW H) (wv : Int) (fb : Bool) : Prop where
  keysU : ∀ kl, has DU kl = true → ∃ j, j < k ∧ kl = keyLit j
  keysF : ∀ kl, has DF kl = true → ∃ j, j < k ∧ kl = keyLit j
  pos : ∀ kl, has DU kl = true → 1 ≤ val DU kl
  nonneg : ∀ kl, 0 ≤ val DF kl
  ans : Answer (has DU) (fitAt DU DF) wv
  found : fb = false ↔ ∀ kl, has DU kl = false

structure Mid (k : Nat) (DU DF : DataW H) (f wv : Int) (fb : Bool) : Prop where
  keysU : ∀ kl, has DU kl = true → ∃ j, j < k ∧ kl = keyLit j
  keysF : ∀ kl, has DF kl = true → ∃ j, j < k + 1 ∧ kl = keyLit j
  pos : ∀ kl, has DU kl = true → 1 ≤ val DU kl
  nonneg : ∀ kl, 0 ≤ val DF kl
  ans : Answer (has DU) (fitAt DU DF) wv
  found : fb = false ↔ ∀ kl, has DU kl = false
  atK : val DF (keyLit k) = f

theorem inv_start : Inv 0 (.map [] : DataW H) (.map []) 0 false :=
  { keysU := fun _ h => by simp [Maps.has] at h
    keysF := fun _ h => by simp [Maps.has] at h
    pos := fun _ h => by simp [Maps.has] at h
    nonneg := fun _ => Int.le_refl _
    ans := Or.inl ⟨rfl, fun _ => rfl⟩
    found := ⟨fun _ _ => rfl, fun _ => rfl⟩ }

theorem answer_congr {p : Lit → Bool} {f f' : Lit → Int} {r : Int} (h : Answer p f r) (hf : ∀ z, p z = true → f' z = f z) : Answer p f' r := by
  rcases h with h | ⟨⟨z, hz, e⟩, hle⟩
  · exact Or.inl h
  · exact Or.inr ⟨⟨z, hz, by rw [hf z hz]; exact e⟩, fun y hy => by rw [hf y hy]; exact hle y hy⟩

theorem fresh (hk : k < 6) (h : ∀ kl, has D kl = true → ∃ j, j < k ∧ kl = keyLit j) : has D (keyLit k) = false := by
  cases e : has D (keyLit k)
  · rfl
  · obtain ⟨j, hj, he⟩ := h _ e
    exact absurd he.symm (key_ne j k hj hk)

theorem ne_key (hk : k < 6) (h : ∀ kl, has D kl = true → ∃ j, j < k ∧ kl = keyLit j) (hz : has D z = true) : z ≠ keyLit k := by
  obtain ⟨j, hj, rfl⟩ := h z hz
  exact key_ne j k hj hk

theorem mid_put (h : Inv k DU DF wv fb) (hk : k < 6) (hD : IsMap DF) (hf : 0 ≤ f) : Mid k DU (DF.put (keyLit k) (.lit (.int .i64 f))) f wv fb := by
  refine ⟨h.keysU, fun kl hkl => ?_, h.pos, fun kl => ?_, answer_congr h.ans (fun z hz => ?_), h.found, put_val_same hD (keyOk k)⟩
  · rcases (put_has hD (keyOk k) _).1 hkl with h1 | rfl
    · obtain ⟨j, hj, e⟩ := h.keysF kl h1; exact ⟨j, by omega, e⟩
    · exact ⟨k, by omega, rfl⟩
  · by_cases e : kl = keyLit k
    · rw [e, put_val_same hD (keyOk k)]; exact hf
    · rw [put_val_other e]; exact h.nonneg kl
  · unfold fitAt; rw [put_val_other (ne_key hk h.keysU hz)]

theorem mid_none (h : Inv k DU DF wv fb) (hk : k < 6) : Mid k DU DF 0 wv fb :=
  ⟨h.keysU, fun kl hkl => by obtain ⟨j, hj, e⟩ := h.keysF kl hkl; exact ⟨j, by omega, e⟩, h.pos, h.nonneg, h.ans, h.found, val_none (fresh hk h.keysF)⟩

theorem inv_none (h : Mid k DU DF f wv fb) : Inv (k + 1) DU DF wv fb :=
  ⟨fun kl hkl => by obtain ⟨j, hj, e⟩ := h.keysU kl hkl; exact ⟨j, by omega, e⟩, h.keysF, h.pos, h.nonneg, h.ans, h.found⟩

theorem inv_put (h : Mid k DU DF f wv fb) (hk : k < 6) (hD : IsMap DU) (hq : 1 ≤ q) {r : Int}
    (hans : (fb = false ∧ r = f / q) ∨ (fb = true ∧ f / q < wv ∧ r = f / q) ∨ (fb = true ∧ ¬ f / q < wv ∧ r = wv)) : Inv (k + 1) (DU.put (keyLit k) (.lit (.int .i64 q))) DF r true := by
  have hfitK : fitAt (DU.put (keyLit k) (.lit (.int .i64 q))) DF (keyLit k) = f / q := by unfold fitAt; rw [put_val_same hD (keyOk k), h.atK]
  have hfitO : ∀ z, has DU z = true → fitAt (DU.put (keyLit k) (.lit (.int .i64 q))) DF z = fitAt DU DF z := fun z hz => by
    unfold fitAt; rw [put_val_other (ne_key hk h.keysU hz)]
  refine ⟨fun kl hkl => ?_, h.keysF, fun kl hkl => ?_, h.nonneg, Or.inr ?_, ⟨fun e => (by cases e), fun e => ?_⟩⟩
  · rcases (put_has hD (keyOk k) _).1 hkl with h1 | rfl
    · obtain ⟨j, hj, e⟩ := h.keysU kl h1; exact ⟨j, by omega, e⟩
    · exact ⟨k, by omega, rfl⟩
  · by_cases e : kl = keyLit k
    · rw [e, put_val_same hD (keyOk k)]; exact hq
    · rw [put_val_other e]
      rcases (put_has hD (keyOk k) _).1 hkl with h1 | h1
      · exact h.pos kl h1
      · exact absurd h1 e
  · have hnew : has (DU.put (keyLit k) (.lit (.int .i64 q))) (keyLit k) = true := has_put_same hD (keyOk k) _
    have hcase : ∀ z, has (DU.put (keyLit k) (.lit (.int .i64 q))) z = true → z = keyLit k ∨ has DU z = true := fun z hz => ((put_has hD (keyOk k) _).1 hz).symm
    rcases hans with ⟨h1, rfl⟩ | ⟨h1, h2, rfl⟩ | ⟨h1, h2, rfl⟩
    · have hn := h.found.1 h1
      refine ⟨⟨keyLit k, hnew, hfitK.symm⟩, fun z hz => ?_⟩
      rcases hcase z hz with rfl | hz'
      · rw [hfitK]; exact Int.le_refl _
      · rw [hn z] at hz'; cases hz'
    · refine ⟨⟨keyLit k, hnew, hfitK.symm⟩, fun z hz => ?_⟩
      rcases hcase z hz with rfl | hz'
      · rw [hfitK]; exact Int.le_refl _
      · rw [hfitO z hz']
        rcases h.ans with ⟨_, hn⟩ | ⟨_, hle⟩
        · rw [hn z] at hz'; cases hz'
        · have := hle z hz'; omega
    · rcases h.ans with ⟨_, hn⟩ | ⟨⟨z, hz, e⟩, hle⟩
      · rw [h.found.2 hn] at h1; cases h1
      · refine ⟨⟨z, (put_has hD (keyOk k) _).2 (Or.inl hz), by rw [hfitO z hz]; exact e⟩, fun y hy => ?_⟩
        rcases hcase y hy with rfl | hy'
        · rw [hfitK]; omega
        · rw [hfitO y hy']; exact hle y hy'
  · have := e (keyLit k)
    rw [has_put_same hD (keyOk k)] at this
    cases this
end

end Go.Proofs.Ybulkapri
