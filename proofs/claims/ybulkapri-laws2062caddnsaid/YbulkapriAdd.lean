/-
  Set.Add: over whatever two maps of the world that are not one: each key of the unit is raised by its quantity times n; no other key turns.
-/
import Derived.Test.YbulkapriInv
import Derived.Laws.BitsAllLaws
namespace Go.Proofs.Ybulkapri
open Go.RowKit Go.WideMaps Go.Maps

/-- DF' is DF, raised at those keys of DU that are in p. -/
def Raised {H : Type} (DU DF DF' : DataW H) (p : Lit → Bool) (k : Int) : Prop := ∀ kl, val DF' kl = val DF kl + if p kl = true then val DU kl * k else 0

theorem raised_step {H : Type} {DU DF DF' : DataW H} {left : Lit → Bool} {k : Int} {kl : Lit} {f q : Int} (h : Raised DU DF DF' (fun z => has DU z && !left z) k) (hD : IsMap DF') (hk : WideAt.IsKeyLit kl)
    (hh : has DU kl = true) (hl : left kl = true) (hq : val DU kl = q) (hf : val DF' kl = f) : Raised DU DF (DF'.put kl (.lit (.int .i64 (f + q * k)))) (fun z => has DU z && !(left z && !z.sameKey kl)) k := fun z => by
  by_cases e : z = kl
  · subst e
    rw [put_val_same hD hk]
    have h1 := h z
    simp [hl] at h1
    simp [hh, WideAt.sameKey_self hk, hq]
    omega
  · rw [put_val_other e, h z]
    have : z.sameKey kl = false := sameKey_ne e
    simp [this]

set_option maxRecDepth 100000 in
set_option maxHeartbeats 400000 in
theorem add_any {H : Type} (bU bF n m : Nat) (DU DF : DataW H) (k : Int) (w : World) (hU : w.ownsMap Yba.prog 9 (plainElem Yba.prog 2) bU n DU) (hF : w.ownsMap Yba.prog 9 (plainElem Yba.prog 2) bF m DF)
    (hne : bU ≠ bF) (hm : m + size DU < maxLen) (hk : 0 ≤ k ∧ k ≤ 999) (hpU : ∀ kl, has DU kl = true → 1 ≤ val DU kl ∧ val DU kl ≤ 1000) (hpF : ∀ kl, 0 ≤ val DF kl ∧ val DF kl < 1099511627776) :
    Calls Yba.prog 7 #[.map (some bF), .map (some bU), .int .i64 k] w fun e w' => e = .returned (.tuple #[]) ∧ w.grownBy w' (some bF) ∧ w'.ownsMap Yba.prog 9 (plainElem Yba.prog 2) bU n DU ∧
      ∃ DF' m', w'.ownsMap Yba.prog 9 (plainElem Yba.prog 2) bF m' DF' ∧ Raised DU DF DF' (has DU) k := by
  have hUl := hU.lt
  have hFl := hF.lt
  go_enter Yba.func7, Yba.ntmps7
  go_wp2_with (first
    | (at_range; refine wpList_range_own _ rfl _ 24 rfl 9 2 law9 Yba.underlying24 _ bU n _ rfl hU ?_; intro w0 hrg0 hg0 hs0)
    | go_in)
  go_frame
  go_loopw [6] (fun _ wr => ∃ (left : Lit → Bool) (cnt : Nat) (DF' : DataW H), wr.ranges Yba.prog 9 (plainElem Yba.prog 2) bU w.heap.size n DU left cnt ∧ cnt ≤ size DU ∧
      wr.ownsMap Yba.prog 9 (plainElem Yba.prog 2) bF (m + (size DU - cnt)) DF' ∧ Raised DU DF DF' (fun z => has DU z && !left z) k ∧ w.grownBy wr (some bF))
    (fun _ wr => wr.rangeLeft bU w.heap.size)
  case atStart =>
    exact ⟨_, _, DF, hrg0, Nat.le_refl _, (hF.kept hg0 (by simp)).mono (by omega), fun z => by cases has DU z <;> simp, hg0.but _⟩
  case round =>
    obtain ⟨left, cnt, DF', hrg, hcs, hF1, hR, hgw⟩ := hrel
    go_wp2_with (first
      | (at_next; refine wpList_next_ranges_si _ rfl _ rfl 9 2 .i64 law9 Yba.underlying9 Yba.underlying2 bU w.heap.size n _ _ _ rfl hrg ?_ ?_)
      | go_in)
    · intro hc0 hl0
      go_wp2
      go_end0
      have hR' : Raised DU DF DF' (has DU) k := fun z => by have := hR z; simpa [hl0 z] using this
      exact ⟨rfl, hgw, hrg.owns, DF', _, hF1, hR'⟩
    · intro s q w1 cnt1 hs hwq hlx hat hrg1 hlt hg1 hs1 hen
      have hF2 := hF1.kept hg1 (fun e => by have := Option.some.inj e; omega)
      have hF2m := hF2.isMap
      have hhas := has_true_of_atKey hat
      have hvq : val DU (.string s.data.toList) = q := val_of (hat _)
      have hq1 : 1 ≤ q ∧ q ≤ 1000 := by have := hpU _ hhas; omega
      have hqk : 0 ≤ q * k ∧ q * k ≤ 999000 := ⟨Int.mul_nonneg (by omega) hk.1, by have := Int.mul_le_mul hq1.2 hk.2 hk.1 (by omega : (0 : Int) ≤ 1000); omega⟩
      have HV : Hid (val DU (.string s.data.toList) = q) := hvq
      have HH : Hid (has DU (.string s.data.toList) = true) := hhas
      have HR := hR (.string s.data.toList)
      have hbF := hpF (.string s.data.toList)
      simp only [hlx, Bool.not_true, Bool.and_false, Bool.false_eq_true, if_false] at HR
      have hbF' : 0 ≤ val DF' (.string s.data.toList) ∧ val DF' (.string s.data.toList) < 1099511627776 := by omega
      have hgw1 := hgw.andThen hg1 (fun j hj => by cases hj; exact Or.inl (Nat.le_refl _))
      clear hvq hat hhas HR hbF
      go_wp2_with (first
        | (at_lookup; refine wpList_lookup_own_int _ rfl _ _ 24 rfl 9 2 .i64 law9 Yba.underlying24 Yba.underlying2 (zero2 _) bF _ _ rfl hF2 _ _ rfl (keyOf_string_mk Yba.underlying9 hs) ?_; intro f hatf hwf; rw [val_of hatf] at hbF'; have HF : Hid (val DF' (.string s.data.toList) = f) := val_of hatf; clear hatf hwf)
        | (at_mapUpdate; refine wpList_mapUpdate_own _ rfl _ _ _ 24 rfl 9 2 law9 Yba.underlying24 _ bF _ _ rfl hF2 (by omega) _ _ _ rfl rfl (keyOf_string_mk Yba.underlying9 hs) _ [] (plainElem_int Yba.underlying2 (WalkArith.wf_i64 (by omega))) ?_; intro w2 hF3 hg2; go_frame)
        | go_in)
      have hrg2 := hrg1.kept hg2 (fun e => by have := Option.some.inj e; omega) (fun e => by have := Option.some.inj e; omega)
      refine ⟨⟨_, cnt1, _, hrg2, by omega, hF3.mono (by omega), raised_step hR hF2m trivial HH.out hlx HV.out HF.out, hgw1.trans hg2⟩, by rw [hrg2.left_eq, hrg.left_eq]; exact hlt⟩

/-! ### the plain law of AddN -/
section
variable {H : Type} {DU DF DF' : DataW H} {k : Nat} {f q : Int} {B : Nat → Bool}

structure InvA (B : Nat → Bool) (k : Nat) (DU DF : DataW H) : Prop where
  keysU : ∀ kl, has DU kl = true → ∃ j, j < k ∧ kl = keyLit j
  pos : ∀ kl, has DU kl = true → 1 ≤ val DU kl ∧ val DU kl ≤ 1000
  nonneg : ∀ kl, 0 ≤ val DF kl ∧ val DF kl < 1099511627776
  empt : (∀ kl, has DU kl = false) ↔ ∀ j, j < k → B j = false

theorem invA_start : InvA B 0 (.map [] : DataW H) (.map []) :=
  { keysU := fun _ h => by simp [Maps.has] at h
    pos := fun _ h => by simp [Maps.has] at h
    nonneg := fun _ => ⟨Int.le_refl _, by show (0 : Int) < 1099511627776; decide⟩
    empt := ⟨fun _ j h => by omega, fun _ _ => rfl⟩ }

theorem invA_free (h : InvA B k DU DF) (hD : IsMap DF) (hf : 0 ≤ f ∧ f < 1099511627776) : InvA B k DU (DF.put (keyLit k) (.lit (.int .i64 f))) :=
  { keysU := h.keysU
    pos := h.pos
    nonneg := fun kl => by
      by_cases e : kl = keyLit k
      · rw [e, put_val_same hD (keyOk k)]; exact hf
      · rw [put_val_other e]; exact h.nonneg kl
    empt := h.empt }

theorem invA_none (h : InvA B k DU DF) (hB : B k = false) : InvA B (k + 1) DU DF :=
  { keysU := fun kl hkl => by obtain ⟨j, hj, e⟩ := h.keysU kl hkl; exact ⟨j, by omega, e⟩
    pos := h.pos
    nonneg := h.nonneg
    empt := ⟨fun hn j hj => by
        by_cases e : j = k
        · rw [e]; exact hB
        · exact h.empt.1 hn j (by omega), fun hb => h.empt.2 (fun j hj => hb j (by omega))⟩ }

theorem invA_put (h : InvA B k DU DF) (hB : B k = true) (hD : IsMap DU) (hq : 1 ≤ q ∧ q ≤ 1000) : InvA B (k + 1) (DU.put (keyLit k) (.lit (.int .i64 q))) DF :=
  { keysU := fun kl hkl => by
      rcases (put_has hD (keyOk k) _).1 hkl with h1 | rfl
      · obtain ⟨j, hj, e⟩ := h.keysU kl h1; exact ⟨j, by omega, e⟩
      · exact ⟨k, by omega, rfl⟩
    pos := fun kl hkl => by
      by_cases e : kl = keyLit k
      · rw [e, put_val_same hD (keyOk k)]; exact hq
      · rw [put_val_other e]
        rcases (put_has hD (keyOk k) _).1 hkl with h1 | h1
        · exact h.pos kl h1
        · exact absurd h1 e
    nonneg := h.nonneg
    empt := ⟨fun hn => absurd ((hn (keyLit k)).symm.trans (has_put_same hD (keyOk k) _)) (by decide), fun hb => absurd ((hb k (by omega)).symm.trans hB) (by decide)⟩ }

theorem raised_fit {c : Int} (hR : Raised DU DF DF' (has DU) c) (hp : ∀ kl, has DU kl = true → 1 ≤ val DU kl) {z : Lit} (hz : has DU z = true) : fitAt DU DF' z = fitAt DU DF z + c := by
  unfold fitAt
  rw [hR z, if_pos hz]
  have := hp z hz
  rw [Int.add_mul_ediv_left _ _ (by omega)]

theorem answer_raised {c r r' : Int} (hR : Raised DU DF DF' (has DU) c) (hp : ∀ kl, has DU kl = true → 1 ≤ val DU kl) (h : Answer (has DU) (fitAt DU DF) r) (h' : Answer (has DU) (fitAt DU DF') r') (hn : ¬ ∀ kl, has DU kl = false) : r' = r + c := by
  rcases h with ⟨_, h0⟩ | ⟨⟨z, hz, e⟩, hle⟩
  · exact absurd h0 hn
  · rcases h' with ⟨_, h0⟩ | ⟨⟨z', hz', e'⟩, hle'⟩
    · exact absurd h0 hn
    · have h1 := hle z' hz'
      have h2 := hle' z hz
      rw [raised_fit hR hp hz'] at e'
      rw [raised_fit hR hp hz] at h2
      omega

theorem answer_empty {p : Lit → Bool} {f : Lit → Int} {r : Int} (h : Answer p f r) (hn : ∀ kl, p kl = false) : r = 0 := by
  rcases h with ⟨h0, _⟩ | ⟨⟨z, hz, _⟩, _⟩
  · exact h0
  · rw [hn z] at hz; cases hz
end

theorem tmod_neg40 (f : Int) (h : f < 0) : -1099511627776 < (f + 1).tmod 1099511627776 ∧ (f + 1).tmod 1099511627776 ≤ 0 := by
  have e : f + 1 = -(-(f + 1)) := by omega
  rw [e, Int.neg_tmod, Int.tmod_eq_emod_of_nonneg (by omega)]
  omega

theorem u64_tmod (u : Int) : 0 ≤ (IntKind.u64.wrap u).tmod 1000 ∧ (IntKind.u64.wrap u).tmod 1000 ≤ 999 := by
  have h : 0 ≤ IntKind.u64.wrap u := by rw [IntKind.wrap_u64]; omega
  rw [Int.tmod_eq_emod_of_nonneg h]
  omega

theorem mask63_nat : ∀ a, a < 256 → ((a % 64 = 0) ↔ ∀ j, j < 6 → a &&& (2 ^ j % 256) = 0) := by decide +kernel

/-- (The walk writes 'mask & 63' as 'mask % 64'.) -/
theorem mask63 (a : Int) (h0 : 0 ≤ a) (h1 : a ≤ 255) : (a % 64 == 0) = true ↔ ∀ j, j < 6 → (bits BinOp.and IntKind.u8 a (2 ^ j % 256) != 0) = false := by
  have e : ∀ j : Nat, j < 6 → bits .and .u8 a (2 ^ j % 256) = ((a.toNat &&& (2 ^ j % 256) : Nat) : Int) := fun j hj => by
    have := u8_and a (2 ^ j % 256) h0 (by omega) (by omega) (by omega)
    rw [this]
    congr 2
  have := mask63_nat a.toNat (by omega)
  simp only [beq_iff_eq, bne_eq_false_iff_eq]
  constructor
  · intro h j hj
    rw [e j hj]
    have := this.1 (by omega) j hj
    omega
  · intro h
    have h2 := this.2 (fun j hj => by have := h j hj; rw [e j hj] at this; omega)
    omega

theorem answer_bound {H : Type} {DU DF : DataW H} {r : Int} (h : Answer (has DU) (fitAt DU DF) r) (hp : ∀ kl, has DU kl = true → 1 ≤ val DU kl) (hn : ∀ kl, 0 ≤ val DF kl ∧ val DF kl < 1099511627776) : 0 ≤ r ∧ r ≤ 1099511627776 := by
  rcases h with ⟨h0, _⟩ | ⟨⟨z, hz, e⟩, _⟩
  · omega
  · have h1 := hp z hz
    have h2 := hn z
    have h3 : 0 ≤ fitAt DU DF z := Int.ediv_nonneg h2.1 (by omega)
    have h4 : fitAt DU DF z ≤ val DF z := Int.ediv_le_self _ h2.1
    omega

end Go.Proofs.Ybulkapri
