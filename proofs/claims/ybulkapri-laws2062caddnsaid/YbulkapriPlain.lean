/-
  THE PLAIN PART: what 'the least of f over the keys' is, and how it grows by one key; no Go in sight.
-/
import Derived.Maps.RangeWalk
import Derived.Maps.OwnOps
namespace Go.Proofs.Ybulkapri
open Go.Maps

/-- The number that a map of integers holds at a key (0 where there is none). -/
def val {H : Type} (D : DataW H) (kl : Lit) : Int :=
  match D.atKey kl (.lit (.int .i64 0)) with
  | .lit (.int _ c) => c
  | _ => 0

theorem val_of {H : Type} {D : DataW H} {kl : Lit} {c : Int} (h : D.atKey kl (.lit (.int .i64 0)) = .lit (.int .i64 c)) : val D kl = c := by
  unfold val; rw [h]

/-- How many units fit at one key. -/
def fitAt {H : Type} (DU DF : DataW H) (kl : Lit) : Int := val DF kl / val DU kl

/-- c is the least of f over the keys in p; -1 where p is empty. -/
def Least (p : Lit → Bool) (f : Lit → Int) (c : Int) : Prop :=
  (c = -1 ∧ ∀ kl, p kl = false) ∨ ((∃ kl, p kl = true ∧ c = f kl) ∧ ∀ kl, p kl = true → c ≤ f kl)

theorem least_start (p : Lit → Bool) (f : Lit → Int) (h : ∀ kl, p kl = false) : Least p f (-1) := Or.inl ⟨rfl, h⟩

theorem least_new {p p' : Lit → Bool} {f : Lit → Int} {c : Int} {k : Lit} (h : Least p f c) (hp' : ∀ z, p' z = true ↔ p z = true ∨ z = k) (hf : ∀ z, p z = true → 0 ≤ f z) (hc : c < 0) : Least p' f (f k) := by
  rcases h with ⟨_, hn⟩ | ⟨⟨z, hz, e⟩, _⟩
  · refine Or.inr ⟨⟨k, (hp' k).2 (Or.inr rfl), rfl⟩, fun z hz => ?_⟩
    rcases (hp' z).1 hz with h1 | rfl
    · rw [hn z] at h1; cases h1
    · exact Int.le_refl _
  · have := hf z hz; omega

theorem least_less {p p' : Lit → Bool} {f : Lit → Int} {c : Int} {k : Lit} (h : Least p f c) (hp' : ∀ z, p' z = true ↔ p z = true ∨ z = k) (hl : f k < c) : Least p' f (f k) := by
  rcases h with ⟨_, hn⟩ | ⟨_, hle⟩
  · refine Or.inr ⟨⟨k, (hp' k).2 (Or.inr rfl), rfl⟩, fun z hz => ?_⟩
    rcases (hp' z).1 hz with h1 | rfl
    · rw [hn z] at h1; cases h1
    · exact Int.le_refl _
  · refine Or.inr ⟨⟨k, (hp' k).2 (Or.inr rfl), rfl⟩, fun z hz => ?_⟩
    rcases (hp' z).1 hz with h1 | rfl
    · have := hle z h1; omega
    · exact Int.le_refl _

theorem least_same {p p' : Lit → Bool} {f : Lit → Int} {c : Int} {k : Lit} (h : Least p f c) (hp' : ∀ z, p' z = true ↔ p z = true ∨ z = k) (hc : ¬ c < 0) (hl : ¬ f k < c) : Least p' f c := by
  rcases h with ⟨h1, _⟩ | ⟨⟨z, hz, e⟩, hle⟩
  · omega
  · refine Or.inr ⟨⟨z, (hp' z).2 (Or.inl hz), e⟩, fun y hy => ?_⟩
    rcases (hp' y).1 hy with h1 | rfl
    · exact hle y h1
    · omega

theorem least_congr {p p' : Lit → Bool} {f : Lit → Int} {c : Int} (h : Least p f c) (hp : ∀ z, p' z = p z) : Least p' f c := by
  have : p' = p := funext hp
  rw [this]; exact h

theorem least_lo {p : Lit → Bool} {f : Lit → Int} {c : Int} (h : Least p f c) (hf : ∀ z, p z = true → 0 ≤ f z) : -1 ≤ c := by
  rcases h with ⟨h1, _⟩ | ⟨⟨z, hz, e⟩, _⟩
  · omega
  · have := hf z hz; omega

/-- What 'CountIn' answers: the least of f over the keys; 0 where there is none. -/
def Answer (p : Lit → Bool) (f : Lit → Int) (r : Int) : Prop :=
  (r = 0 ∧ ∀ kl, p kl = false) ∨ ((∃ kl, p kl = true ∧ r = f kl) ∧ ∀ kl, p kl = true → r ≤ f kl)

theorem answer_neg {p : Lit → Bool} {f : Lit → Int} {c : Int} (h : Least p f c) (hf : ∀ z, p z = true → 0 ≤ f z) (hc : c < 0) : Answer p f 0 := by
  rcases h with ⟨_, hn⟩ | ⟨⟨z, hz, e⟩, _⟩
  · exact Or.inl ⟨rfl, hn⟩
  · have := hf z hz; omega

theorem answer_pos {p : Lit → Bool} {f : Lit → Int} {c : Int} (h : Least p f c) (hc : ¬ c < 0) : Answer p f c := by
  rcases h with ⟨h1, _⟩ | h
  · omega
  · exact Or.inr h

/-- There is but one answer. -/
theorem answer_one {p : Lit → Bool} {f : Lit → Int} {r r' : Int} (h : Answer p f r) (h' : Answer p f r') : r = r' := by
  rcases h with ⟨h1, hn⟩ | ⟨⟨z, hz, e⟩, hle⟩
  · rcases h' with ⟨h1', _⟩ | ⟨⟨z', hz', _⟩, _⟩
    · omega
    · rw [hn z'] at hz'; cases hz'
  · rcases h' with ⟨_, hn'⟩ | ⟨⟨z', hz', e'⟩, hle'⟩
    · rw [hn' z] at hz; cases hz
    · have h1 := hle z' hz'
      have h2 := hle' z hz
      omega

/-- THE RANGE's STEP, string keys, integer elements (after 'wpList_next_ranges_ii'). -/
theorem wpList_next_ranges_si {H : Type} {P : Program} (w : World) {ops : Array Oper} {rest : List Oper} {o : Oper} {a : Act} {Q : Exit → Act → World → Prop}
    (hg : o.guard = none) (it : Operand) (hop : o.op = Op.next it false) (k e : TypeId) (qe : IntKind) (K : Keyed P k) (hk : P.underlying k = some .string) (he : P.underlying e = some (.int qe))
    (b r n : Nat) (D : DataW H) (left : Lit → Bool) (cnt : Nat) (hit : a.eval it = .pointer (some ⟨r, 0, none⟩)) (h : w.ranges P k (plainElem P e) b r n D left cnt)
    (hDone : cnt = 0 → (∀ kl, left kl = false) → wpList P ops Q rest (a.put o.dst (.tuple #[.bool false])) w)
    (hMore : ∀ (s : ByteArray) (c : Int) (w' : World) (cnt' : Nat), s.size ≤ maxLen → (Lit.int qe c).wf = true → left (.string s.data.toList) = true → (∀ zd, D.atKey (.string s.data.toList) zd = .lit (.int qe c)) → w'.ranges P k (plainElem P e) b r n D (fun z => left z && !z.sameKey (.string s.data.toList)) cnt' → cnt' < cnt →
      w.grownBy w' (some r) → w'.heap.size = w.heap.size → (Instr.entry (.pointer (some ⟨r, 0, none⟩))).run P w' = .ok (.tuple #[.string s, .int qe c]) w' → wpList P ops Q rest (a.put o.dst (.tuple #[.bool true, .string s, .int qe c])) w') :
    wpList P ops Q (o :: rest) a w :=
  wpList_next_ranges w hg it hop k K (plainElem P e) Value.string (Value.int qe) (fun key kl hkey => by cases key <;> simp [keyOf, hk, mapKey] at hkey; exact ⟨_, rfl⟩) (fun v y hv => by obtain ⟨c, rfl, _⟩ := plainElem_int_inv he hv; exact ⟨c, rfl⟩)
    b r n D left cnt hit h hDone (fun s c kl y w' cnt' hkey hlk hv hat hrg hlt hgr hsz hen => by
      simp [keyOf, hk, mapKey] at hkey
      obtain ⟨hs, rfl⟩ := hkey
      obtain ⟨c', ec, rfl, hwc⟩ := plainElem_int_inv he hv
      cases ec
      exact hMore s c w' cnt' hs hwc hlk hat hrg hlt hgr hsz hen)

end Go.Proofs.Ybulkapri
