/-
  Card.lastSelected: the roots of those applications that are marked, in order.
-/
import Derived.Test.YbulkaprwRows
import Derived.WalkKit
import Derived.WalkSpells
import Derived.WalkLawsBesides
import Derived.Deep.AppendLies
namespace Go.Proofs.Ybulkaprw
open Go.RowKit

/-- The marked ones among the first k. -/
def flt (L : Nat → Bool) (k : Nat) : List Nat := (List.range k).filter L

theorem flt_zero (L : Nat → Bool) : flt L 0 = [] := rfl
theorem flt_yes {L : Nat → Bool} {k : Nat} (h : L k = true) : flt L (k + 1) = flt L k ++ [k] := by
  unfold flt; rw [List.range_succ, List.filter_append]; simp [h]
theorem flt_no {L : Nat → Bool} {k : Nat} (h : L k = false) : flt L (k + 1) = flt L k := by
  unfold flt; rw [List.range_succ, List.filter_append]; simp [h]
theorem flt_len (L : Nat → Bool) (k : Nat) : (flt L k).length ≤ k := by
  unfold flt; have := List.length_filter_le L (List.range k); simpa using this

def roots (R : Nat → ByteArray) (l : List Nat) : List Value := l.map fun j => .string (R j)

theorem info9 : (Yba.prog.info? 9).map (fun i => (i.zero, i.size, i.bytes)) = some (some (.string ⟨#[]⟩), 1, 16) := by kernel_rfl

/-- Where the j-th mark stands among the marked ones. -/
theorem flt_at {L : Nat → Bool} {j n : Nat} (hj : j < n) (h : L j = true) : (flt L n)[(flt L j).length]? = some j := by
  induction n with
  | zero => omega
  | succ n ih =>
    by_cases e : j = n
    · subst e; rw [flt_yes h]; simp
    · have := ih (by omega)
      cases hn : L n
      · rw [flt_no hn]; exact this
      · rw [flt_yes hn]
        have hl : (flt L j).length < (flt L n).length := (List.getElem?_eq_some_iff.1 this).1
        rw [List.getElem?_append_left hl]; exact this

theorem flt_lt {L : Nat → Bool} {j n : Nat} (hj : j < n) (h : L j = true) : (flt L j).length < (flt L n).length := (List.getElem?_eq_some_iff.1 (flt_at hj h)).1

/-- A cell of a row that is owned. -/
theorem row_cell {w : World} {base : Nat} {e : TypeId} {g n cap : Nat} {xs : List Value} (h : w.ownsRow base e 1 (.slice (some ⟨g, 0, none⟩) n cap) n xs) {j : Nat} {u : Value} (hu : xs[j]? = some u) : w.cell? ⟨g, j, none⟩ = some u := by
  rcases h.2 with ⟨h1, _⟩ | ⟨g', cap', cur, h1, _, hg, _, _, _, ht⟩
  · cases h1
  · cases h1
    rw [cell_of_row w g j cur e (0, 0) hg]
    rw [← ht] at hu
    have hj : j < n * 1 := by
      have := (List.getElem?_eq_some_iff.1 hu).1
      simp at this; omega
    rw [List.getElem?_take, if_pos hj] at hu
    simpa using hu

/-- What lastSelected hands back: nil where none is marked; else a slice of the call's own with the marked ones' roots. -/
def Got (w w' : World) (got : Value) (R : Nat → ByteArray) (l : List Nat) : Prop :=
  (l = [] ∧ got = .slice none 0 0) ∨ ∃ g cap, got = .slice (some ⟨g, 0, none⟩) l.length cap ∧ w.heap.size ≤ g ∧ g < w'.heap.size ∧ 0 < l.length ∧ ∀ j x, l[j]? = some x → w'.cell? ⟨g, j, none⟩ = some (.string (R x))

theorem got_of {w w' : World} {got : Value} {R : Nat → ByteArray} {l : List Nat} (h : w'.ownsRow w.heap.size 9 1 got l.length (roots R l)) (h0 : l = [] → got = .slice none 0 0) : Got w w' got R l := by
  by_cases e : l = []
  · exact Or.inl ⟨e, h0 e⟩
  · have hl : 0 < l.length := List.length_pos_iff.2 e
    obtain ⟨g, cap, rfl, hb, hlt⟩ := h.form hl
    refine Or.inr ⟨g, cap, rfl, hb, hlt, hl, fun j x hx => row_cell h ?_⟩
    unfold roots
    rw [List.getElem?_map, hx]; rfl

/-- The card's list of applications: n pointers in block g, each to a struct whose root and mark are as told. -/
def Listed (w : World) (g n : Nat) (G : Nat → Nat) (R : Nat → ByteArray) (L : Nat → Bool) : Prop :=
  ∀ j, j < n → w.cell? ⟨g, j, none⟩ = some (.pointer (some ⟨G j, 0, none⟩)) ∧ w.cell? ⟨G j, 2, none⟩ = some (.string (R j)) ∧ w.cell? ⟨G j, 6, none⟩ = some (.bool (L j)) ∧ g < w.heap.size ∧ G j < w.heap.size

theorem Listed.below {w w' : World} {g n : Nat} {G : Nat → Nat} {R : Nat → ByteArray} {L : Nat → Bool} (h : Listed w g n G R L) (hb : Below w.heap.size w w') : Listed w' g n G R L := fun j hj => by
  obtain ⟨h1, h2, h3, h4, h5⟩ := h j hj
  have := hb.size
  exact ⟨(hb.cell h4).trans h1, (hb.cell h5).trans h2, (hb.cell h5).trans h3, by omega, by omega⟩

set_option maxRecDepth 100000 in
set_option maxHeartbeats 400000 in
theorem last_any (C g n cap : Nat) (G : Nat → Nat) (R : Nat → ByteArray) (L : Nat → Bool) (w : World) (hn : n ≤ 1024) (hC : w.cell? ⟨C, 1, none⟩ = some (.slice (some ⟨g, 0, none⟩) n cap)) (hl : Listed w g n G R L) :
    Calls Yba.prog 7 #[.pointer (some ⟨C, 0, none⟩)] w fun e w' => ∃ got, e = .returned got ∧ Got w w' got R (flt L n) ∧ Below w.heap.size w w' := by
  obtain ⟨i0, hi, hz0, hz1, hz2⟩ := info_parts info9
  go_enter Yba.func7, Yba.ntmps7
  go_wp2
  go_loopw [3, 11] (fun ro i wr => ∃ k : Nat, k ≤ n ∧ i = .int .i64 k ∧ wr.ownsRow w.heap.size 9 1 ro (flt L k).length (roots R (flt L k)) ∧ (flt L k = [] → ro = .slice none 0 0) ∧ Below w.heap.size w wr)
    (fun _ i _ => n - (intOf i).toNat)
  case atStart => exact ⟨0, Nat.zero_le _, rfl, World.ownsRow_nil _ _ _ _, fun _ => rfl, Below.refl _ _⟩
  case round =>
    obtain ⟨k, hk, rfl, hown, hnil0, hnx⟩ := hrel
    have HN : Hid (flt L k = [] → _) := hnil0
    clear hnil0
    have hsz := hnx.size
    have hfl := flt_len L k
    by_cases hlt : k < n
    · obtain ⟨c1, c2, c3, hg, hG⟩ := hl.below hnx k hlt
      cases hL : L k
      · rw [hL] at c3
        have HF : Hid (flt L (k + 1) = flt L k) := flt_no hL
        go_wp2
        exact ⟨⟨k + 1, by omega, by go_num, by rw [HF.out]; exact hown, by rw [HF.out]; exact HN.out, hnx⟩, by simp [intOf]; omega⟩
      · rw [hL] at c3
        have HF : Hid (flt L (k + 1) = flt L k ++ [k]) := flt_yes hL
        go_wp2_with (first
          | (at_builtin; refine wpList_append_own_at _ rfl _ _ 54 rfl w.heap.size 9 i0 (.string ⟨#[]⟩) 1 16 Yba.underlying54 hi hz0 hz1 hz2 rfl (by decide) _ _ _ rfl (hown.alloc _) ⟨wr.heap.size, 0, none⟩ 1 1 [.string (R k)] rfl rfl (cell_one_new _ _ _) (by simp [Value.oneCell']) (by unfold maxLen; omega) (by omega) (by simp; omega) ?_; intro v' w1 hown1 hgrow hnil hloc)
          | go_in)
        refine ⟨⟨k + 1, by omega, by go_num, ?_, fun h => by rw [HF.out] at h; simp at h, (hnx.alloc hsz _).grown hgrow (by simp; omega) (fun j hj => (hown.lt j hj).1)⟩, by simp [intOf]; omega⟩
        rw [HF.out]
        simpa [roots] using hown1
    · have hkn : k = n := by omega
      subst hkn
      go_wp2
      go_ret
      exact ⟨_, rfl, got_of hown HN.out, hnx⟩

set_option maxRecDepth 100000 in
/-- A card without applications. -/
theorem last_nil (C : Nat) (w : World) (hC : w.cell? ⟨C, 1, none⟩ = some (.slice none 0 0)) :
    Calls Yba.prog 7 #[.pointer (some ⟨C, 0, none⟩)] w fun e w' => e = .returned (.slice none 0 0) ∧ Below w.heap.size w w' := by
  go_enter Yba.func7, Yba.ntmps7
  go_wp2
  refine wp_loop_rounds 1 ?_
  rw [rounds_succ]
  go_wp2
  go_ret
  exact ⟨rfl, Below.refl _ _⟩

end Go.Proofs.Ybulkaprw
