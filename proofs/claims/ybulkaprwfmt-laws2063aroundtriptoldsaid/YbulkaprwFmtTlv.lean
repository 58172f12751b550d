/-
  lv and tlv, at no byte and at one byte: THE WALKS.
-/
import Derived.Test.YbulkaprwFmtRows
import Derived.WalkKit
import Derived.WalkSpells
import Derived.WalkLawsBesides
import Derived.Deep.AppendLies
namespace Go.Proofs.YbulkaprwFmt
open Go.RowKit

theorem info5 : (Ybaf.prog.info? 5).map (fun i => (i.zero, i.size, i.bytes)) = some (some (.int .u8 0), 1, 1) := by kernel_rfl

/-- A slice literal of one byte, in a block of its own. -/
theorem lit_one (w : World) (x : Int) (base : Nat) (hb : base ≤ w.heap.size) : (w.alloc (.cells #[.int .u8 x] 5)).ownsRow base 5 1 (.slice (some ⟨w.heap.size, 0, none⟩) 1 1) 1 [.int .u8 x] :=
  ⟨by simp, .inr ⟨w.heap.size, 1, #[.int .u8 x], rfl, hb, heap_alloc_new w _, by omega, by unfold maxLen; omega, by simp, by simp⟩⟩

theorem news_row {w : World} {base : Nat} {e : TypeId} {g n cap : Nat} {xs : List Value} (h : w.ownsRow base e 1 (.slice (some ⟨g, 0, none⟩) n cap) n xs) : ∀ j u, xs[j]? = some u → w.cell? ((⟨g, 0, none⟩ : Addr).add j) = some u := fun j u hu => by
  have hadd : (⟨g, 0, none⟩ : Addr).add j = ⟨g, j, none⟩ := by unfold Addr.add; split <;> simp_all
  rw [hadd]
  rcases h.2 with ⟨h1, _⟩ | ⟨g', cap', cur, h1, _, hg, _, _, _, ht⟩
  · cases h1
  · cases h1
    rw [cell_of_row w g j cur e (0, 0) hg]
    rw [← ht] at hu
    have hj : j < n * 1 := by
      have := (List.getElem?_eq_some_iff.1 hu).1
      simp at this; omega
    rw [List.getElem?_take, if_pos hj] at hu
    simpa using hu

theorem news_one {w : World} {b : Nat} {u0 : Value} (hc : w.cell? ⟨b, 0, none⟩ = some u0) (o : Obj) : ∀ j u, [u0][j]? = some u → (w.alloc o).cell? ((⟨b, 0, none⟩ : Addr).add j) = some u := fun j u hu => by
  cases j with
  | zero =>
    simp at hu; subst hu
    have hlt := World.block_lt_of_cell? w _ hc
    have hb := ((Below.refl w.heap.size w).alloc (Nat.le_refl _) o).cell (p := ⟨b, 0, none⟩) hlt
    simpa [Addr.add] using hb.trans hc
  | succ j => simp at hu

theorem grownOf {w w' : World} (h : Below w.heap.size w w') : w.grownBy w' none := ⟨h.os, h.tape, h.output, h.size, fun k hk _ => h.block k hk⟩

set_option maxRecDepth 100000 in
set_option maxHeartbeats 400000 in
theorem lv_one (b cp : Nat) (x : Int) (w : World) (hc : w.cell? ⟨b, 0, none⟩ = some (.int .u8 x)) : Calls Ybaf.prog 9 #[.slice (some ⟨b, 0, none⟩) 1 cp] w fun e w' => ∃ g cap, e = .returned (.slice (some ⟨g, 0, none⟩) 2 cap) ∧ w'.ownsRow w.heap.size 5 1 (.slice (some ⟨g, 0, none⟩) 2 cap) 2 [.int .u8 1, .int .u8 x] ∧ Below w.heap.size w w' := by
  obtain ⟨i0, hi, hz0, hz1, hz2⟩ := info_parts info5
  go_enter Ybaf.func9, Ybaf.ntmps9
  go_wp2_with (first
    | (at_builtin; refine wpList_append_lies _ rfl _ _ 25 rfl w.heap.size 5 i0 (.int .u8 0) 1 1 Ybaf.underlying25 hi hz0 hz1 hz2 rfl (by omega) _ 1 [.int .u8 1] rfl (lit_one w 1 _ (Nat.le_refl _)) ⟨b, 0, none⟩ 1 cp [.int .u8 x] rfl rfl (news_one hc _) (by simp [Value.oneCell']) (by omega) (by unfold maxLen; omega) (by omega) (by simp) (w.heap.size + 1) (by simp) ?_; intro g cap w1 hown hgrow hat hlt)
    | go_in)
  go_ret
  exact ⟨g, cap, rfl, hown, ((Below.refl _ _).alloc (Nat.le_refl _) _).grown hgrow (by simp) (fun j hj => by have := Option.some.inj hj; simp at this; omega)⟩

set_option maxRecDepth 100000 in
set_option maxHeartbeats 400000 in
theorem tlv_one (tag : Int) (b cp : Nat) (x : Int) (w : World) (hc : w.cell? ⟨b, 0, none⟩ = some (.int .u8 x)) : Calls Ybaf.prog 8 #[.int .u8 tag, .slice (some ⟨b, 0, none⟩) 1 cp] w fun e w' => ∃ g cap, e = .returned (.slice (some ⟨g, 0, none⟩) 3 cap) ∧ w'.ownsRow w.heap.size 5 1 (.slice (some ⟨g, 0, none⟩) 3 cap) 3 [.int .u8 tag, .int .u8 1, .int .u8 x] ∧ Below w.heap.size w w' := by
  obtain ⟨i0, hi, hz0, hz1, hz2⟩ := info_parts info5
  have hc' : (w.alloc (.cells #[.int .u8 tag] 5)).cell? ⟨b, 0, none⟩ = some (.int .u8 x) := (((Below.refl w.heap.size w).alloc (Nat.le_refl _) _).cell (p := ⟨b, 0, none⟩) (World.block_lt_of_cell? w _ hc)).trans hc
  go_enter Ybaf.func8, Ybaf.ntmps8
  go_wp2_with fail
  refine (lv_one b cp x _ hc').mono ?_
  rintro e w1 ⟨g1, c1, rfl, hown1, hb1⟩
  have hlit := (lit_one w tag _ (Nat.le_refl _)).kept (grownOf hb1) (Or.inr (by simp [Value.ownBlock]))
  have hs1 := hb1.size
  simp only [World.size_alloc] at hs1
  go_wp2_with (first
    | (at_builtin; refine wpList_append_lies _ rfl _ _ 25 rfl w.heap.size 5 i0 (.int .u8 0) 1 1 Ybaf.underlying25 hi hz0 hz1 hz2 rfl (by omega) _ 1 [.int .u8 tag] rfl hlit ⟨g1, 0, none⟩ 2 c1 [.int .u8 1, .int .u8 x] rfl rfl (news_row hown1) (by simp [Value.oneCell']) (by omega) (by unfold maxLen; omega) (by omega) (by omega) w1.heap.size rfl ?_; intro g cap w2 hown hgrow hat hlt)
    | go_in)
  go_ret
  exact ⟨g, cap, rfl, hown, (((Below.refl _ _).alloc (Nat.le_refl _) _).trans (hb1.mono (by simp))).grown hgrow (by omega) (fun j hj => by have := Option.some.inj hj; simp at this; omega)⟩

set_option maxRecDepth 100000 in
theorem sfi_some (F : Nat) (x : Int) (w : World) (hx : 1 ≤ x ∧ x ≤ 255) (hc : w.cell? ⟨F, 13, none⟩ = some (.int .u8 x)) : Calls Ybaf.prog 5 #[.pointer (some ⟨F, 0, none⟩)] w fun e w' => ∃ g cap, e = .returned (.slice (some ⟨g, 0, none⟩) 3 cap) ∧ w'.ownsRow w.heap.size 5 1 (.slice (some ⟨g, 0, none⟩) 3 cap) 3 [.int .u8 136, .int .u8 1, .int .u8 (x * 8 % 256)] ∧ Below w.heap.size w w' := by
  have hx0 : (x == 0) = false := beq_eq_false_iff_ne.2 (by omega)
  go_enter Ybaf.func5, Ybaf.ntmps5
  go_wp2_with fail
  refine (tlv_one 136 w.heap.size 1 (x * 8 % 256) _ (by go_simp)).mono ?_
  rintro e w1 ⟨g, cap, rfl, hown, hb⟩
  have hown' : w1.ownsRow w.heap.size 5 1 (.slice (some ⟨g, 0, none⟩) 3 cap) 3 [.int .u8 136, .int .u8 1, .int .u8 (x * 8 % 256)] := by
    refine ⟨hown.1, hown.2.imp id ?_⟩
    rintro ⟨g', c', cur, h1, h2, h3⟩
    exact ⟨g', c', cur, h1, by simp at h2; omega, h3⟩
  go_wp2
  go_ret
  exact ⟨g, cap, rfl, hown', ((Below.refl _ _).alloc (Nat.le_refl _) _).trans (hb.mono (by simp))⟩

set_option maxRecDepth 100000 in
/-- A lawful identifier: it is stored; nothing is printed. -/
theorem with_some (F : Nat) (x y : Int) (w : World) (hx : 1 ≤ x ∧ x ≤ 30) (h1 : w.cell? ⟨F, 1, none⟩ = some (.int .u8 66)) (h13 : w.cell? ⟨F, 13, none⟩ = some (.int .u8 y)) (hf : w.frozen? ⟨F, 13, none⟩ = false) :
    Calls Ybaf.prog 4 #[.pointer (some ⟨F, 0, none⟩), .int .u8 x] w fun e w' => e = .returned (.pointer (some ⟨F, 0, none⟩)) ∧ w' = w.setCell ⟨F, 13, none⟩ (.int .u8 x) := by
  have hx0 : (x == 0) = false := beq_eq_false_iff_ne.2 (by omega)
  go_enter Ybaf.func4, Ybaf.ntmps4
  go_wp2
  go_ret
  exact ⟨rfl, rfl⟩

end Go.Proofs.YbulkaprwFmt
