/-
  The plain case table, and LawS2063BTable: THE WALKS.
-/
import Derived.Test.YbulkaprwDoorWalk
namespace Go.Proofs.YbulkaprwDoor
open Go.RowKit

set_option maxRecDepth 100000 in
set_option maxHeartbeats 1000000 in
theorem model_any (sw : Int) (w : World) (hs : 0 ≤ sw ∧ sw ≤ 65535) : Calls Ybad.prog 6 #[.int .u16 sw] w fun e w' => e = .returned (.int .u16 (st sw)) ∧ w' = w := by
  have h9 := or_9f (sw % 256) (by omega) (by omega)
  have h6 := or_67 (sw % 256) (by omega) (by omega)
  have ha := and_255 sw hs.1 hs.2
  by_cases h1 : sw / 256 = 97
  · have HS : Hid (st sw = 40704 + sw % 256) := by show st sw = _; unfold st; rw [if_pos h1]
    have hx : (sw / 256 == 97) = true := beq_iff_eq.2 h1
    clear h1
    go_enter Ybad.func6, Ybad.ntmps6
    go_wp2
    go_ret
    exact ⟨by rw [HS.out]; rfl, rfl⟩
  · have hx : (sw / 256 == 97) = false := beq_eq_false_iff_ne.2 h1
    by_cases h2 : sw / 256 = 108
    · have HS : Hid (st sw = 26368 + sw % 256) := by show st sw = _; unfold st; rw [if_neg h1, if_pos h2]
      have hy : (sw / 256 == 108) = true := beq_iff_eq.2 h2
      clear h1 h2
      go_enter Ybad.func6, Ybad.ntmps6
      go_wp2
      go_ret
      exact ⟨by rw [HS.out]; rfl, rfl⟩
    · have hy : (sw / 256 == 108) = false := beq_eq_false_iff_ne.2 h2
      have HS : Hid (st sw = tab sw) := by show st sw = _; unfold st; rw [if_neg h1, if_neg h2]
      clear h1 h2 h9 h6 ha
      cases ht : isTab sw
      · have HT : Hid (tab sw = sw) := isTab_false ht
        unfold isTab at ht
        simp only [Bool.or_eq_false_iff] at ht
        obtain ⟨⟨⟨⟨⟨⟨t1, t2⟩, t3⟩, t4⟩, t5⟩, t6⟩, t7⟩ := ht
        go_enter Ybad.func6, Ybad.ntmps6
        go_wp2
        go_ret
        exact ⟨by rw [HS.out, HT.out]; rfl, rfl⟩
      · clear hx hy
        unfold isTab at ht
        simp only [Bool.or_eq_true, beq_iff_eq] at ht
        rcases ht with (((((h | h) | h) | h) | h) | h) | h
        all_goals
          subst h
          clear HS hs
          go_enter Ybad.func6, Ybad.ntmps6
          go_wp2
          go_ret
          exact ⟨rfl, rfl⟩

set_option maxRecDepth 100000 in
theorem table_any (bm : Nat) (sw : Int) (w : World) (hs : 0 ≤ sw ∧ sw ≤ 65535) (hc : w.cell? ⟨0, 0, none⟩ = some (.map (some bm))) (hl : Looks w bm sw) :
    Calls Ybad.prog 3 #[.int .u16 sw] w fun e w' => e = .returned (.bool true) ∧ w' = w := by
  go_enter Ybad.func3, Ybad.ntmps3
  go_wp2_with (first
    | (go_at_call 5; refine (st_any bm sw _ hs hc hl).mono ?_; rintro e w' ⟨rfl, rfl⟩)
    | (go_at_call 6; refine (model_any sw _ hs).mono ?_; rintro e w' ⟨rfl, rfl⟩))
  go_ret
  exact ⟨rfl, rfl⟩

end Go.Proofs.YbulkaprwDoor
