/-
  LawS2063CFilter: an empty slice that is not nil.
-/
import Derived.Test.YbulkaprwFilterWalk
namespace Go.Proofs.Ybulkaprw
open Go.RowKit

set_option maxRecDepth 100000 in
set_option maxHeartbeats 1000000 in
theorem filter_zero (a : Addr) (cap : Nat) (w : World) : Calls Yba.prog 4 #[.slice (some a) 0 cap] w fun e w' => e = .returned (.bool true) ∧ Below w.heap.size w w' := by
  obtain ⟨i1, hi1, hp0, hp1, hp2⟩ := info_parts info37
  go_enter Yba.func4, Yba.ntmps4
  go_wp2_with (first
    | (at_make; refine wpList_make_own _ rfl _ _ 36 rfl w.heap.size 37 i1 (.pointer none) 1 Yba.underlying36 hi1 hp0 hp1 _ _ _ 0 rfl rfl rfl (by omega) (by unfold maxLen; omega) (Nat.le_refl _) ?_; intro w0 hown0 hg0)
    | go_in)
  refine wp_loop_rounds 1 ?_
  rw [rounds_succ]
  go_wp2_with fail
  refine (last_any w0.heap.size w.heap.size 0 0 (fun _ => 0) (fun _ => ⟨#[]⟩) (fun _ => false) _ (by omega) (by go_simp) (fun j hj => by omega)).mono ?_
  rintro e w2 ⟨got, rfl, hgot, hb2⟩
  have hs0 := hg0.size
  have hB : Below w.heap.size w w2 := (((Below.refl _ _).grown hg0 (Nat.le_refl _) (fun j hj => by cases hj)).alloc hs0 _).trans (hb2.mono (by simp; omega))
  rcases hgot with ⟨hm, rfl⟩ | ⟨g1, c1, rfl, hg1, hg2, hm, hcell⟩
  · go_wp2
    refine wp_loop_rounds 1 ?_
    rw [rounds_succ]
    go_wp2
    refine wp_loop_rounds 1 ?_
    rw [rounds_succ]
    go_wp2
    go_ret
    exact ⟨rfl, hB⟩
  · exact absurd hm (by simp [flt])

end Go.Proofs.Ybulkaprw
