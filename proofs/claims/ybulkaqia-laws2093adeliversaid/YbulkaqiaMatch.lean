/-
  deliver: THE WALKS where there is a request of that Txn.
-/
import Derived.Test.YbulkaqiaEq
namespace Go.Proofs.Ybulkaqia
open Go.RowKit Go.MuLone

set_option maxRecDepth 100000 in
set_option maxHeartbeats 1000000 in
/-- A request, but from another place. -/
theorem deliver_other (E M bm P : Nat) (x pt pf n : Int) (w : World) (hbm : bm < w.heap.size) (hEM : E ≠ M) (hbE : bm ≠ E) (hPE : P ≠ E) (hpt : pt ≠ pf)
    (c1 : w.cell? ⟨E, 318, none⟩ = some (.int .i32 0)) (f1 : w.frozen? ⟨E, 318, none⟩ = false) (c2 : w.cell? ⟨E, 320, none⟩ = some (.map (some bm))) (hT : Txn w M x) (hA : AddrAt w P pt) (hlk : Answers w bm x (.pointer (some ⟨P, 0, none⟩))) :
    Calls Yba.prog 6 #[.pointer (some ⟨E, 0, none⟩), .pointer (some ⟨M, 0, none⟩), addrV pf, .int .i64 n] w fun e w' => e = .returned (.tuple #[]) ∧
      Tch (· = E) w w' ∧ w'.cell? ⟨E, 318, none⟩ = some (.int .i32 0) ∧ w'.frozen? ⟨E, 318, none⟩ = false ∧ w'.cell? ⟨E, 320, none⟩ = some (.map (some bm)) := by
  have hE := World.block_lt_of_cell? w _ c1
  go_enter Yba.func6, Yba.ntmps6
  go_wp2_with fail
  have T0 : Tch (· = E) w (w.alloc (.cells #[.int .u64 0, .int .u64 0, .pointer none, .int .u16 pf] 41)) := (Tch.refl _ w).alloc _
  have B0 : Below w.heap.size w (w.alloc (.cells #[.int .u64 0, .int .u64 0, .pointer none, .int .u16 pf] 41)) := (Below.refl _ w).alloc (Nat.le_refl _) _
  have F0 : AddrAt (w.alloc (.cells #[.int .u64 0, .int .u64 0, .pointer none, .int .u16 pf] 41)) w.heap.size pf := ⟨by go_simp, by go_simp, by go_simp, by go_simp⟩
  refine (lock_free muLib ⟨E, 318, none⟩ _ ((B0.cell (p := ⟨E, 318, none⟩) hE).trans c1) ((B0.frozen (p := ⟨E, 318, none⟩) hE).trans f1)).mono ?_
  rintro e w1 ⟨rfl, hw1⟩
  have d1 : w1.cell? ⟨E, 318, none⟩ = some (.int .i32 1) := by rw [hw1]; exact World.cell?_setCell_same _ _ _ ((B0.cell (p := ⟨E, 318, none⟩) hE).trans c1)
  have g1 : w1.frozen? ⟨E, 318, none⟩ = false := by rw [hw1, World.frozen?_setCell]; exact (B0.frozen (p := ⟨E, 318, none⟩) hE).trans f1
  have d2 : w1.cell? ⟨E, 320, none⟩ = some (.map (some bm)) := by rw [hw1, World.cell?_setCell_other _ _ _ _ (by simp)]; exact (B0.cell (p := ⟨E, 320, none⟩) hE).trans c2
  have T1 : Tch (· = E) w w1 := by rw [hw1]; exact T0.setCell _ _ rfl
  have hF1 : AddrAt w1 w.heap.size pf := by rw [hw1]; exact F0.tch (S := (· = E)) ((Tch.refl _ _).setCell _ _ rfl) (by intro e; have : E < w.heap.size := hE; omega)
  have hA1 : AddrAt w1 P pt := hA.tch T1 hPE
  obtain ⟨t0, t1, t2, t3, t4, t5, t6, t7⟩ := hT.tch T1 (fun e => hEM e.symm)
  have hl := fun (k : Nat) => hlk (w1.drewN k) (T1.block bm hbm hbE)
  have hl0 := hlk w1 (T1.block bm hbm hbE)
  have hl1 := hlk w1.drew (T1.block bm hbm hbE)
  clear hw1 T0 B0 F0 hlk
  go_wp2_with fail
  go_quiet (fail)
  go_wp2_with fail
  refine (unlock_held muLib ⟨E, 318, none⟩ _ (by exact d1) (by exact g1)).mono ?_
  rintro e w2 ⟨rfl, hw2⟩
  have e1 : w2.cell? ⟨E, 318, none⟩ = some (.int .i32 0) := by rw [hw2]; exact World.cell?_setCell_same _ _ _ d1
  have k1 : w2.frozen? ⟨E, 318, none⟩ = false := by rw [hw2, World.frozen?_setCell]; exact g1
  have e2 : w2.cell? ⟨E, 320, none⟩ = some (.map (some bm)) := by rw [hw2, World.cell?_setCell_other _ _ _ _ (by simp)]; exact d2
  have T12 : Tch (· = E) w1 w2 := by rw [hw2]; exact ((Tch.refl _ w1).drewN _).setCell _ _ rfl
  have T2 : Tch (· = E) w w2 := T1.trans T12
  obtain ⟨f0, f1, f2, f3⟩ := hF1.tch T12 (by intro e; have : E < w.heap.size := hE; omega)
  obtain ⟨p0, p1, p2, p3⟩ := hA1.tch T12 hPE
  clear hw2 d1 g1 d2 T1 t0 t1 t2 t3 t4 t5 t6 t7 hl hl0 hl1 hF1 hA1
  have hne : (pt == pf) = false := by simpa using hpt
  have hne' : (pt != pf) = true := by simpa using hpt
  go_wp2_with fail
  go_quiet (fail)
  go_wp2
  first | go_end0 | refine bodyPost_ret (results_none rfl _ _ _) rfl ?_
  exact ⟨rfl, T2.drewN _, e1, k1, e2⟩

end Go.Proofs.Ybulkaqia
