/-
  deliver: THE WALKS, as far as the test that parts.
-/
import Derived.Test.YbulkaqiaSync
import Derived.Test.YbulkaqiaComm
import Derived.BigQuiet
import Derived.Deep.QuietTactic
import Derived.Laws.EntriesVeiled
import Derived.Deep.CutRange
namespace Go.Proofs.Ybulkaqia
open Go.RowKit Go.MuLone

abbrev addrV (p : Int) : Value := .agg #[.int .u64 0, .int .u64 0, .pointer none, .int .u16 p]
abbrev keyV (x : Int) : Value := .agg #[.int .u8 x, .int .u8 0, .int .u8 0, .int .u8 0, .int .u8 0, .int .u8 0, .int .u8 0, .int .u8 0]

/-- Of what was there only the blocks in S may have turned. -/
structure Tch (S : Nat → Prop) (w w' : World) : Prop where
  os : w'.os = w.os
  tape : w'.tape = w.tape
  output : w'.output = w.output
  size : w.heap.size ≤ w'.heap.size
  block : ∀ k, k < w.heap.size → ¬ S k → w'.heap[k]? = w.heap[k]?

section
variable {S : Nat → Prop} {w w' w'' : World}
theorem Tch.refl (S : Nat → Prop) (w : World) : Tch S w w := ⟨rfl, rfl, rfl, Nat.le_refl _, fun _ _ _ => rfl⟩
theorem Tch.trans (h : Tch S w w') (h' : Tch S w' w'') : Tch S w w'' :=
  ⟨h'.os.trans h.os, h'.tape.trans h.tape, h'.output.trans h.output, Nat.le_trans h.size h'.size, fun k hk hs => (h'.block k (Nat.lt_of_lt_of_le hk h.size) hs).trans (h.block k hk hs)⟩
theorem Tch.mono {S' : Nat → Prop} (h : Tch S w w') (hS : ∀ k, S k → S' k) : Tch S' w w' := ⟨h.os, h.tape, h.output, h.size, fun k hk hs => h.block k hk (fun x => hs (hS k x))⟩
theorem Tch.cell (h : Tch S w w') {a : Addr} {v : Value} (hc : w.cell? a = some v) (hs : ¬ S a.block) : w'.cell? a = some v :=
  (World.cell?_of_block (w := w) (h.block a.block (World.block_lt_of_cell? w a hc) hs)).trans hc
theorem Tch.frozen (h : Tch S w w') {a : Addr} (hb : a.block < w.heap.size) (hs : ¬ S a.block) : w'.frozen? a = w.frozen? a := World.frozen?_of_block (w := w) (h.block a.block hb hs)
theorem Tch.alloc (h : Tch S w w') (o : Obj) : Tch S w (w'.alloc o) := h.trans ⟨rfl, rfl, rfl, by simp, fun k hk _ => Below.heap_alloc _ _ _ hk⟩
theorem Tch.setCell (h : Tch S w w') (a : Addr) (v : Value) (hs : S a.block) : Tch S w (w'.setCell a v) :=
  h.trans ⟨rfl, rfl, rfl, by simp [World.setCell], fun k _ hk => Below.heap_setCell _ _ _ _ (fun e => hk (e ▸ hs))⟩
theorem Tch.drewN (h : Tch S w w') (n : Nat) : Tch S w (w'.drewN n) := h.trans ⟨rfl, rfl, rfl, Nat.le_refl _, fun _ _ _ => rfl⟩
theorem Tch.drew (h : Tch S w w') : Tch S w w'.drew := h.trans ⟨rfl, rfl, rfl, Nat.le_refl _, fun _ _ _ => rfl⟩
theorem Tch.setChan (h : Tch S w w') (c cap : Nat) (buf : Array Value) (cl : Bool) (s r : Nat) (tm : Bool) (hs : S c) : Tch S w (w'.setChan c cap buf cl s r tm) :=
  h.trans ⟨rfl, rfl, rfl, by simp [World.setChan], fun k _ hk => by simp only [World.setChan]; rw [Array.getElem?_setIfInBounds_ne (by intro e; subst e; exact hk hs)]⟩
theorem Tch.below {B : Nat} {w0 : World} (h : Tch S w w') (hb : Below B w0 w) (hB : B ≤ w.heap.size) (hS : ∀ k, S k → B ≤ k) : Below B w0 w' :=
  hb.trans ⟨h.os, h.tape, h.output, h.size, fun k hk => h.block k (by omega) (fun x => by have := hS k x; omega)⟩
end

/-- The message's Txn. -/
def Txn (w : World) (M : Nat) (x : Int) : Prop :=
  w.cell? ⟨M, 1, none⟩ = some (.int .u8 x) ∧ w.cell? ⟨M, 1 + 1, none⟩ = some (.int .u8 0) ∧ w.cell? ⟨M, 1 + 2, none⟩ = some (.int .u8 0) ∧ w.cell? ⟨M, 1 + 3, none⟩ = some (.int .u8 0) ∧
  w.cell? ⟨M, 1 + 4, none⟩ = some (.int .u8 0) ∧ w.cell? ⟨M, 1 + 5, none⟩ = some (.int .u8 0) ∧ w.cell? ⟨M, 1 + 6, none⟩ = some (.int .u8 0) ∧ w.cell? ⟨M, 1 + 7, none⟩ = some (.int .u8 0)

theorem Txn.tch {S : Nat → Prop} {w w' : World} {M : Nat} {x : Int} (h : Txn w M x) (ht : Tch S w w') (hs : ¬ S M) : Txn w' M x := by
  obtain ⟨h0, h1, h2, h3, h4, h5, h6, h7⟩ := h
  exact ⟨ht.cell h0 hs, ht.cell h1 hs, ht.cell h2 hs, ht.cell h3 hs, ht.cell h4 hs, ht.cell h5 hs, ht.cell h6 hs, ht.cell h7 hs⟩

/-- An address in four cells. -/
def AddrAt (w : World) (b : Nat) (p : Int) : Prop :=
  w.cell? ⟨b, 0, none⟩ = some (.int .u64 0) ∧ w.cell? ⟨b, 1, none⟩ = some (.int .u64 0) ∧ w.cell? ⟨b, 2, none⟩ = some (.pointer none) ∧ w.cell? ⟨b, 3, none⟩ = some (.int .u16 p)

theorem AddrAt.tch {S : Nat → Prop} {w w' : World} {b : Nat} {p : Int} (h : AddrAt w b p) (ht : Tch S w w') (hs : ¬ S b) : AddrAt w' b p :=
  ⟨ht.cell h.1 hs, ht.cell h.2.1 hs, ht.cell h.2.2.1 hs, ht.cell h.2.2.2 hs⟩

/-- What the map answers, in whatever world where its block is as it was. -/
def Answers (w : World) (bm : Nat) (x : Int) (v : Value) : Prop := ∀ wx : World, wx.heap[bm]? = w.heap[bm]? → (Instr.lookup 65 (.map (some bm)) (keyV x) false).run Yba.prog wx = .ok v wx

set_option maxRecDepth 100000 in
set_option maxHeartbeats 1000000 in
/-- No request of that Txn. -/
theorem deliver_none (E M bm : Nat) (x pf n : Int) (w : World) (hbm : bm < w.heap.size) (hEM : E ≠ M) (hbE : bm ≠ E)
    (c1 : w.cell? ⟨E, 318, none⟩ = some (.int .i32 0)) (f1 : w.frozen? ⟨E, 318, none⟩ = false) (c2 : w.cell? ⟨E, 320, none⟩ = some (.map (some bm))) (hT : Txn w M x) (hlk : Answers w bm x (.pointer none)) :
    Calls Yba.prog 6 #[.pointer (some ⟨E, 0, none⟩), .pointer (some ⟨M, 0, none⟩), addrV pf, .int .i64 n] w fun e w' => e = .returned (.tuple #[]) ∧
      Tch (· = E) w w' ∧ w'.cell? ⟨E, 318, none⟩ = some (.int .i32 0) ∧ w'.frozen? ⟨E, 318, none⟩ = false ∧ w'.cell? ⟨E, 320, none⟩ = some (.map (some bm)) := by
  have hE := World.block_lt_of_cell? w _ c1
  go_enter Yba.func6, Yba.ntmps6
  go_wp2_with fail
  have T0 : Tch (· = E) w (w.alloc (.cells #[.int .u64 0, .int .u64 0, .pointer none, .int .u16 pf] 41)) := (Tch.refl _ w).alloc _
  have B0 : Below w.heap.size w (w.alloc (.cells #[.int .u64 0, .int .u64 0, .pointer none, .int .u16 pf] 41)) := (Below.refl _ w).alloc (Nat.le_refl _) _
  refine (lock_free muLib ⟨E, 318, none⟩ _ ((B0.cell (p := ⟨E, 318, none⟩) hE).trans c1) ((B0.frozen (p := ⟨E, 318, none⟩) hE).trans f1)).mono ?_
  rintro e w1 ⟨rfl, hw1⟩
  have d1 : w1.cell? ⟨E, 318, none⟩ = some (.int .i32 1) := by rw [hw1]; exact World.cell?_setCell_same _ _ _ ((B0.cell (p := ⟨E, 318, none⟩) hE).trans c1)
  have g1 : w1.frozen? ⟨E, 318, none⟩ = false := by rw [hw1, World.frozen?_setCell]; exact (B0.frozen (p := ⟨E, 318, none⟩) hE).trans f1
  have d2 : w1.cell? ⟨E, 320, none⟩ = some (.map (some bm)) := by rw [hw1, World.cell?_setCell_other _ _ _ _ (by simp)]; exact (B0.cell (p := ⟨E, 320, none⟩) hE).trans c2
  have T1 : Tch (· = E) w w1 := by rw [hw1]; exact T0.setCell _ _ rfl
  obtain ⟨t0, t1, t2, t3, t4, t5, t6, t7⟩ := hT.tch T1 (fun e => hEM e.symm)
  have hl := fun (k : Nat) => hlk (w1.drewN k) (T1.block bm hbm hbE)
  have hl0 := hlk w1 (T1.block bm hbm hbE)
  have hl1 := hlk w1.drew (T1.block bm hbm hbE)
  clear hw1 T0 B0 hlk
  go_wp2_with fail
  go_quiet (fail)
  go_wp2_with fail
  refine (unlock_held muLib ⟨E, 318, none⟩ _ (by exact d1) (by exact g1)).mono ?_
  rintro e w2 ⟨rfl, hw2⟩
  have e1 : w2.cell? ⟨E, 318, none⟩ = some (.int .i32 0) := by rw [hw2]; exact World.cell?_setCell_same _ _ _ d1
  have k1 : w2.frozen? ⟨E, 318, none⟩ = false := by rw [hw2, World.frozen?_setCell]; exact g1
  have e2 : w2.cell? ⟨E, 320, none⟩ = some (.map (some bm)) := by rw [hw2, World.cell?_setCell_other _ _ _ _ (by simp)]; exact d2
  have T2 : Tch (· = E) w w2 := by rw [hw2]; exact (T1.drewN _).setCell _ _ rfl
  clear hw2 d1 g1 d2 T1 t0 t1 t2 t3 t4 t5 t6 t7 hl hl0 hl1
  go_wp2_with fail
  go_quiet (fail)
  go_wp2
  first | go_end0 | refine bodyPost_ret (results_none rfl _ _ _) rfl ?_
  exact ⟨rfl, T2.drewN _, e1, k1, e2⟩

end Go.Proofs.Ybulkaqia
