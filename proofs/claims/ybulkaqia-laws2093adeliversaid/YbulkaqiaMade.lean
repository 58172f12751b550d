/-
  What the law makes: the two great structs, the channel.
-/
import Derived.Test.YbulkaqiaMap
import Derived.Test.YbulkaqiaHit
import Derived.Conc.SmallLaws
namespace Go.Proofs.Ybulkaqia
open Go.RowKit

theorem built44 : (Yba.prog.built 44 []).isSome = true := by kernel_rfl
theorem built44' (x : Int) : (Yba.prog.built 44 [(1, keyV x)]).map (fun c => (c[1]?, c[2]?, c[3]?, c[4]?, c[5]?, c[6]?, c[7]?, c[8]?)) = some (some (.int .u8 x), some (.int .u8 0), some (.int .u8 0), some (.int .u8 0), some (.int .u8 0), some (.int .u8 0), some (.int .u8 0), some (.int .u8 0)) := by kernel_rfl
theorem built112 (b : Nat) : (Yba.prog.built 112 [(11, .map (some b))]).map (fun c => (c[318]?, c[320]?)) = some (some (.int .i32 0), some (.map (some b))) := by kernel_rfl

theorem cell_made {w : World} {cs : Array Value} {t : TypeId} {off : Nat} {v : Value} (h : cs[off]? = some v) : (w.alloc (.cells cs t)).cell? ⟨w.heap.size, off, none⟩ = some v := by
  show (match (w.alloc (.cells cs t)).heap[w.heap.size]? with | some (.cells c _ _) => c[off]? | _ => none) = _
  rw [heap_alloc_new]; exact h
theorem frozen_made (w : World) (cs : Array Value) (t : TypeId) (off : Nat) : (w.alloc (.cells cs t)).frozen? ⟨w.heap.size, off, none⟩ = false := by
  unfold World.frozen?
  rw [heap_alloc_new]; simp

/-- An empty message. -/
theorem mk44 : ∃ cs : Array Value, ∀ w, (Instr.build 44 #[]).run Yba.prog w = .ok (.agg cs) w := by
  obtain ⟨cs, h⟩ := Option.isSome_iff_exists.mp built44
  exact ⟨cs, fun w => run_build w 44 #[] cs h⟩
/-- A message of that Txn. -/
theorem mk44' (x : Int) : ∃ cs : Array Value, (∀ w, (Instr.build 44 #[(1, keyV x)]).run Yba.prog w = .ok (.agg cs) w) ∧ ∀ w : World, Txn (w.alloc (.cells cs 44)) w.heap.size x := by
  obtain ⟨cs, h, e⟩ := Option.map_eq_some_iff.1 (built44' x)
  simp only [Prod.mk.injEq] at e
  obtain ⟨e1, e2, e3, e4, e5, e6, e7, e8⟩ := e
  refine ⟨cs, fun w => run_build w 44 _ cs h, fun w => ⟨?_, ?_, ?_, ?_, ?_, ?_, ?_, ?_⟩⟩ <;> exact cell_made (by assumption)
/-- An endpoint with that map. -/
theorem mk112 (b : Nat) : ∃ cs : Array Value, (∀ w, (Instr.build 112 #[(11, .map (some b))]).run Yba.prog w = .ok (.agg cs) w) ∧ ∀ w : World, Lk (w.alloc (.cells cs 112)) w.heap.size b := by
  obtain ⟨cs, h, e⟩ := Option.map_eq_some_iff.1 (built112 b)
  simp only [Prod.mk.injEq] at e
  obtain ⟨e1, e2⟩ := e
  refine ⟨cs, fun w => run_build w 112 _ cs h, fun w => ⟨?_, ?_, ?_⟩⟩
  · exact cell_made e1
  · exact frozen_made _ _ _ _
  · exact cell_made e2

theorem box44 (cs : Array Value) (w : World) : (Instr.box 44 (.agg cs)).run Yba.prog w = .ok (.pointer (some ⟨w.heap.size, 0, none⟩)) (w.alloc (.cells cs 44)) := by
  go_simp
theorem box112 (cs : Array Value) (w : World) : (Instr.box 112 (.agg cs)).run Yba.prog w = .ok (.pointer (some ⟨w.heap.size, 0, none⟩)) (w.alloc (.cells cs 112)) := by
  go_simp

theorem bytes24 : ∃ i, Yba.prog.info? 24 = some i ∧ i.bytes = 8 := by
  have h : (Yba.prog.info? 24).map (·.bytes) = some 8 := by kernel_rfl
  obtain ⟨i, hi, hb⟩ := Option.map_eq_some_iff.1 h
  exact ⟨i, hi, hb⟩
theorem mkChan (c : Nat) (hc : c ≤ 2) (w : World) : (Instr.makeChan 23 (.int .i64 c)).run Yba.prog w = .ok (.chan (some w.heap.size)) (w.alloc (.chan c #[] false 0 0 false)) := by
  obtain ⟨i, hi, hb⟩ := bytes24
  exact Go.Conc.run_makeChan (P := Yba.prog) (w := w) Yba.underlying23 hi .i64 c (by omega) (by rw [hb]; omega)

theorem wf8 {n : Int} (h : (Lit.int .u8 n).wf = true) : 0 ≤ n ∧ n ≤ 255 := by
  simp only [Lit.wf, Bool.and_eq_true, decide_eq_true_eq] at h
  exact h
theorem wf16 {n : Int} (h : (Lit.int .u16 n).wf = true) : 0 ≤ n ∧ n ≤ 65535 := by
  simp only [Lit.wf, Bool.and_eq_true, decide_eq_true_eq] at h
  exact h
theorem wf64 {n : Int} (h : (Lit.int .i64 n).wf = true) : -9223372036854775808 ≤ n ∧ n ≤ 9223372036854775807 := by
  simp only [Lit.wf, Bool.and_eq_true, decide_eq_true_eq] at h
  exact h
theorem capN {a : Int} (h : 0 ≤ a) : ∃ c : Nat, a.tmod 3 = (c : Int) ∧ c ≤ 2 :=
  ⟨(a.tmod 3).toNat, by rw [Int.tmod_eq_emod_of_nonneg h]; omega, by rw [Int.tmod_eq_emod_of_nonneg h]; omega⟩
theorem preN {a : Int} (h : 0 ≤ a) (c : Nat) : ∃ p : Nat, a.tmod ((c : Int) + 1) = (p : Int) ∧ p ≤ c := by
  have h0 := Int.emod_nonneg a (b := (c : Int) + 1) (by omega)
  have h1 := Int.emod_lt_of_pos a (b := (c : Int) + 1) (by omega)
  rw [Int.tmod_eq_emod_of_nonneg h]
  generalize a % ((c : Int) + 1) = r at *
  exact ⟨r.toNat, by omega, by omega⟩
theorem mod4 {a : Int} (h : 0 ≤ a) : ∃ c : Nat, a.tmod 4 = (c : Int) ∧ c ≤ 3 :=
  ⟨(a.tmod 4).toNat, by rw [Int.tmod_eq_emod_of_nonneg h]; omega, by rw [Int.tmod_eq_emod_of_nonneg h]; omega⟩

theorem wrapNat (c : Nat) (h : c ≤ 1000) : wrap64 (c : Int) = c := IntWalk.wrap64_in _ (by omega)
theorem wrapNat1 (c : Nat) (h : c ≤ 1000) : wrap64 ((c : Int) + 1) = c + 1 := IntWalk.wrap64_in _ (by omega)
theorem wrap8 {a : Int} (h : 0 ≤ a ∧ a ≤ 255) : wrap64 a = a := IntWalk.wrap64_in _ (by omega)
theorem notZero (c : Nat) : ¬ ((c : Int) + 1 = 0) := by omega

/-- The channel's size and how many lie in it, as the walk writes them. -/
theorem capped {a4 a5 : Int} (h4 : 0 ≤ a4 ∧ a4 ≤ 255) (h5 : 0 ≤ a5 ∧ a5 ≤ 255) : ∃ c p : Nat, c ≤ 2 ∧ p ≤ c ∧ wrap64 (a4.tmod 3) = (c : Int) ∧ a5.tmod ((c : Int) + 1) = (p : Int) ∧ wrap64 a5 = a5 := by
  obtain ⟨c, hc, hc2⟩ := capN h4.1
  obtain ⟨p, hp, hpc⟩ := preN h5.1 c
  have hc3 : c ≤ 1000 := Nat.le_trans hc2 (by decide)
  exact ⟨c, p, hc2, hpc, by rw [hc, wrapNat c hc3], hp, wrap8 h5⟩

end Go.Proofs.Ybulkaqia
