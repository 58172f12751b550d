/-
  The map of pending requests, at one entry: what the literal makes, what a look-up answers, its length.
-/
import Derived.Test.YbulkaqiaEq
import Derived.MapKept
import Derived.Laws.Rows
namespace Go.Proofs.Ybulkaqia
open Go.RowKit

theorem run_checkKey5 (e : Bool) (d : Nat) (x : Int) (w : World) : (Instr.checkKey e (d + 1) 5 (.int .u8 x)).run Yba.prog w = .ok () w := by
  simp [Instr.checkKey, run_underlying Yba.underlying5]

theorem run_checkKey26 (e : Bool) (d : Nat) (x : Int) (w : World) : (Instr.checkKey e (d + 1 + 1) 26 (keyV x)).run Yba.prog w = .ok () w := by
  obtain ⟨i, hi⟩ : ∃ i, Yba.prog.info? 5 = some i := Option.isSome_iff_exists.mp (by kernel_rfl)
  have hc : Yba.prog.cellsOf 5 = 1 := by kernel_rfl
  rw [Instr.checkKey]
  simp only [Sem.run_bind, run_underlying Yba.underlying26, Result.andThen_ok]
  simp only [Std.Legacy.Range.forIn_eq_forIn_range', Std.Legacy.Range.size, Nat.sub_zero, Nat.add_one_sub_one, Nat.div_one]
  simp [List.range', run_sizeOf _ hi, hc, go_sem, run_checkKey5]

theorem run_findKey0 (x : Int) (w : World) : (Instr.findKey 26 (keyV x) []).run Yba.prog w = .ok none w := by
  simp [Instr.findKey, run_underlying Yba.underlying26, Instr.findNow]

theorem run_equal_key (p q : Int) (w : World) : (Op.equal 26 (keyV p) (keyV q)).run Yba.prog w = .ok (p == q) w := by
  obtain ⟨i, hi⟩ : ∃ i, Yba.prog.info? 5 = some i := Option.isSome_iff_exists.mp (by kernel_rfl)
  have hc : Yba.prog.cellsOf 5 = 1 := by kernel_rfl
  rw [Op.equal, Op.maxDepth, run_equalIn_array w 9999 _ _ Yba.underlying26 hi, hc]
  by_cases h : p = q <;> simp [h, Op.eqItems, go_sem, List.range, List.range.loop]

theorem run_findKey1 (x y : Int) (v : Value) (c : Nat) (w : World) : (Instr.findKey 26 (keyV x) [⟨keyV y, v, c⟩]).run Yba.prog w = .ok (if x = y then some (0, v) else none) w := by
  by_cases h : x = y <;> simp [Instr.findKey, run_underlying Yba.underlying26, Instr.findNow, Instr.sameNow, Instr.findAsking, run_equal_key, h]

theorem run_insert (k : Int) (v : Value) (w : World) : (Instr.mapUpdate 65 (.map (some w.heap.size)) (keyV k) v).run Yba.prog (w.alloc (.map #[] 0)) = .ok () (w.alloc (.map #[⟨keyV k, v, 0⟩] 1)) := by
  have hb : (w.alloc (.map #[] 0)).heap[w.heap.size]? = some (.map #[] 0) := heap_alloc_new w _
  simp [Instr.mapUpdate, run_underlying Yba.underlying65, MapKept.run_getObj_map hb, MapKept.run_setObj_map _ hb, run_checkKey26, run_findKey0]
  have e : (w.heap.push (.map #[] 0)).setIfInBounds w.heap.size (.map #[⟨keyV k, v, 0⟩] 1) = w.heap.push (.map #[⟨keyV k, v, 0⟩] 1) := by
    apply Array.ext_getElem?
    intro i
    simp only [Array.getElem?_setIfInBounds, Array.getElem?_push, Array.size_push]
    split <;> split <;> first | rfl | omega | (split <;> first | rfl | omega)
  simp only [World.alloc, e]

theorem run_look (x y : Int) (v : Value) (bm c c' : Nat) (w : World) (hb : w.heap[bm]? = some (.map #[⟨keyV y, v, c⟩] c')) : (Instr.lookup 65 (.map (some bm)) (keyV x) false).run Yba.prog w = .ok (if x = y then v else .pointer none) w := by
  by_cases h : x = y <;> simp [Instr.lookup, run_underlying Yba.underlying65, MapKept.run_getObj_map hb, run_checkKey26, run_findKey1, h, go_sem]

theorem run_len65 (e : MapEntry) (bm c' : Nat) (ty : TypeId) (w : World) (hb : w.heap[bm]? = some (.map #[e] c')) : (Builtin.len_ #[65] ty #[.map (some bm)]).run Yba.prog w = .ok (.int .i64 1) w := by
  simp [Builtin.len_, run_underlying Yba.underlying65, MapKept.run_getObj_map hb, goInt]

end Go.Proofs.Ybulkaqia
