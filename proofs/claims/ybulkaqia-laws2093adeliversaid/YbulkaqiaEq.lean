/-
  The equalities of the two compared kinds: an address with its port, a transaction number.
-/
import Derived.Test.YbulkaqiaDeliver
import Derived.Laws.StructEq
import Derived.ChangeKeysEq
namespace Go.Proofs.Ybulkaqia
open Go.RowKit
@[go_sem] theorem run_equalIn_nil (d : Nat) (w : World) : (Op.equalIn (d + 1) 35 (.pointer none) (.pointer none)).run Yba.prog w = .ok true w := by
  simp [Op.equalIn, run_underlying Yba.underlying35]
theorem run_neq_addr (p q : Int) (w : World) : (binOp .neq 41 (addrV p) (addrV q)).run Yba.prog w = .ok (.bool (p != q)) w := by
  go_simp
  by_cases h : p = q <;> simp [h]
theorem run_eql_addr (p q : Int) (w : World) : (binOp .eql 41 (addrV p) (addrV q)).run Yba.prog w = .ok (.bool (p == q)) w := by
  go_simp
  by_cases h : p = q <;> simp [h]
theorem run_eql_key (p q : Int) (w : World) : (binOp .eql 26 (keyV p) (keyV q)).run Yba.prog w = .ok (.bool (p == q)) w := by
  obtain ⟨i, hi⟩ : ∃ i, Yba.prog.info? 5 = some i := Option.isSome_iff_exists.mp (by kernel_rfl)
  have hc : Yba.prog.cellsOf 5 = 1 := by kernel_rfl
  rw [run_eql_struct, run_equalIn_array w 9999 _ _ Yba.underlying26 hi, hc]
  by_cases h : p = q <;> simp [h, Op.eqItems, go_sem, List.range, List.range.loop]
theorem run_equalIn_func (d : Nat) (fn : Fn) (first cap : Array Value) (w : World) : (Op.equalIn (d + 1) 1 (.func fn first cap) .nilFunc).run Yba.prog w = .ok false w := by
  simp [Op.equalIn, run_underlying Yba.underlying1]
theorem run_equalIn_nilFunc (d : Nat) (w : World) : (Op.equalIn (d + 1) 1 .nilFunc .nilFunc).run Yba.prog w = .ok true w := by
  simp [Op.equalIn, run_underlying Yba.underlying1]
@[go_sem] theorem run_neq_func (fn : Fn) (first cap : Array Value) (w : World) : (binOp .neq 1 (.func fn first cap) .nilFunc).run Yba.prog w = .ok (.bool true) w := by
  simp only [binOp]
  simp [Op.equal, Op.maxDepth, run_equalIn_func]
@[go_sem] theorem run_neq_nilFunc (w : World) : (binOp .neq 1 .nilFunc .nilFunc).run Yba.prog w = .ok (.bool false) w := by
  simp only [binOp]
  simp [Op.equal, Op.maxDepth, run_equalIn_nilFunc]
end Go.Proofs.Ybulkaqia
