/-
  An array of six int64s by value, opened and shut.
-/
import Derived.Test.YbulkapriRows
import Derived.WalkKit
import Derived.ProofKit
import Derived.OpenShut
namespace Go.Proofs.Ybulkapri
open Go.ChangeShapes Go.WideShapes Go.ChangeAt Go.RowKit

theorem own : ownKnob Yba.prog.godebug = none := by kernel_rfl
theorem cells22 : Yba.prog.cellsOf 22 = 6 := by kernel_rfl
theorem cells2 : Yba.prog.cellsOf 2 = 1 := by kernel_rfl

theorem list6 {α : Type} (l : List α) (h : l.length = 6) : ∃ a b c d e f, l = [a, b, c, d, e, f] := by
  match l, h with
  | [a, b, c, d, e, f], _ => exact ⟨a, b, c, d, e, f, rfl⟩

theorem open_six {H : Type} {enc : TypeId × Value → H} {W : World} {r : Reach} {base b0 : Nat} {sp : Nat → Bool} {held : Bool} {v : Value} {d : DataW H} {p : List MemPlace}
    (hv : Value.okWide Yba.prog W r b0 22 v) (h : DataW.Trod enc Yba.prog W base sp held 22 v d p) :
    ∃ x0 x1 x2 x3 x4 x5 : Int, v = .agg #[.int .i64 x0, .int .i64 x1, .int .i64 x2, .int .i64 x3, .int .i64 x4, .int .i64 x5] ∧
      d = .agg [.lit (.int .i64 x0), .lit (.int .i64 x1), .lit (.int .i64 x2), .lit (.int .i64 x3), .lit (.int .i64 x4), .lit (.int .i64 x5)] ∧ p = [] ∧
      (Lit.int .i64 x0).wf = true ∧ (Lit.int .i64 x1).wf = true ∧ (Lit.int .i64 x2).wf = true ∧ (Lit.int .i64 x3).wf = true ∧ (Lit.int .i64 x4).wf = true ∧ (Lit.int .i64 x5).wf = true := by
  obtain ⟨cs, rfl, hsz, _⟩ : ∃ cs, v = .agg cs ∧ cs.size = Yba.prog.cellsOf 22 ∧ Row.okWide Yba.prog W r b0 22 cs := by
    simpa [Value.okWide, Yba.underlying22] using hv
  rw [cells22] at hsz
  obtain ⟨l⟩ := cs
  obtain ⟨c0, c1, c2, c3, c4, c5, rfl⟩ := list6 l hsz
  obtain ⟨fuel, hf⟩ := h
  obtain ⟨xs, m, _, hx, _, hl, hy⟩ := DataW.trod_array Yba.underlying22 hf
  obtain ⟨y0, y1, y2, y3, y4, y5, rfl⟩ := list6 xs hl
  have g0 := hy 0 (by omega)
  have g1 := hy 1 (by omega)
  have g2 := hy 2 (by omega)
  have g3 := hy 3 (by omega)
  have g4 := hy 4 (by omega)
  have g5 := hy 5 (by omega)
  simp [cells2, Value.cells] at g0 g1 g2 g3 g4 g5
  obtain ⟨x0, e0, rfl, w0⟩ := DataW.trod_int Yba.underlying2 g0
  obtain ⟨x1, e1, rfl, w1⟩ := DataW.trod_int Yba.underlying2 g1
  obtain ⟨x2, e2, rfl, w2⟩ := DataW.trod_int Yba.underlying2 g2
  obtain ⟨x3, e3, rfl, w3⟩ := DataW.trod_int Yba.underlying2 g3
  obtain ⟨x4, e4, rfl, w4⟩ := DataW.trod_int Yba.underlying2 g4
  obtain ⟨x5, e5, rfl, w5⟩ := DataW.trod_int Yba.underlying2 g5
  simp at e0 e1 e2 e3 e4 e5
  subst e0 e1 e2 e3 e4 e5
  simp at hx
  exact ⟨x0, x1, x2, x3, x4, x5, rfl, hx.1, hx.2, w0, w1, w2, w3, w4, w5⟩

theorem shut_six {H : Type} {enc : TypeId × Value → H} {W : World} {base : Nat} {sp : Nat → Bool} {held : Bool} {x0 x1 x2 x3 x4 x5 : Int}
    (w0 : (Lit.int .i64 x0).wf = true) (w1 : (Lit.int .i64 x1).wf = true) (w2 : (Lit.int .i64 x2).wf = true) (w3 : (Lit.int .i64 x3).wf = true) (w4 : (Lit.int .i64 x4).wf = true) (w5 : (Lit.int .i64 x5).wf = true) :
    DataW.Trod enc Yba.prog W base sp held 22 (.agg #[.int .i64 x0, .int .i64 x1, .int .i64 x2, .int .i64 x3, .int .i64 x4, .int .i64 x5])
      (.agg [.lit (.int .i64 x0), .lit (.int .i64 x1), .lit (.int .i64 x2), .lit (.int .i64 x3), .lit (.int .i64 x4), .lit (.int .i64 x5)]) [] :=
  ⟨2, by simp [DataW.trod, Value.cells, Yba.underlying22, Yba.underlying2, cells22, cells2, w0, w1, w2, w3, w4, w5, show List.range 6 = [0, 1, 2, 3, 4, 5] from rfl]⟩

end Go.Proofs.Ybulkapri
