/-
  COMMUNICATION IN ONE GOROUTINE, FOR THE WALK 'Code.wp': a send into a buffer with room, a receive from a buffer that holds something, a select of one send with a default; each inside a region that does not draw. (Derived/Conc/LoneCalls.lean's and LoneSelect.lean's steps of the machine, carried to the walk.)
-/
import Derived.Conc.LoneSelect
import Derived.WalkKit
namespace Go.Proofs.Ybulkaqia
open Go.Conc Go.RowKit

section
variable {P : Program} {b : Frame} {a : Act} {k : List Item} {cs : List Frame} {w : World} {ops : Array Oper} {Q : Exit → Act → World → Prop}

/-- What is left of a region (these of its operations, in this order), walked to its end. -/
def Reg (P : Program) (ops : Array Oper) (l : List Nat) (Q : Exit → Act → World → Prop) (a : Act) (w : World) : Prop :=
  ∀ (b : Frame) (k : List Item) (cs : List Frame), ∃ e a' w', Q e a' w' ∧ Arrives P (lone (b.at a (.inRegion ops l :: k)) cs w) b k cs e a' w'

theorem wp_of_reg {id : Nat} (h : Reg P ops (List.range ops.size) Q a w) : (Code.region id ops false).wp P Q a w :=
  fun b k cs => let ⟨e, a', w', q, r⟩ := h b k cs; ⟨e, a', w', q, .of_steps (.one step_region) r⟩

/-- Operations that do not communicate, to the region's end: as ever. -/
theorem Reg.list (l : List Oper) (n : Nat) (hl : ∀ j, l[j]? = ops[n + j]?) (h : wpList P ops Q l a w) : Reg P ops (List.range' n l.length) Q a w :=
  wp_ops _ a w (by rw [wpOps_eq_wpList l n hl]; exact h)

/-- A step of the machine of one, then the rest. -/
theorem Reg.step {i : Nat} {rest : List Nat} {a' : Act} {w' : World}
    (hs : ∀ (b : Frame) (k : List Item) (cs : List Frame), step P (lone (b.at a (.inRegion ops (i :: rest) :: k)) cs w) = .next (lone (b.at a' (.inRegion ops rest :: k)) cs w'))
    (h : Reg P ops rest Q a' w') : Reg P ops (i :: rest) Q a w :=
  fun b k cs => let ⟨e, a₂, w₂, q, r⟩ := h b k cs; ⟨e, a₂, w₂, q, .of_steps (.one (hs b k cs)) r⟩

theorem wanted_plain {o : Oper} (hg : o.guard = none) : Region.wanted o (yielded ops a.tmps) = true := by simp [Region.wanted, hg]

/-- An operation that yields a value. -/
theorem Reg.value {i : Nat} {rest : List Nat} {o : Oper} (ho : ops[i]? = some o) (hg : o.guard = none)
    (h : ∃ v w', (execOp a.eval o).run P w = .ok (.value v) w' ∧ Reg P ops rest Q (a.put o.dst v) w') : Reg P ops (i :: rest) Q a w := by
  obtain ⟨v, w', hr, h⟩ := h
  refine Reg.step (fun b k cs => ?_) h
  have hfin : (b.at a (.inRegion ops (i :: rest) :: k)).finish v = b.at (a.put o.dst v) (.inRegion ops rest :: k) := by
    rw [Frame.finish_at, ho]; rfl
  refine step_lone_go ?_
  rw [stepG_op ho (wanted_plain hg), ← hfin]
  simp [stepG.apply, hr]

/-- The machine of one comes to a communication, whatever the frame's kind. -/
theorem comm_at {i : Nat} {rest : List Nat} {o : Oper} {cases : Array CommCase} {blocking : Bool} {shape : CommShape} {w' : World} (ho : ops[i]? = some o) (hg : o.guard = none)
    (hr : (execOp a.eval o).run P w = .ok (.comm cases blocking shape) w') (b : Frame) (k : List Item) (cs : List Frame) :
    ∃ es, stepG P true (G (b.at a (.inRegion ops (i :: rest) :: k)) cs) w = .comm (G (b.at a (.inRegion ops (i :: rest) :: k)) cs) cases blocking shape w' es := by
  have h := stepG_op (P := P) (b := b) (k := k) (cs := cs) (w := w) (rest := rest) ho (wanted_plain (ops := ops) (a := a) hg)
  have h' : stepG P true (G (b.at a (.inRegion ops (i :: rest) :: k)) cs) w = stepG.apply P true (b.at a (.inRegion ops (i :: rest) :: k)) cs none (execOp a.eval o) w := h
  rw [h']
  simp [stepG.apply, hr, G, Frame.at, GStep.after]

/-- A send into a buffer with room. -/
theorem Reg.send {i : Nat} {rest : List Nat} {o : Oper} (ho : ops[i]? = some o) (hg : o.guard = none) {c cap s r : Nat} {buf : Array Value} {v z : Value} {tm : Bool} (hr : (execOp a.eval o).run P w = .ok (.comm #[scase c v z] true .send) w)
    (hc : w.heap[c]? = some (.chan cap buf false s r tm)) (hroom : buf.size < cap) (h : Reg P ops rest Q (a.put o.dst undef) (w.setChan c cap (buf.push v) false (s + 1) r tm)) : Reg P ops (i :: rest) Q a w := by
  refine Reg.step (fun b k cs => ?_) h
  obtain ⟨es, hcomm⟩ := comm_at (rest := rest) ho hg hr b k cs
  have := step_lone_send_room hcomm hc hroom
  rw [lone_eq_solo, this, Frame.finish_at, ho, lone_eq_solo]; rfl

/-- A receive from a buffer that holds something. -/
theorem Reg.recv {i : Nat} {rest : List Nat} {o : Oper} (ho : ops[i]? = some o) (hg : o.guard = none) {c cap s r : Nat} {buf : Array Value} {z : Value} {tm closed : Bool} (hr : (execOp a.eval o).run P w = .ok (.comm #[rcase c z] true (.recv false)) w)
    (hc : w.heap[c]? = some (.chan cap buf closed s r tm)) (hsome : 0 < buf.size) (h : Reg P ops rest Q (a.put o.dst (buf.getD 0 undef)) (w.setChan c cap (buf.extract 1 buf.size) closed s (r + 1) tm)) : Reg P ops (i :: rest) Q a w := by
  refine Reg.step (fun b k cs => ?_) h
  obtain ⟨es, hcomm⟩ := comm_at (rest := rest) ho hg hr b k cs
  have := step_lone_recv_buf false hcomm hc hsome
  rw [lone_eq_solo, this, Frame.finish_at, ho, lone_eq_solo]; rfl

/-- A select of one send with a default: there is room. -/
theorem Reg.selectRoom {i : Nat} {rest : List Nat} {o : Oper} (ho : ops[i]? = some o) (hg : o.guard = none) {c cap s r : Nat} {buf : Array Value} {v z : Value} {tm : Bool} (hr : (execOp a.eval o).run P w = .ok (.comm #[scase c v z] false .select) w)
    (hc : w.heap[c]? = some (.chan cap buf false s r tm)) (hroom : buf.size < cap) (h : Reg P ops rest Q (a.put o.dst (.tuple #[goInt 0, .bool false])) (w.setChan c cap (buf.push v) false (s + 1) r tm)) : Reg P ops (i :: rest) Q a w := by
  refine Reg.step (fun b k cs => ?_) h
  obtain ⟨es, hcomm⟩ := comm_at (rest := rest) ho hg hr b k cs
  have := step_lone_select_send_room hcomm hc hroom
  rw [lone_eq_solo, this, Frame.finish_at, ho, lone_eq_solo]; rfl

/-- .. there is none: the default. -/
theorem Reg.selectFull {i : Nat} {rest : List Nat} {o : Oper} (ho : ops[i]? = some o) (hg : o.guard = none) {c cap s r : Nat} {buf : Array Value} {v z : Value} {tm : Bool} (hr : (execOp a.eval o).run P w = .ok (.comm #[scase c v z] false .select) w)
    (hc : w.heap[c]? = some (.chan cap buf false s r tm)) (hfull : cap ≤ buf.size) (h : Reg P ops rest Q (a.put o.dst (.tuple #[goInt (-1), .bool false])) w) : Reg P ops (i :: rest) Q a w := by
  refine Reg.step (fun b k cs => ?_) h
  obtain ⟨es, hcomm⟩ := comm_at (rest := rest) ho hg hr b k cs
  have := step_lone_select_send_full hcomm hc hfull
  rw [lone_eq_solo, this, Frame.finish_at, ho, lone_eq_solo]; rfl
end

end Go.Proofs.Ybulkaqia
