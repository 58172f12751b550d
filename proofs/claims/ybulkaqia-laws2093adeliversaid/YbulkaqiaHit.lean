/-
  deliver: THE WALK where the request is met.
-/
import Derived.Test.YbulkaqiaMatch
import Derived.Deep.CutBlock
namespace Go.Proofs.Ybulkaqia
open Go.RowKit Go.MuLone Go.Conc

abbrev ptr (b : Nat) : Value := .pointer (some ⟨b, 0, none⟩)
abbrev optPtr (c : Bool) (b : Nat) : Value := .pointer (if c then some ⟨b, 0, none⟩ else none)
abbrev wokeV (V : Nat) : Value := .func (.func 4) #[] #[.pointer (some ⟨V, 0, none⟩)]

/-- The endpoint, unlocked. -/
structure Lk (w : World) (E bm : Nat) : Prop where
  mu : w.cell? ⟨E, 318, none⟩ = some (.int .i32 0)
  fz : w.frozen? ⟨E, 318, none⟩ = false
  pend : w.cell? ⟨E, 320, none⟩ = some (.map (some bm))
/-- The pending request. -/
structure Req (w : World) (P C A H : Nat) (pt : Int) (hk al : Bool) : Prop where
  dest : AddrAt w P pt
  reply : w.cell? ⟨P, 4, none⟩ = some (.chan (some C))
  also : w.cell? ⟨P, 5, none⟩ = some (optPtr al A)
  hook : w.cell? ⟨P, 6, none⟩ = some (optPtr hk H)
/-- What a delivery may turn. -/
structure Now (w : World) (C A V H : Nat) (hk wk al : Bool) (cap : Nat) (buf : Array Value) (rep wok c0 c1 : Int) : Prop where
  chan : ∃ s r, w.heap[C]? = some (.chan cap buf false s r false)
  woke : w.cell? ⟨V, 0, none⟩ = some (.int .i64 wok)
  wokez : w.frozen? ⟨V, 0, none⟩ = false
  cnt0 : al = true → w.cell? ⟨A, 0, none⟩ = some (.int .i64 c0)
  cnt1 : al = true → w.cell? ⟨A, 1, none⟩ = some (.int .i64 c1)
  cnt0z : al = true → w.frozen? ⟨A, 0, none⟩ = false
  cnt1z : al = true → w.frozen? ⟨A, 1, none⟩ = false
  rep : hk = true → w.cell? ⟨H, 2, none⟩ = some (.int .u32 rep)
  repz : hk = true → w.frozen? ⟨H, 2, none⟩ = false
  call : hk = true → w.cell? ⟨H, 3, none⟩ = some (if wk then wokeV V else .nilFunc)

theorem heap_lt {w : World} {k : Nat} {o : Obj} (h : w.heap[k]? = some o) : k < w.heap.size := by
  rcases Nat.lt_or_ge k w.heap.size with h' | h'
  · exact h'
  · rw [Array.getElem?_eq_none h'] at h; cases h

section
variable {S : Nat → Prop} {w w' : World} {E bm P C A V H cap : Nat} {pt rep wok c0 c1 : Int} {hk wk al : Bool} {buf : Array Value}
theorem Lk.tch (h : Lk w E bm) (ht : Tch S w w') (hs : ¬ S E) : Lk w' E bm := ⟨ht.cell h.mu hs, (ht.frozen (a := ⟨E, 318, none⟩) (World.block_lt_of_cell? w _ h.mu) hs).trans h.fz, ht.cell h.pend hs⟩
theorem Req.tch (h : Req w P C A H pt hk al) (ht : Tch S w w') (hs : ¬ S P) : Req w' P C A H pt hk al := ⟨h.dest.tch ht hs, ht.cell h.reply hs, ht.cell h.also hs, ht.cell h.hook hs⟩
theorem Now.tch (h : Now w C A V H hk wk al cap buf rep wok c0 c1) (ht : Tch S w w') (hC : ¬ S C) (hV : ¬ S V) (hA : al = true → ¬ S A) (hH : hk = true → ¬ S H) : Now w' C A V H hk wk al cap buf rep wok c0 c1 where
  chan := by obtain ⟨s, r, e⟩ := h.chan; exact ⟨s, r, (ht.block C (heap_lt e) hC).trans e⟩
  woke := ht.cell h.woke hV
  wokez := (ht.frozen (a := ⟨V, 0, none⟩) (World.block_lt_of_cell? w _ h.woke) hV).trans h.wokez
  cnt0 := fun e => ht.cell (h.cnt0 e) (hA e)
  cnt1 := fun e => ht.cell (h.cnt1 e) (hA e)
  cnt0z := fun e => (ht.frozen (a := ⟨A, 0, none⟩) (World.block_lt_of_cell? w _ (h.cnt0 e)) (hA e)).trans (h.cnt0z e)
  cnt1z := fun e => (ht.frozen (a := ⟨A, 1, none⟩) (World.block_lt_of_cell? w _ (h.cnt1 e)) (hA e)).trans (h.cnt1z e)
  rep := fun e => ht.cell (h.rep e) (hH e)
  repz := fun e => (ht.frozen (a := ⟨H, 2, none⟩) (World.block_lt_of_cell? w _ (h.rep e)) (hH e)).trans (h.repz e)
  call := fun e => ht.cell (h.call e) (hH e)
end

/-- The blocks lie in the order in which the law makes them. -/
structure Ord (C A V H P bm E M : Nat) (hk al : Bool) : Prop where
  a : C < A
  b : A ≤ V
  b' : al = true → A < V
  c : V ≤ H
  c' : hk = true → V < H
  d : H < P
  e : P < bm
  f : bm < E
  g : E < M

/-- What a delivery turns. -/
def Msk (E C A V H : Nat) (k : Nat) : Prop := k = E ∨ k = H ∨ k = A ∨ k = V ∨ k = C

/-- All that is held along the way. -/
structure Inv (w0 w : World) (C A V H P bm E : Nat) (pt : Int) (hk wk al : Bool) (cap : Nat) (buf : Array Value) (rep wok c0 c1 : Int) : Prop where
  t : Tch (Msk E C A V H) w0 w
  l : Lk w E bm
  r : Req w P C A H pt hk al
  n : Now w C A V H hk wk al cap buf rep wok c0 c1

section
variable {w0 w : World} {E bm P C A V H M cap : Nat} {pt rep wok c0 c1 : Int} {hk wk al : Bool} {buf : Array Value}
theorem Inv.drewN (h : Inv w0 w C A V H P bm E pt hk wk al cap buf rep wok c0 c1) (n : Nat) : Inv w0 (w.drewN n) C A V H P bm E pt hk wk al cap buf rep wok c0 c1 :=
  have T : Tch (fun _ => False) w (w.drewN n) := (Tch.refl _ w).drewN n
  ⟨h.t.drewN n, h.l.tch T id, h.r.tch T id, h.n.tch T id id (fun _ => id) (fun _ => id)⟩
theorem Inv.drew (h : Inv w0 w C A V H P bm E pt hk wk al cap buf rep wok c0 c1) : Inv w0 w.drew C A V H P bm E pt hk wk al cap buf rep wok c0 c1 :=
  have T : Tch (fun _ => False) w w.drew := (Tch.refl _ w).drew
  ⟨h.t.drew, h.l.tch T id, h.r.tch T id, h.n.tch T id id (fun _ => id) (fun _ => id)⟩
/-- The hook has heard of it. -/
theorem Inv.replied (o : Ord C A V H P bm E M true al) (h : Inv w0 w C A V H P bm E pt true wk al cap buf rep wok c0 c1) : Inv w0 (w.setCell ⟨H, 2, none⟩ (.int .u32 1)) C A V H P bm E pt true wk al cap buf 1 wok c0 c1 := by
  have T : Tch (· = H) w (w.setCell ⟨H, 2, none⟩ (.int .u32 1)) := (Tch.refl _ w).setCell _ _ rfl
  obtain ⟨oa, ob, ob', oc, oc', od, oe, of, og⟩ := o
  have oc' := oc' rfl
  have N := h.n
  obtain ⟨s, r, hc⟩ := N.chan
  refine ⟨h.t.setCell _ _ (.inr (.inl rfl)), h.l.tch T (by first | omega | (dsimp only; omega)), h.r.tch T (by first | omega | (dsimp only; omega)), ⟨⟨s, r, (T.block C (heap_lt hc) (by first | omega | (dsimp only; omega))).trans hc⟩, T.cell N.woke (by first | omega | (dsimp only; omega)), ?_, fun e => T.cell (N.cnt0 e) (by have := ob' e; dsimp only; omega), fun e => T.cell (N.cnt1 e) (by have := ob' e; dsimp only; omega), ?_, ?_, fun e => World.cell?_setCell_same _ _ _ (N.rep e), ?_, fun e => (World.cell?_setCell_other _ _ _ _ (by simp)).trans (N.call e)⟩⟩ <;> (try intro e) <;> rw [World.frozen?_setCell] <;> (try rw [World.frozen?_setCell])
  · exact N.wokez
  · exact N.cnt0z e
  · exact N.cnt1z e
  · exact N.repz e
/-- The counter is raised. -/
theorem Inv.counted (o : Ord C A V H P bm E M hk true) (x y : Int) (h : Inv w0 w C A V H P bm E pt hk wk true cap buf rep wok c0 c1) : Inv w0 ((w.setCell ⟨A, 0, none⟩ (.int .i64 x)).setCell ⟨A, 1, none⟩ (.int .i64 y)) C A V H P bm E pt hk wk true cap buf rep wok x y := by
  have T : Tch (· = A) w ((w.setCell ⟨A, 0, none⟩ (.int .i64 x)).setCell ⟨A, 1, none⟩ (.int .i64 y)) := ((Tch.refl (· = A) w).setCell _ _ rfl).setCell _ _ rfl
  obtain ⟨oa, ob, ob', oc, oc', od, oe, of, og⟩ := o
  have ob' := ob' rfl
  have N := h.n
  obtain ⟨s, r, hc⟩ := N.chan
  refine ⟨(h.t.setCell _ _ (.inr (.inr (.inl rfl)))).setCell _ _ (.inr (.inr (.inl rfl))), h.l.tch T (by first | omega | (dsimp only; omega)), h.r.tch T (by first | omega | (dsimp only; omega)), ⟨⟨s, r, (T.block C (heap_lt hc) (by first | omega | (dsimp only; omega))).trans hc⟩, T.cell N.woke (by first | omega | (dsimp only; omega)), ?_, fun e => (World.cell?_setCell_other _ _ _ _ (by simp)).trans (World.cell?_setCell_same _ _ _ (N.cnt0 e)), fun e => World.cell?_setCell_same _ _ _ ((World.cell?_setCell_other _ _ _ _ (by simp)).trans (N.cnt1 e)), ?_, ?_, fun e => T.cell (N.rep e) (by have := oc' e; dsimp only; omega), ?_, fun e => T.cell (N.call e) (by have := oc' e; dsimp only; omega)⟩⟩ <;> (try intro e) <;> rw [World.frozen?_setCell] <;> (try rw [World.frozen?_setCell])
  · exact N.wokez
  · exact N.cnt0z e
  · exact N.cnt1z e
  · exact N.repz e
theorem Inv.noHook (h : Inv w0 w C A V H P bm E pt false wk al cap buf rep wok c0 c1) (rep' : Int) : Inv w0 w C A V H P bm E pt false wk al cap buf rep' wok c0 c1 :=
  ⟨h.t, h.l, h.r, ⟨h.n.chan, h.n.woke, h.n.wokez, h.n.cnt0, h.n.cnt1, h.n.cnt0z, h.n.cnt1z, nofun, nofun, nofun⟩⟩
theorem Inv.noCount (h : Inv w0 w C A V H P bm E pt hk wk false cap buf rep wok c0 c1) (x y : Int) : Inv w0 w C A V H P bm E pt hk wk false cap buf rep wok x y :=
  ⟨h.t, h.l, h.r, ⟨h.n.chan, h.n.woke, h.n.wokez, nofun, nofun, nofun, nofun, h.n.rep, h.n.repz, h.n.call⟩⟩
/-- The closure was called. -/
theorem Inv.woken (o : Ord C A V H P bm E M hk al) (x : Int) (h : Inv w0 w C A V H P bm E pt hk wk al cap buf rep wok c0 c1) : Inv w0 (w.setCell ⟨V, 0, none⟩ (.int .i64 x)) C A V H P bm E pt hk wk al cap buf rep x c0 c1 := by
  have T : Tch (· = V) w (w.setCell ⟨V, 0, none⟩ (.int .i64 x)) := (Tch.refl _ w).setCell _ _ rfl
  obtain ⟨oa, ob, ob', oc, oc', od, oe, of, og⟩ := o
  have N := h.n
  obtain ⟨s, r, hc⟩ := N.chan
  refine ⟨h.t.setCell _ _ (.inr (.inr (.inr (.inl rfl)))), h.l.tch T (by first | omega | (dsimp only; omega)), h.r.tch T (by first | omega | (dsimp only; omega)), ⟨⟨s, r, (T.block C (heap_lt hc) (by first | omega | (dsimp only; omega))).trans hc⟩, World.cell?_setCell_same _ _ _ N.woke, ?_, fun e => T.cell (N.cnt0 e) (by have := ob' e; dsimp only; omega), fun e => T.cell (N.cnt1 e) (by have := ob' e; dsimp only; omega), ?_, ?_, fun e => T.cell (N.rep e) (by have := oc' e; dsimp only; omega), ?_, fun e => T.cell (N.call e) (by have := oc' e; dsimp only; omega)⟩⟩ <;> (try intro e) <;> rw [World.frozen?_setCell] <;> (try rw [World.frozen?_setCell])
  · exact N.wokez
  · exact N.cnt0z e
  · exact N.cnt1z e
  · exact N.repz e
/-- The channel took it. -/
theorem Inv.queued (o : Ord C A V H P bm E M hk al) (s r : Nat) (buf' : Array Value) (h : Inv w0 w C A V H P bm E pt hk wk al cap buf rep wok c0 c1) : Inv w0 (w.setChan C cap buf' false s r false) C A V H P bm E pt hk wk al cap buf' rep wok c0 c1 := by
  have T : Tch (· = C) w (w.setChan C cap buf' false s r false) := (Tch.refl _ w).setChan _ _ _ _ _ _ _ rfl
  obtain ⟨oa, ob, ob', oc, oc', od, oe, of, og⟩ := o
  have N := h.n
  obtain ⟨s', r', hc⟩ := N.chan
  refine ⟨h.t.setChan _ _ _ _ _ _ _ (.inr (.inr (.inr (.inr rfl)))), h.l.tch T (by first | omega | (dsimp only; omega)), h.r.tch T (by first | omega | (dsimp only; omega)), ⟨⟨s, r, ?_⟩, T.cell N.woke (by first | omega | (dsimp only; omega)), (T.frozen (a := ⟨V, 0, none⟩) (World.block_lt_of_cell? w _ N.woke) (by first | omega | (dsimp only; omega))).trans N.wokez, fun e => T.cell (N.cnt0 e) (by first | omega | (dsimp only; omega)), fun e => T.cell (N.cnt1 e) (by first | omega | (dsimp only; omega)), fun e => (T.frozen (a := ⟨A, 0, none⟩) (World.block_lt_of_cell? w _ (N.cnt0 e)) (by first | omega | (dsimp only; omega))).trans (N.cnt0z e), fun e => (T.frozen (a := ⟨A, 1, none⟩) (World.block_lt_of_cell? w _ (N.cnt1 e)) (by first | omega | (dsimp only; omega))).trans (N.cnt1z e), fun e => T.cell (N.rep e) (by first | omega | (dsimp only; omega)), fun e => (T.frozen (a := ⟨H, 2, none⟩) (World.block_lt_of_cell? w _ (N.rep e)) (by first | omega | (dsimp only; omega))).trans (N.repz e), fun e => T.cell (N.call e) (by first | omega | (dsimp only; omega))⟩⟩
  simp only [World.setChan]
  rw [Array.getElem?_setIfInBounds_self_of_lt (heap_lt hc)]
end

theorem Reg.nil {P : Program} {ops : Array Oper} {Q : Exit → Act → World → Prop} {a : Act} {w : World} (h : Q .normal a w) : Reg P ops [] Q a w := by
  refine Reg.list (P := P) (ops := ops) (Q := Q) (a := a) (w := w) [] ops.size (fun j => ?_) ?_
  · simp
  · simpa [wpList] using h

set_option maxRecDepth 100000 in
set_option maxHeartbeats 2000000 in
/-- The request is met. -/
theorem deliver_hit (E M bm P C A V H : Nat) (x pt n : Int) (hk wk al : Bool) (cap : Nat) (buf : Array Value) (w : World) (o : Ord C A V H P bm E M hk al) (hM : M < w.heap.size)
    (hL : Lk w E bm) (hT : Txn w M x) (hR : Req w P C A H pt hk al) (hN : Now w C A V H hk wk al cap buf 0 0 0 0) (hlk : Answers w bm x (ptr P))
    (B : Array Value) (u x0 x1 : Int) (hBr : buf.size < cap → buf.push (ptr M) = B) (hBf : ¬ buf.size < cap → buf = B) (hu1 : hk = true → wk = true → u = 1) (hu0 : hk = false ∨ wk = false → u = 0) (hx0 : wrap64 (0 + 1) = x0) (hx1 : wrap64 (0 + n) = x1) :
    Calls Yba.prog 6 #[.pointer (some ⟨E, 0, none⟩), .pointer (some ⟨M, 0, none⟩), addrV pt, .int .i64 n] w fun e w' => e = .returned (.tuple #[]) ∧
      Inv w w' C A V H P bm E pt hk wk al cap B 1 u x0 x1 := by
  have o' := o
  obtain ⟨oa, ob, ob', oc, oc', od, oe, of, og⟩ := o'
  obtain ⟨c1, f1, c2⟩ := hL
  have hE := World.block_lt_of_cell? w _ c1
  have hE' : E < w.heap.size := hE
  go_enter Yba.func6, Yba.ntmps6
  go_wp2_with fail
  have T0 : Tch (· = E) w (w.alloc (.cells #[.int .u64 0, .int .u64 0, .pointer none, .int .u16 pt] 41)) := (Tch.refl _ w).alloc _
  have B0 : Below w.heap.size w (w.alloc (.cells #[.int .u64 0, .int .u64 0, .pointer none, .int .u16 pt] 41)) := (Below.refl _ w).alloc (Nat.le_refl _) _
  have F0 : AddrAt (w.alloc (.cells #[.int .u64 0, .int .u64 0, .pointer none, .int .u16 pt] 41)) w.heap.size pt := ⟨by go_simp, by go_simp, by go_simp, by go_simp⟩
  refine (lock_free muLib ⟨E, 318, none⟩ _ ((B0.cell (p := ⟨E, 318, none⟩) hE).trans c1) ((B0.frozen (p := ⟨E, 318, none⟩) hE).trans f1)).mono ?_
  rintro e w1 ⟨rfl, hw1⟩
  have d1 : w1.cell? ⟨E, 318, none⟩ = some (.int .i32 1) := by rw [hw1]; exact World.cell?_setCell_same _ _ _ ((B0.cell (p := ⟨E, 318, none⟩) hE).trans c1)
  have g1 : w1.frozen? ⟨E, 318, none⟩ = false := by rw [hw1, World.frozen?_setCell]; exact (B0.frozen (p := ⟨E, 318, none⟩) hE).trans f1
  have d2 : w1.cell? ⟨E, 320, none⟩ = some (.map (some bm)) := by rw [hw1, World.cell?_setCell_other _ _ _ _ (by simp)]; exact (B0.cell (p := ⟨E, 320, none⟩) hE).trans c2
  have T1 : Tch (· = E) w w1 := by rw [hw1]; exact T0.setCell _ _ rfl
  have hF1 : AddrAt w1 w.heap.size pt := by rw [hw1]; exact F0.tch (S := (· = E)) ((Tch.refl _ _).setCell _ _ rfl) (by intro e; omega)
  obtain ⟨t0, t1, t2, t3, t4, t5, t6, t7⟩ := hT.tch T1 (by omega)
  have hl := fun (k : Nat) => hlk (w1.drewN k) (T1.block bm (by omega) (by omega))
  have hl0 := hlk w1 (T1.block bm (by omega) (by omega))
  have hl1 := hlk w1.drew (T1.block bm (by omega) (by omega))
  clear hw1 T0 B0 F0 hlk c1 f1 c2
  go_wp2_with fail
  go_quiet (fail)
  go_wp2_with fail
  refine (unlock_held muLib ⟨E, 318, none⟩ _ (by exact d1) (by exact g1)).mono ?_
  rintro e w2 ⟨rfl, hw2⟩
  have T12 : Tch (· = E) w1 w2 := by rw [hw2]; exact ((Tch.refl _ w1).drewN _).setCell _ _ rfl
  have T2 : Tch (· = E) w w2 := T1.trans T12
  have I2 : Inv w w2 C A V H P bm E pt hk wk al cap buf 0 0 0 0 := by
    refine ⟨T2.mono fun k e => .inl e, ⟨?_, ?_, ?_⟩, hR.tch T2 (by omega), hN.tch T2 (by omega) (by omega) (fun _ => by omega) (fun _ => by omega)⟩
    · rw [hw2]; exact World.cell?_setCell_same _ _ _ d1
    · rw [hw2, World.frozen?_setCell]; exact g1
    · rw [hw2, World.cell?_setCell_other _ _ _ _ (by simp)]; exact d2
  obtain ⟨f0, f1, f2, f3⟩ := hF1.tch T12 (by omega)
  obtain ⟨p0, p1, p2, p3⟩ := I2.r.dest
  clear hw2 d1 g1 d2 T1 t0 t1 t2 t3 t4 t5 t6 t7 hl hl0 hl1 hF1 T12 T2 hR hN hT
  go_wp2_with fail
  go_quiet (fail)
  clear f0 f1 f2 f3 p0 p1 p2 p3
  go_upto_region 5 with fail
  have h6 := I2.r.hook
  go_cut [8, 40] from 9 to 84 (fun s8 s40 wx => s8 = ptr P ∧ s40 = .bool hk ∧ Inv w wx C A V H P bm E pt hk wk al cap buf 0 0 0 0)
  case first =>
    cases hk
    · replace h6 : w2.cell? ⟨P, 6, none⟩ = some (.pointer none) := h6
      go_wp2_with fail
      go_meet
      exact ⟨rfl, rfl, I2.drewN _⟩
    · replace h6 : w2.cell? ⟨P, 6, none⟩ = some (ptr H) := h6
      go_wp2_with fail
      go_meet
      exact ⟨rfl, rfl, I2.drewN _⟩
  case rest =>
  obtain ⟨rfl, rfl, I3⟩ := hcut
  clear I2 h6
  have h6 := I3.r.hook
  go_upto_if 40 with fail
  go_cut [8] from 9 to 84 (fun s8 wx => s8 = ptr P ∧ Inv w wx C A V H P bm E pt hk wk al cap buf 1 0 0 0)
  case first =>
    cases hk
    · go_wp2_with fail
      go_meet
      exact ⟨rfl, I3.noHook _⟩
    · replace h6 : wc.cell? ⟨P, 6, none⟩ = some (ptr H) := h6
      go_wp2_with fail
      refine (bstore ⟨H, 2, none⟩ _ _ (I3.n.rep rfl) (I3.n.repz rfl)).mono ?_
      rintro e w' ⟨rfl, rfl⟩
      go_wp2_with fail
      go_meet
      exact ⟨rfl, (I3.replied o).drew⟩
  case rest =>
  obtain ⟨rfl, I4⟩ := hcut
  clear I3 h6
  have h5 := I4.r.also
  go_upto_region 7 with fail
  go_cut [8] from 9 to 84 (fun s8 wx => s8 = ptr P ∧ Inv w wx C A V H P bm E pt hk wk al cap buf 1 0 x0 x1)
  case first =>
    cases al
    · replace h5 : wc.cell? ⟨P, 5, none⟩ = some (.pointer none) := h5
      go_wp2_with fail
      refine (cadd_nil n _).mono ?_
      rintro e w' ⟨rfl, rfl⟩
      go_wp2_with fail
      go_meet
      exact ⟨rfl, I4.noCount _ _⟩
    · replace h5 : wc.cell? ⟨P, 5, none⟩ = some (ptr A) := h5
      go_wp2_with fail
      refine (cadd A 0 0 n _ (I4.n.cnt0 rfl) (I4.n.cnt1 rfl) (I4.n.cnt0z rfl) (I4.n.cnt1z rfl)).mono ?_
      rintro e w' ⟨rfl, hw'⟩
      have I4' : Inv w w' C A V H P bm E pt hk wk true cap buf 1 0 x0 x1 := by rw [hw', ← hx0, ← hx1]; exact I4.counted o _ _
      clear hw'
      go_wp2_with fail
      go_meet
      exact ⟨rfl, I4'⟩
  case rest =>
  obtain ⟨rfl, I5⟩ := hcut
  clear I4 h5
  have h4 := I5.r.reply
  go_upto_region 10 with fail
  go_cut [8, 61] from 9 to 84 (fun s8 s61 wx => s8 = ptr P ∧ (∃ b, s61 = .bool b) ∧ Inv w wx C A V H P bm E pt hk wk al cap B 1 0 x0 x1)
  case first =>
    obtain ⟨s, r, hc⟩ := I5.n.chan
    refine wp_of_reg ?_
    show Reg _ _ [0, 1, 2] _ _ _
    by_cases hroom : buf.size < cap
    · refine Reg.selectRoom (v := ptr M) (z := .pointer none) rfl rfl ?_ hc hroom ?_
      · go_simp; rfl
      · refine Reg.value (by rfl) (by rfl) ?_
        go_simp
        refine ⟨_, _, ⟨rfl, rfl⟩, ?_⟩
        refine Reg.value (by rfl) (by rfl) ?_
        go_simp
        refine ⟨_, _, ⟨rfl, rfl⟩, ?_⟩
        refine Reg.nil ?_
        have I6 := I5.queued o (s + 1) r (buf.push (ptr M))
        go_wp2_with fail
        go_meet
        exact ⟨rfl, ⟨_, rfl⟩, by rw [hBr hroom] at I6; exact I6⟩
    · refine Reg.selectFull (v := ptr M) (z := .pointer none) rfl rfl ?_ hc (by omega) ?_
      · go_simp; rfl
      · refine Reg.value (by rfl) (by rfl) ?_
        go_simp
        refine ⟨_, _, ⟨rfl, rfl⟩, ?_⟩
        refine Reg.value (by rfl) (by rfl) ?_
        go_simp
        refine ⟨_, _, ⟨rfl, rfl⟩, ?_⟩
        refine Reg.nil ?_
        go_wp2_with fail
        go_meet
        exact ⟨rfl, ⟨_, rfl⟩, by rw [hBf hroom] at I5; exact I5⟩
  case rest =>
  obtain ⟨rfl, ⟨b, rfl⟩, I6⟩ := hcut
  clear I5 h4
  go_upto_block 0 with fail
  go_cut [8] from 9 to 84 (fun s8 wx => s8 = ptr P ∧ Inv w wx C A V H P bm E pt hk wk al cap B 1 0 x0 x1)
  case first =>
    cases b <;> (go_wp2_with fail; go_meet; exact ⟨rfl, I6⟩)
  case rest =>
  clear I6
  obtain ⟨rfl, I6⟩ := hcut
  have h6 := I6.r.hook
  cases hk
  · replace h6 : wc.cell? ⟨P, 6, none⟩ = some (.pointer none) := h6
    obtain rfl := hu0 (.inl rfl)
    go_wp2
    first | go_end0 | refine bodyPost_ret (results_none rfl _ _ _) rfl ?_
    exact ⟨rfl, I6⟩
  · replace h6 : wc.cell? ⟨P, 6, none⟩ = some (ptr H) := h6
    have h7 := I6.n.call rfl
    cases wk
    · replace h7 : wc.cell? ⟨H, 3, none⟩ = some .nilFunc := h7
      obtain rfl := hu0 (.inr rfl)
      go_wp2
      first | go_end0 | refine bodyPost_ret (results_none rfl _ _ _) rfl ?_
      exact ⟨rfl, I6⟩
    · replace h7 : wc.cell? ⟨H, 3, none⟩ = some (wokeV V) := h7
      obtain rfl := hu1 rfl rfl
      go_wp2_with fail
      refine (woke_any V 0 _ I6.n.woke I6.n.wokez (by omega)).mono ?_
      rintro e w' ⟨rfl, hw'⟩
      have I7 : Inv w w' C A V H P bm E pt true true al cap B 1 1 x0 x1 := by rw [hw']; exact I6.woken o _
      clear hw'
      go_wp2
      first | go_end0 | refine bodyPost_ret (results_none rfl _ _ _) rfl ?_
      exact ⟨rfl, I7⟩

end Go.Proofs.Ybulkaqia
