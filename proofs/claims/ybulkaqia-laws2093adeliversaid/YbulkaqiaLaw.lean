/-
  THE LAW's WALK.
-/
import Derived.Test.YbulkaqiaTailE
namespace Go.Proofs.Ybulkaqia
open Go.RowKit Go.MuLone Go.Conc

/-- The channel with its first messages. -/
structure Chn (w0 w : World) (C c i : Nat) (buf : Array Value) (B : Nat → Nat) : Prop where
  b : Below w0.heap.size w0 w
  lt : C < w.heap.size
  le : w0.heap.size ≤ C
  at_ : ∃ s r, w.heap[C]? = some (.chan c buf false s r false)
  bufd : Bufd w C w.heap.size i buf B

theorem Chn.sent {w0 w : World} {C c i : Nat} {buf : Array Value} {B : Nat → Nat} (h : Chn w0 w C c i buf B) (cs : Array Value) (s r : Nat) :
    Chn w0 ((w.alloc (.cells cs 44)).setChan C c (buf.push (ptr w.heap.size)) false s r false) C c (i + 1) (buf.push (ptr w.heap.size)) (fun j => if j < i then B j else w.heap.size) := by
  have hs := h.b.size
  have hlt := h.lt
  have hle := h.le
  have T : Tch (· = C) w ((w.alloc (.cells cs 44)).setChan C c (buf.push (ptr w.heap.size)) false s r false) := ((Tch.refl _ w).alloc _).setChan _ _ _ _ _ _ _ rfl
  have hz : ((w.alloc (.cells cs 44)).setChan C c (buf.push (ptr w.heap.size)) false s r false).heap.size = w.heap.size + 1 := by simp [World.setChan]
  have hm : Msg ((w.alloc (.cells cs 44)).setChan C c (buf.push (ptr w.heap.size)) false s r false) w.heap.size := by
    have : Msg (w.alloc (.cells cs 44)) w.heap.size := ⟨cs, 44, heap_alloc_new w _⟩
    exact this.tch ((Tch.refl (· = C) _).setChan _ _ _ _ _ _ _ rfl) (by omega)
  refine ⟨T.below h.b hs (fun k e => by subst e; exact hle), by omega, hle, ⟨s, r, ?_⟩, ⟨by simp [h.bufd.1], fun j hj => ?_⟩⟩
  · simp only [World.setChan]
    rw [Array.getElem?_setIfInBounds_self_of_lt (by simp; omega)]
  · by_cases hj' : j < i
    · obtain ⟨h1, h2, h3, h4⟩ := h.bufd.2 j hj'
      simp only [hj', if_true]
      refine ⟨?_, h2, by omega, h4.tch T (by omega)⟩
      rw [Array.getElem?_push, if_neg (by have := h.bufd.1; omega)]
      exact h1
    · have : j = buf.size := by have := h.bufd.1; omega
      simp only [hj', if_false]
      refine ⟨?_, hlt, by omega, hm⟩
      rw [Array.getElem?_push, if_pos this]

set_option maxRecDepth 100000 in
set_option maxHeartbeats 1000000 in
theorem walk (a0 a1 a2 a3 a4 a5 : Int) (a6 a7 a8 : Bool) (a9 : Int) (w0 : (Lit.int .u8 a0).wf = true) (w1 : (Lit.int .u8 a1).wf = true) (w2 : (Lit.int .u16 a2).wf = true) (w3 : (Lit.int .u16 a3).wf = true) (w4 : (Lit.int .u8 a4).wf = true) (w5 : (Lit.int .u8 a5).wf = true) (w9 : (Lit.int .i64 a9).wf = true) (w : World) :
    Calls Yba.prog 3 #[.int .u8 a0, .int .u8 a1, .int .u16 a2, .int .u16 a3, .int .u8 a4, .int .u8 a5, .bool a6, .bool a7, .bool a8, .int .i64 a9] w fun e w' => e = .returned (.bool true) ∧ Below w.heap.size w w' := by
  obtain ⟨c, p, hc2, hpc, hc0, hp0, hw5⟩ := capped (wf8 w4) (wf8 w5)
  have Hc : Hid (wrap64 (a4.tmod 3) = (c : Int)) := hc0
  have Hp : Hid (a5.tmod ((c : Int) + 1) = (p : Int)) := hp0
  have hz := notZero c
  clear hc0 hp0
  obtain ⟨x, hx, hx3⟩ := mod4 (wf8 w0).1
  obtain ⟨y, hy, hy3⟩ := mod4 (wf8 w1).1
  obtain ⟨pt, hpt, hpt3⟩ := mod4 (wf16 w2).1
  obtain ⟨pf, hpf, hpf3⟩ := mod4 (wf16 w3).1
  have Hx : Hid (a0.tmod 4 = x) := hx
  have Hy : Hid (a1.tmod 4 = y) := hy
  have Ht : Hid (a2.tmod 4 = pt) := hpt
  have Hf : Hid (a3.tmod 4 = pf) := hpf
  have hw9 : wrap64 a9 = a9 := IntWalk.wrap64_in _ (wf64 w9)
  clear w0 w1 w2 w3 w4 w5 w9 hx hy hpt hpf
  go_enter Yba.func3, Yba.ntmps3
  go_upto_region 1 with fail
  go_cut [21] from 46 to 212 (fun s21 wx => s21 = .int .i64 c ∧ w = wx)
  case first =>
    go_wp2_with fail
    go_meet
    exact ⟨by rw [Hc.out], rfl⟩
  case rest =>
  obtain ⟨rfl, rfl⟩ := hcut
  clear Hc
  go_upto_region 2 with fail
  go_cut [22] from 46 to 212 (fun s22 wx => s22 = .int .i64 p ∧ w = wx)
  case first =>
    go_wp2_with fail
    go_meet
    exact ⟨by rw [Hp.out], rfl⟩
  case rest =>
  obtain ⟨rfl, rfl⟩ := hcut
  clear Hp hz hw5
  have hmk := mkChan c hc2
  go_upto_block 0 with fail
  clear hmk
  go_cut [24] from 46 to 212 (fun _ wx => ∃ (buf : Array Value) (B : Nat → Nat), Chn w wx w.heap.size c p buf B)
  case first =>
    obtain ⟨cs, hcs⟩ := mk44
    have hbx := box44
    go_wp2_with fail
    go_loopg [24] p (fun g s24 wx => ∃ (i : Nat) (buf : Array Value) (B : Nat → Nat), i ≤ p ∧ g = p - i ∧ s24 = .int .i64 i ∧ Chn w wx w.heap.size c i buf B)
    case atStart => exact ⟨0, #[], fun _ => 0, Nat.zero_le _, rfl, rfl, ⟨(Below.refl _ w).alloc (Nat.le_refl _) _, by simp, Nat.le_refl _, ⟨0, 0, heap_alloc_new w _⟩, ⟨rfl, nofun⟩⟩⟩
    case round =>
      obtain ⟨i, buf, B, hi, rfl, rfl, hch⟩ := hrel
      by_cases hip : i < p
      · have hipz : (i : Int) < (p : Int) := by omega
        obtain ⟨s, r, hc⟩ := hch.at_
        have hne : (wr.alloc (.cells cs 44)).heap[w.heap.size]? = some (.chan c buf false s r false) := (heap_alloc_old wr _ (heap_lt hc)).trans hc
        have hroom : buf.size < c := by rw [hch.bufd.1]; omega
        go_upto_region 7 with fail
        refine wp_of_reg ?_
        show Reg _ _ [0, 1, 2, 3] _ _ _
        refine Reg.value (by rfl) (by rfl) ?_
        go_simp
        refine ⟨_, _, ⟨rfl, rfl⟩, ?_⟩
        refine Reg.build (by rfl) (by rfl) 44 #[] rfl (vs := #[]) (by simp) (hcs _) ?_
        refine Reg.value (by rfl) (by rfl) ?_
        go_simp
        refine ⟨_, _, ⟨rfl, rfl⟩, ?_⟩
        refine Reg.send (v := ptr wr.heap.size) (z := .tuple #[]) (by rfl) (by rfl) (by go_simp; rfl) hne hroom ?_
        refine Reg.nil ?_
        have hch' := hch.sent cs (s + 1) r
        clear hcs hbx hne hc hch hroom
        go_wp2_with fail
        go_roundg (p - (i + 1))
        case measure => omega
        case rel => exact ⟨i + 1, _, _, by omega, rfl, by go_num, hch'⟩
      · have hip' : p = i := by omega
        subst hip'
        go_wp2_with fail
        go_meet
        exact ⟨buf, B, hch⟩
  case rest =>
  obtain ⟨buf, B, hch⟩ := hcut
  apply_assumption
  exact tailE w.heap.size c p a0 a1 a2 a3 a9 x y pt pf a6 a7 a8 buf B w wc hc2 hpc hw9 Hx.out Hy.out Ht.out Hf.out hch.b hch.le hch.lt hch.at_ hch.bufd

end Go.Proofs.Ybulkaqia
