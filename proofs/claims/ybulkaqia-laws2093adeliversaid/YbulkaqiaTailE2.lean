/-
  THE LAW's WALK, from behind: the two transaction numbers.
-/
import Derived.Test.YbulkaqiaTailD
namespace Go.Proofs.Ybulkaqia
open Go.RowKit Go.MuLone Go.Conc

theorem Tch.of_below {w w' : World} (h : Below w.heap.size w w') : Tch (fun _ => False) w w' := ⟨h.os, h.tape, h.output, h.size, fun k hk _ => h.block k hk⟩

/-- The counter, where there is one. -/
structure Mid1 (w0 w : World) (C A : Nat) (al : Bool) (c p : Nat) (buf : Array Value) (B : Nat → Nat) : Prop where
  b : Below w0.heap.size w0 w
  oa : C < A
  ob : A ≤ w.heap.size
  ob' : al = true → A < w.heap.size
  chan : ∃ s r, w.heap[C]? = some (.chan c buf false s r false)
  cnt0 : al = true → w.cell? ⟨A, 0, none⟩ = some (.int .i64 0)
  cnt1 : al = true → w.cell? ⟨A, 1, none⟩ = some (.int .i64 0)
  cnt0z : al = true → w.frozen? ⟨A, 0, none⟩ = false
  cnt1z : al = true → w.frozen? ⟨A, 1, none⟩ = false
  bufd : Bufd w C A p buf B
/-- .. the closure's variable and the hook. -/
structure Mid (w0 w : World) (C A V H : Nat) (hk wk al : Bool) (c p : Nat) (buf : Array Value) (B : Nat → Nat) : Prop where
  b : Below w0.heap.size w0 w
  oa : C < A
  ob : A ≤ V
  ob' : al = true → A < V
  oc : V ≤ H
  oc' : hk = true → V < H
  lt : H < w.heap.size
  now : Now w C A V H hk wk al c buf 0 0 0 0
  bufd : Bufd w C A p buf B

section
variable {w0 w w' : World} {C A V H c p : Nat} {hk wk al : Bool} {buf : Array Value} {B : Nat → Nat}
theorem Mid.tch (h : Mid w0 w C A V H hk wk al c p buf B) (ht : Tch (fun _ => False) w w') : Mid w0 w' C A V H hk wk al c p buf B :=
  ⟨ht.below h.b h.b.size nofun, h.oa, h.ob, h.ob', h.oc, h.oc', Nat.lt_of_lt_of_le h.lt ht.size, h.now.tch ht id id (fun _ => id) (fun _ => id), h.bufd.tch ht (fun _ _ _ => id)⟩
/-- The variable of the closure is made. -/
theorem Mid1.woke (h : Mid1 w0 w C A al c p buf B) : Mid w0 (w.alloc (.cells #[.int .i64 0] 3)) C A w.heap.size w.heap.size false wk al c p buf B := by
  have T : Tch (fun _ => False) w (w.alloc (.cells #[.int .i64 0] 3)) := (Tch.refl _ w).alloc _
  obtain ⟨s, r, hc⟩ := h.chan
  exact ⟨T.below h.b h.b.size nofun, h.oa, h.ob, h.ob', Nat.le_refl _, nofun, by simp, ⟨⟨s, r, (T.block C (heap_lt hc) id).trans hc⟩, cell_made rfl, frozen_made _ _ _ _,
    fun e => T.cell (h.cnt0 e) id, fun e => T.cell (h.cnt1 e) id, fun e => (T.frozen (a := ⟨A, 0, none⟩) (h.ob' e) id).trans (h.cnt0z e), fun e => (T.frozen (a := ⟨A, 1, none⟩) (h.ob' e) id).trans (h.cnt1z e), nofun, nofun, nofun⟩, h.bufd.tch T (fun _ _ _ => id)⟩
/-- The hook is made. -/
theorem Mid.hooked (h : Mid w0 w C A V V false wk al c p buf B) (g : Value) (hg : g = if wk then wokeV V else .nilFunc) (t : TypeId) :
    Mid w0 (w.alloc (.cells #[.bool false, .int .u32 0, .int .u32 0, g, .nilFunc, .bool false] t)) C A V w.heap.size true wk al c p buf B := by
  subst hg
  have T : Tch (fun _ => False) w (w.alloc (.cells #[.bool false, .int .u32 0, .int .u32 0, if wk then wokeV V else .nilFunc, .nilFunc, .bool false] t)) := (Tch.refl _ w).alloc _
  have N := h.now.tch T id id (fun _ => id) (fun _ => id)
  exact ⟨T.below h.b h.b.size nofun, h.oa, h.ob, h.ob', Nat.le_of_lt h.lt, fun _ => h.lt, by simp, ⟨N.chan, N.woke, N.wokez, N.cnt0, N.cnt1, N.cnt0z, N.cnt1z, fun _ => cell_made rfl, fun _ => frozen_made _ _ _ _, fun _ => cell_made rfl⟩, h.bufd.tch T (fun _ _ _ => id)⟩
theorem Mid.noHook (h : Mid w0 w C A V V false wk al c p buf B) (wk' : Bool) : Mid w0 w C A V V false wk' al c p buf B :=
  ⟨h.b, h.oa, h.ob, h.ob', h.oc, h.oc', h.lt, ⟨h.now.chan, h.now.woke, h.now.wokez, h.now.cnt0, h.now.cnt1, h.now.cnt0z, h.now.cnt1z, nofun, nofun, nofun⟩, h.bufd⟩
end

/-- The two numbers are made. -/
theorem pre_made {w0 w : World} {C A V H T F c p : Nat} {x y pt pf : Int} {hk wk al : Bool} {buf : Array Value} {B : Nat → Nat} (hM : Mid w0 w C A V H hk wk al c p buf B) (hHT : H < T) (hTF : T < F) (hFw : F < w.heap.size) (dT : AddrAt w T pt) (dF : AddrAt w F pf) :
    Below w0.heap.size w0 ((w.alloc (.cells #[.int .u8 x, .int .u8 0, .int .u8 0, .int .u8 0, .int .u8 0, .int .u8 0, .int .u8 0, .int .u8 0] 26)).alloc (.cells #[.int .u8 y, .int .u8 0, .int .u8 0, .int .u8 0, .int .u8 0, .int .u8 0, .int .u8 0, .int .u8 0] 26)) ∧
    Pre ((w.alloc (.cells #[.int .u8 x, .int .u8 0, .int .u8 0, .int .u8 0, .int .u8 0, .int .u8 0, .int .u8 0, .int .u8 0] 26)).alloc (.cells #[.int .u8 y, .int .u8 0, .int .u8 0, .int .u8 0, .int .u8 0, .int .u8 0, .int .u8 0, .int .u8 0] 26)) C A V H T F w.heap.size (w.heap.size + 1) x y pt pf hk wk al c p buf B := by
  obtain ⟨w1, hw1⟩ : ∃ w1, w1 = w.alloc (.cells #[.int .u8 x, .int .u8 0, .int .u8 0, .int .u8 0, .int .u8 0, .int .u8 0, .int .u8 0, .int .u8 0] 26) := ⟨_, rfl⟩
  have K1 : KeyAt w1 w.heap.size x := by rw [hw1]; exact ⟨cell_made rfl, cell_made rfl, cell_made rfl, cell_made rfl, cell_made rfl, cell_made rfl, cell_made rfl, cell_made rfl⟩
  have hz : w1.heap.size = w.heap.size + 1 := by rw [hw1]; simp
  have T1 : Tch (fun _ => False) w w1 := by rw [hw1]; exact (Tch.refl _ w).alloc _
  rw [← hw1, ← hz]
  have T2 : Tch (fun _ => False) w1 (w1.alloc (.cells #[.int .u8 y, .int .u8 0, .int .u8 0, .int .u8 0, .int .u8 0, .int .u8 0, .int .u8 0, .int .u8 0] 26)) := (Tch.refl _ w1).alloc _
  have M2 := hM.tch (T1.trans T2)
  exact ⟨M2.b, ⟨M2.oa, M2.ob, M2.ob', M2.oc, M2.oc', hHT, hTF, hFw, by omega, by simp, dT.tch (T1.trans T2) id, dF.tch (T1.trans T2) id, K1.tch T2 id, ⟨cell_made rfl, cell_made rfl, cell_made rfl, cell_made rfl, cell_made rfl, cell_made rfl, cell_made rfl, cell_made rfl⟩, M2.now, M2.bufd⟩⟩

set_option maxRecDepth 100000 in
set_option maxHeartbeats 1000000 in
theorem tailE2 (C A V H T F c p : Nat) (a0 a1 n : Int) (x y pt pf : Nat) (hk wk al : Bool) (buf : Array Value) (B : Nat → Nat) (oa oh : Option Addr) {s2 s3 s4 s5 s10 s11 s12 s13 s14 s15 s16 s17 s18 s19 s24 s30 s31 s32 s33 s34 s35 s36 s37 s38 s39 s40 s41 s42 s43 s44 s45 s46 s47 s48 s49 s50 s51 s52 s53 s54 s55 s56 s57 s58 s59 s60 s61 s62 s63 s64 s65 s66 s67 s68 s69 s70 s71 s72 s73 s74 s75 s76 s77 s78 s79 s80 s81 s82 s83 s84 s85 s86 s87 s88 s89 s90 s91 s92 s93 s94 s95 s96 s97 s98 s99 s100 s101 s102 s103 s104 s105 s106 s107 s108 s109 s110 s111 s112 s113 s114 s115 s116 s117 s118 s119 s120 s121 s122 s123 s124 s125 s126 s127 s128 s129 s130 s131 s132 s133 s134 s135 s136 s137 s138 s139 s140 s141 s142 s143 s144 s145 s146 s147 s148 s149 s150 s151 s152 s153 s154 s155 s156 s157 s158 s159 s160 s161 s162 s163 s164 s165 s166 s167 s168 s169 s170 s171 s172 s173 s174 s175 s176 s177 s178 s179 s180 s181 s182 s183 s184 s185 s186 s187 s188 s189 s190 s191 s192 s193 s194 s195 s196 s197 s198 s199 s200 s201 s202 s203 s204 s205 s206 s207 s208 s209 s210 s211 s212 : Value} (w0 w : World) (hc2 : c ≤ 2) (hpc : p ≤ c) (hn : wrap64 n = n)
    (hx : a0.tmod 4 = x) (hy : a1.tmod 4 = y) (hC : w0.heap.size ≤ C) (hM : Mid w0 w C A V H hk wk al c p buf B) (hHT : H < T) (hTF : T < F) (hFw : F < w.heap.size) (dT : AddrAt w T pt) (dF : AddrAt w F pf)
    (hoa : oa = if al then some ⟨A, 0, none⟩ else none) (hoh : oh = if hk then some ⟨H, 0, none⟩ else none) :
    (lawTail 12).wp Yba.prog (bodyPost Yba.prog Yba.f3 fun e w' => e = .returned (.bool true) ∧ Below w0.heap.size w0 w') ⟨#[.int .u8 a0, .int .u8 a1, s2, s3, s4, s5, .bool hk, .bool wk, .bool al, .int .i64 n, s10, s11, s12, s13, s14, s15, s16, s17, s18, s19, .bool false, .int .i64 c, .int .i64 p, .chan (some C), s24, .pointer oa, ptr V, .pointer oh, ptr T, ptr F, s30, s31, s32, s33, s34, s35, s36, s37, s38, s39, s40, s41, s42, s43, s44, s45, s46, s47, s48, s49, s50, s51, s52, s53, s54, s55, s56, s57, s58, s59, s60, s61, s62, s63, s64, s65, s66, s67, s68, s69, s70, s71, s72, s73, s74, s75, s76, s77, s78, s79, s80, s81, s82, s83, s84, s85, s86, s87, s88, s89, s90, s91, s92, s93, s94, s95, s96, s97, s98, s99, s100, s101, s102, s103, s104, s105, s106, s107, s108, s109, s110, s111, s112, s113, s114, s115, s116, s117, s118, s119, s120, s121, s122, s123, s124, s125, s126, s127, s128, s129, s130, s131, s132, s133, s134, s135, s136, s137, s138, s139, s140, s141, s142, s143, s144, s145, s146, s147, s148, s149, s150, s151, s152, s153, s154, s155, s156, s157, s158, s159, s160, s161, s162, s163, s164, s165, s166, s167, s168, s169, s170, s171, s172, s173, s174, s175, s176, s177, s178, s179, s180, s181, s182, s183, s184, s185, s186, s187, s188, s189, s190, s191, s192, s193, s194, s195, s196, s197, s198, s199, s200, s201, s202, s203, s204, s205, s206, s207, s208, s209, s210, s211, s212], []⟩ w := by
  have Hx : Hid (a0.tmod 4 = x) := hx
  have Hy : Hid (a1.tmod 4 = y) := hy
  have Hoa : Hid (oa = if al then some ⟨A, 0, none⟩ else none) := hoa
  have Hoh : Hid (oh = if hk then some ⟨H, 0, none⟩ else none) := hoh
  clear hx hy hoa hoh
  unfold lawTail
  simp only [Yba.f3, Option.getD_some, tl]
  go_upto_region 21 with fail
  go_cut [] from 46 to 212 (fun wx => Below w0.heap.size w0 wx ∧ Pre wx C A V H T F w.heap.size (w.heap.size + 1) x y pt pf hk wk al c p buf B)
  case first =>
    go_wp2_with fail
    go_meet
    rw [Hx.out, Hy.out]
    exact pre_made hM hHT hTF hFw dT dF
  case rest =>
  obtain ⟨hb, hP⟩ := hcut
  apply_assumption
  exact tailD C A V H T F w.heap.size (w.heap.size + 1) c p x y pt pf n hk wk al buf B oa oh w0 wc hc2 hpc hn hb hC hP Hoa.out Hoh.out

end Go.Proofs.Ybulkaqia
