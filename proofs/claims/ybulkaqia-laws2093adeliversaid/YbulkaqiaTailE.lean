/-
  THE LAW's WALK, from behind: the counter, the closure's variable, the hook.
-/
import Derived.Test.YbulkaqiaTailE1
namespace Go.Proofs.Ybulkaqia
open Go.RowKit Go.MuLone Go.Conc

set_option maxRecDepth 100000 in
set_option maxHeartbeats 1000000 in
theorem tailE (C c p : Nat) (a0 a1 a2 a3 n : Int) (x y pt pf : Nat) (hk wk al : Bool) (buf : Array Value) (B : Nat → Nat) {s4 s5 s10 s11 s12 s13 s14 s15 s16 s17 s18 s19 s24 s25 s26 s27 s28 s29 s30 s31 s32 s33 s34 s35 s36 s37 s38 s39 s40 s41 s42 s43 s44 s45 s46 s47 s48 s49 s50 s51 s52 s53 s54 s55 s56 s57 s58 s59 s60 s61 s62 s63 s64 s65 s66 s67 s68 s69 s70 s71 s72 s73 s74 s75 s76 s77 s78 s79 s80 s81 s82 s83 s84 s85 s86 s87 s88 s89 s90 s91 s92 s93 s94 s95 s96 s97 s98 s99 s100 s101 s102 s103 s104 s105 s106 s107 s108 s109 s110 s111 s112 s113 s114 s115 s116 s117 s118 s119 s120 s121 s122 s123 s124 s125 s126 s127 s128 s129 s130 s131 s132 s133 s134 s135 s136 s137 s138 s139 s140 s141 s142 s143 s144 s145 s146 s147 s148 s149 s150 s151 s152 s153 s154 s155 s156 s157 s158 s159 s160 s161 s162 s163 s164 s165 s166 s167 s168 s169 s170 s171 s172 s173 s174 s175 s176 s177 s178 s179 s180 s181 s182 s183 s184 s185 s186 s187 s188 s189 s190 s191 s192 s193 s194 s195 s196 s197 s198 s199 s200 s201 s202 s203 s204 s205 s206 s207 s208 s209 s210 s211 s212 : Value} (w0 w : World) (hc2 : c ≤ 2) (hpc : p ≤ c) (hn : wrap64 n = n)
    (hx : a0.tmod 4 = x) (hy : a1.tmod 4 = y) (hpt : a2.tmod 4 = pt) (hpf : a3.tmod 4 = pf)
    (hb : Below w0.heap.size w0 w) (hC : w0.heap.size ≤ C) (hlt : C < w.heap.size) (hch : ∃ s r, w.heap[C]? = some (.chan c buf false s r false)) (hbuf : Bufd w C w.heap.size p buf B) :
    (lawTail 5).wp Yba.prog (bodyPost Yba.prog Yba.f3 fun e w' => e = .returned (.bool true) ∧ Below w0.heap.size w0 w') ⟨#[.int .u8 a0, .int .u8 a1, .int .u16 a2, .int .u16 a3, s4, s5, .bool hk, .bool wk, .bool al, .int .i64 n, s10, s11, s12, s13, s14, s15, s16, s17, s18, s19, .bool false, .int .i64 c, .int .i64 p, .chan (some C), s24, s25, s26, s27, s28, s29, s30, s31, s32, s33, s34, s35, s36, s37, s38, s39, s40, s41, s42, s43, s44, s45, s46, s47, s48, s49, s50, s51, s52, s53, s54, s55, s56, s57, s58, s59, s60, s61, s62, s63, s64, s65, s66, s67, s68, s69, s70, s71, s72, s73, s74, s75, s76, s77, s78, s79, s80, s81, s82, s83, s84, s85, s86, s87, s88, s89, s90, s91, s92, s93, s94, s95, s96, s97, s98, s99, s100, s101, s102, s103, s104, s105, s106, s107, s108, s109, s110, s111, s112, s113, s114, s115, s116, s117, s118, s119, s120, s121, s122, s123, s124, s125, s126, s127, s128, s129, s130, s131, s132, s133, s134, s135, s136, s137, s138, s139, s140, s141, s142, s143, s144, s145, s146, s147, s148, s149, s150, s151, s152, s153, s154, s155, s156, s157, s158, s159, s160, s161, s162, s163, s164, s165, s166, s167, s168, s169, s170, s171, s172, s173, s174, s175, s176, s177, s178, s179, s180, s181, s182, s183, s184, s185, s186, s187, s188, s189, s190, s191, s192, s193, s194, s195, s196, s197, s198, s199, s200, s201, s202, s203, s204, s205, s206, s207, s208, s209, s210, s211, s212], []⟩ w := by
  have Hx : Hid (a0.tmod 4 = x) := hx
  have Hy : Hid (a1.tmod 4 = y) := hy
  have Ht : Hid (a2.tmod 4 = pt) := hpt
  have Hf : Hid (a3.tmod 4 = pf) := hpf
  clear hx hy hpt hpf
  have hmf : ∀ fn first cap (w : World), (Instr.makeFunc fn first cap).run Yba.prog w = .ok (.func fn first cap) w := fun _ _ _ _ => rfl
  unfold lawTail
  simp only [Yba.f3, Option.getD_some, tl]
  go_upto_if 64 with fail
  go_cut [25] from 46 to 212 (fun s25 wx => ∃ (oa : Option Addr) (A : Nat), s25 = .pointer oa ∧ oa = (if al then some ⟨A, 0, none⟩ else none) ∧ Mid1 w0 wx C A al c p buf B)
  case first =>
    cases al
    · go_wp2_with fail
      go_meet
      exact ⟨none, w.heap.size, rfl, rfl, hb, hlt, Nat.le_refl _, nofun, hch, nofun, nofun, nofun, nofun, hbuf⟩
    · have T : Tch (fun _ => False) w (w.alloc (.cells #[.int .i64 0, .int .i64 0] 52)) := (Tch.refl _ w).alloc _
      go_wp2_with fail
      go_meet
      obtain ⟨s, r, hc⟩ := hch
      exact ⟨some ⟨w.heap.size, 0, none⟩, w.heap.size, rfl, rfl, T.below hb hb.size nofun, hlt, by simp, fun _ => by simp, ⟨s, r, (T.block C hlt id).trans hc⟩, fun _ => cell_made rfl, fun _ => cell_made rfl, fun _ => frozen_made _ _ _ _, fun _ => frozen_made _ _ _ _, hbuf.tch T (fun _ _ _ => id)⟩
  case rest =>
  obtain ⟨oa, A, rfl, hoa, M1⟩ := hcut
  have Hoa : Hid (oa = if al then some ⟨A, 0, none⟩ else none) := hoa
  clear hoa hb hlt hch hbuf
  go_upto_region 11 with fail
  go_cut [26] from 46 to 212 (fun s26 wx => ∃ V, s26 = ptr V ∧ Mid w0 wx C A V V false wk al c p buf B)
  case first =>
    have M2 := M1.woke (wk := wk)
    clear M1
    go_wp2_with fail
    go_meet
    exact ⟨_, rfl, M2⟩
  case rest =>
  obtain ⟨V, rfl, M2⟩ := hcut
  clear M1
  go_upto_if 67 with fail
  go_cut [27] from 46 to 212 (fun s27 wx => ∃ (oh : Option Addr) (H : Nat), s27 = .pointer oh ∧ oh = (if hk then some ⟨H, 0, none⟩ else none) ∧ Mid w0 wx C A V H hk wk al c p buf B)
  case first =>
    cases hk
    · go_wp2_with fail
      go_meet
      exact ⟨none, V, rfl, rfl, M2⟩
    · cases wk
      · have M3 := M2.hooked .nilFunc rfl 59
        clear M2
        go_wp2_with fail
        go_meet
        exact ⟨_, _, rfl, rfl, M3⟩
      · have M3 := M2.hooked (wokeV V) rfl 59
        clear M2
        go_wp2_with fail
        go_meet
        exact ⟨_, _, rfl, rfl, M3⟩
  case rest =>
  obtain ⟨oh, H, rfl, hoh, M3⟩ := hcut
  have Hoh : Hid (oh = if hk then some ⟨H, 0, none⟩ else none) := hoh
  clear hoh M2 hmf
  apply_assumption
  exact tailE1 C A V H c p a0 a1 a2 a3 n x y pt pf hk wk al buf B oa oh w0 wc hc2 hpc hn Hx.out Hy.out Ht.out Hf.out hC M3 Hoa.out Hoh.out

end Go.Proofs.Ybulkaqia
