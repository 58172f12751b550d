/-
  THE LAW's WALK, from behind: the two addresses.
-/
import Derived.Test.YbulkaqiaTailE2
namespace Go.Proofs.Ybulkaqia
open Go.RowKit Go.MuLone Go.Conc

set_option maxRecDepth 100000 in
set_option maxHeartbeats 1000000 in
theorem tailE1 (C A V H c p : Nat) (a0 a1 a2 a3 n : Int) (x y pt pf : Nat) (hk wk al : Bool) (buf : Array Value) (B : Nat → Nat) (oa oh : Option Addr) {s4 s5 s10 s11 s12 s13 s14 s15 s16 s17 s18 s19 s24 s28 s29 s30 s31 s32 s33 s34 s35 s36 s37 s38 s39 s40 s41 s42 s43 s44 s45 s46 s47 s48 s49 s50 s51 s52 s53 s54 s55 s56 s57 s58 s59 s60 s61 s62 s63 s64 s65 s66 s67 s68 s69 s70 s71 s72 s73 s74 s75 s76 s77 s78 s79 s80 s81 s82 s83 s84 s85 s86 s87 s88 s89 s90 s91 s92 s93 s94 s95 s96 s97 s98 s99 s100 s101 s102 s103 s104 s105 s106 s107 s108 s109 s110 s111 s112 s113 s114 s115 s116 s117 s118 s119 s120 s121 s122 s123 s124 s125 s126 s127 s128 s129 s130 s131 s132 s133 s134 s135 s136 s137 s138 s139 s140 s141 s142 s143 s144 s145 s146 s147 s148 s149 s150 s151 s152 s153 s154 s155 s156 s157 s158 s159 s160 s161 s162 s163 s164 s165 s166 s167 s168 s169 s170 s171 s172 s173 s174 s175 s176 s177 s178 s179 s180 s181 s182 s183 s184 s185 s186 s187 s188 s189 s190 s191 s192 s193 s194 s195 s196 s197 s198 s199 s200 s201 s202 s203 s204 s205 s206 s207 s208 s209 s210 s211 s212 : Value} (w0 w : World) (hc2 : c ≤ 2) (hpc : p ≤ c) (hn : wrap64 n = n)
    (hx : a0.tmod 4 = x) (hy : a1.tmod 4 = y) (hpt : a2.tmod 4 = pt) (hpf : a3.tmod 4 = pf) (hC : w0.heap.size ≤ C) (hM : Mid w0 w C A V H hk wk al c p buf B)
    (hoa : oa = if al then some ⟨A, 0, none⟩ else none) (hoh : oh = if hk then some ⟨H, 0, none⟩ else none) :
    (lawTail 10).wp Yba.prog (bodyPost Yba.prog Yba.f3 fun e w' => e = .returned (.bool true) ∧ Below w0.heap.size w0 w') ⟨#[.int .u8 a0, .int .u8 a1, .int .u16 a2, .int .u16 a3, s4, s5, .bool hk, .bool wk, .bool al, .int .i64 n, s10, s11, s12, s13, s14, s15, s16, s17, s18, s19, .bool false, .int .i64 c, .int .i64 p, .chan (some C), s24, .pointer oa, ptr V, .pointer oh, s28, s29, s30, s31, s32, s33, s34, s35, s36, s37, s38, s39, s40, s41, s42, s43, s44, s45, s46, s47, s48, s49, s50, s51, s52, s53, s54, s55, s56, s57, s58, s59, s60, s61, s62, s63, s64, s65, s66, s67, s68, s69, s70, s71, s72, s73, s74, s75, s76, s77, s78, s79, s80, s81, s82, s83, s84, s85, s86, s87, s88, s89, s90, s91, s92, s93, s94, s95, s96, s97, s98, s99, s100, s101, s102, s103, s104, s105, s106, s107, s108, s109, s110, s111, s112, s113, s114, s115, s116, s117, s118, s119, s120, s121, s122, s123, s124, s125, s126, s127, s128, s129, s130, s131, s132, s133, s134, s135, s136, s137, s138, s139, s140, s141, s142, s143, s144, s145, s146, s147, s148, s149, s150, s151, s152, s153, s154, s155, s156, s157, s158, s159, s160, s161, s162, s163, s164, s165, s166, s167, s168, s169, s170, s171, s172, s173, s174, s175, s176, s177, s178, s179, s180, s181, s182, s183, s184, s185, s186, s187, s188, s189, s190, s191, s192, s193, s194, s195, s196, s197, s198, s199, s200, s201, s202, s203, s204, s205, s206, s207, s208, s209, s210, s211, s212], []⟩ w := by
  have Hx : Hid (a0.tmod 4 = x) := hx
  have Hy : Hid (a1.tmod 4 = y) := hy
  have Ht : Hid (a2.tmod 4 = pt) := hpt
  have Hf : Hid (a3.tmod 4 = pf) := hpf
  have Hoa : Hid (oa = if al then some ⟨A, 0, none⟩ else none) := hoa
  have Hoh : Hid (oh = if hk then some ⟨H, 0, none⟩ else none) := hoh
  clear hx hy hpt hpf hoa hoh
  unfold lawTail
  simp only [Yba.f3, Option.getD_some, tl]
  go_upto_region 17 with fail
  go_cut [28] from 46 to 212 (fun s28 wx => ∃ T, s28 = ptr T ∧ H < T ∧ T < wx.heap.size ∧ AddrAt wx T pt ∧ Mid w0 wx C A V H hk wk al c p buf B)
  case first =>
    go_wp2_with fail
    refine (from_any 0 0 (a2.tmod 4) (.pointer none) _ rfl).mono ?_
    rintro e w' ⟨rfl, hB⟩
    have M4 := hM.tch (Tch.of_below hB)
    have M5 := M4.tch ((Tch.refl _ w').alloc (.cells #[.int .u64 0, .int .u64 0, .pointer none, .int .u16 (a2.tmod 4)] 41))
    have hlt := M4.lt
    clear hB hM M4
    go_wp2_with fail
    go_meet
    exact ⟨_, rfl, hlt, by simp, ⟨cell_made rfl, cell_made rfl, cell_made rfl, (cell_made rfl).trans (by rw [← Ht.out]; rfl)⟩, M5⟩
  case rest =>
  obtain ⟨T, rfl, hHT, hTw, dT, M4⟩ := hcut
  clear hM Ht
  go_upto_region 18 with fail
  go_cut [29] from 46 to 212 (fun s29 wx => ∃ F, s29 = ptr F ∧ T < F ∧ F < wx.heap.size ∧ AddrAt wx F pf ∧ AddrAt wx T pt ∧ Mid w0 wx C A V H hk wk al c p buf B)
  case first =>
    go_wp2_with fail
    refine (from_any 0 0 (a3.tmod 4) (.pointer none) _ rfl).mono ?_
    rintro e w' ⟨rfl, hB⟩
    have T5 := (Tch.of_below hB).trans ((Tch.refl _ w').alloc (.cells #[.int .u64 0, .int .u64 0, .pointer none, .int .u16 (a3.tmod 4)] 41))
    have M5 := M4.tch T5
    have dT' := dT.tch T5 id
    have hlt : T < w'.heap.size := Nat.lt_of_lt_of_le hTw hB.size
    clear hB M4 T5 dT
    go_wp2_with fail
    go_meet
    exact ⟨_, rfl, hlt, by simp, ⟨cell_made rfl, cell_made rfl, cell_made rfl, (cell_made rfl).trans (by rw [← Hf.out]; rfl)⟩, dT', M5⟩
  case rest =>
  clear dT hTw
  obtain ⟨F, rfl, hTF, hFw, dF, dT, M5⟩ := hcut
  clear M4 Hf
  apply_assumption
  exact tailE2 C A V H T F c p a0 a1 n x y pt pf hk wk al buf B oa oh w0 wc hc2 hpc hn Hx.out Hy.out hC M5 hHT hTF hFw dT dF Hoa.out Hoh.out

end Go.Proofs.Ybulkaqia
