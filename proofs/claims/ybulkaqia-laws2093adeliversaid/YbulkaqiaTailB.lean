/-
  THE LAW's WALK, from behind: how many are queued.
-/
import Derived.Test.YbulkaqiaTailA
namespace Go.Proofs.Ybulkaqia
open Go.RowKit Go.MuLone Go.Conc

theorem run_len23 {C cap s r : Nat} {buf : Array Value} {w : World} (ty : TypeId) (h : w.heap[C]? = some (.chan cap buf false s r false)) : (Builtin.len_ #[23] ty #[.chan (some C)]).run Yba.prog w = .ok (.int .i64 buf.size) w := by
  have hg := run_getObj_chan Yba.prog w h
  simp [Builtin.len_, run_underlying Yba.underlying23, hg, goInt]

/-- The first messages. -/
def Bufd (w : World) (C M p : Nat) (buf : Array Value) (B : Nat → Nat) : Prop := buf.size = p ∧ ∀ j, j < p → buf[j]? = some (ptr (B j)) ∧ C < B j ∧ B j < M ∧ Msg w (B j)

theorem holds_more {w : World} {C cap M p s r : Nat} {buf : Array Value} {tm : Bool} {B : Nat → Nat} (hb : Bufd w C M p buf B) (h : w.heap[C]? = some (.chan cap (buf.push (ptr M)) false s r tm)) : Holds w C cap 0 (p + 1) (fun j => if j < p then B j else M) := by
  obtain ⟨hs, hj⟩ := hb
  refine ⟨s, r, tm, _, h, by simp [hs], fun i hi => ?_⟩
  rw [Array.getElem?_push, Nat.zero_add]
  split
  · have : ¬ i < p := by omega
    simp [this]
  · have hi' : i < p := by omega
    rw [(hj i hi').1]; simp [hi']
theorem holds_same {w : World} {C cap M p s r : Nat} {buf : Array Value} {tm : Bool} {B : Nat → Nat} (hb : Bufd w C M p buf B) (h : w.heap[C]? = some (.chan cap buf false s r tm)) : Holds w C cap 0 p B := by
  obtain ⟨hs, hj⟩ := hb
  refine ⟨s, r, tm, _, h, by simp [hs], fun i hi => ?_⟩
  rw [Nat.zero_add]
  exact (hj i hi).1

set_option maxRecDepth 100000 in
set_option maxHeartbeats 1000000 in
theorem tailB (C c M p : Nat) (mt : Bool) (B : Nat → Nat) (buf buf' : Array Value) {s0 s1 s2 s3 s4 s5 s6 s7 s8 s9 s10 s11 s12 s13 s14 s15 s16 s17 s18 s19 s24 s25 s26 s27 s28 s29 s30 s31 s32 s33 s36 s37 s38 s39 s40 s41 s42 s43 s44 s45 s46 s47 s48 s49 s50 s51 s52 s53 s54 s55 s56 s57 s58 s59 s60 s61 s62 s63 s64 s65 s66 s67 s68 s69 s70 s71 s72 s73 s74 s75 s76 s77 s78 s79 s80 s81 s82 s83 s84 s85 s86 s87 s88 s89 s90 s91 s92 s93 s94 s95 s96 s97 s98 s99 s100 s101 s102 s103 s104 s105 s106 s107 s108 s109 s110 s111 s112 s113 s114 s115 s116 s117 s118 s119 s120 s121 s122 s123 s124 s125 s126 s127 s128 s129 s130 s131 s132 s133 s134 s135 s136 s137 s138 s139 s140 s141 s142 s143 s144 s145 s146 s147 s148 s149 s150 s151 s152 s153 s154 s155 s156 s157 s158 s159 s160 s161 s162 s163 s164 s165 s166 s167 s168 s169 s170 s171 s172 s173 s174 s175 s176 s177 s178 s179 s180 s181 s182 s183 s184 s185 s186 s187 s188 s189 s190 s191 s192 s193 s194 s195 s196 s197 s198 s199 s200 s201 s202 s203 s204 s205 s206 s207 s208 s209 s210 s211 s212 : Value} (w0 w : World) (hc2 : c ≤ 2) (hpc : p ≤ c) (hb : Below w0.heap.size w0 w) (hC : w0.heap.size ≤ C) (hbuf : Bufd w C M p buf B) (hm : Msg w M)
    (hch : ∃ s r, w.heap[C]? = some (.chan c buf' false s r false)) (hbr : mt = true → p < c → buf' = buf.push (ptr M)) (hbf : ¬ (mt = true ∧ p < c) → buf' = buf) :
    (lawTail 28).wp Yba.prog (bodyPost Yba.prog Yba.f3 fun e w' => e = .returned (.bool true) ∧ Below w0.heap.size w0 w') ⟨#[s0, s1, s2, s3, s4, s5, s6, s7, s8, s9, s10, s11, s12, s13, s14, s15, s16, s17, s18, s19, .bool false, .int .i64 c, .int .i64 p, .chan (some C), s24, s25, s26, s27, s28, s29, s30, s31, s32, s33, ptr M, .bool mt, s36, s37, s38, s39, s40, s41, s42, s43, s44, s45, s46, s47, s48, s49, s50, s51, s52, s53, s54, s55, s56, s57, s58, s59, s60, s61, s62, s63, s64, s65, s66, s67, s68, s69, s70, s71, s72, s73, s74, s75, s76, s77, s78, s79, s80, s81, s82, s83, s84, s85, s86, s87, s88, s89, s90, s91, s92, s93, s94, s95, s96, s97, s98, s99, s100, s101, s102, s103, s104, s105, s106, s107, s108, s109, s110, s111, s112, s113, s114, s115, s116, s117, s118, s119, s120, s121, s122, s123, s124, s125, s126, s127, s128, s129, s130, s131, s132, s133, s134, s135, s136, s137, s138, s139, s140, s141, s142, s143, s144, s145, s146, s147, s148, s149, s150, s151, s152, s153, s154, s155, s156, s157, s158, s159, s160, s161, s162, s163, s164, s165, s166, s167, s168, s169, s170, s171, s172, s173, s174, s175, s176, s177, s178, s179, s180, s181, s182, s183, s184, s185, s186, s187, s188, s189, s190, s191, s192, s193, s194, s195, s196, s197, s198, s199, s200, s201, s202, s203, s204, s205, s206, s207, s208, s209, s210, s211, s212], []⟩ w := by
  obtain ⟨s, r, hc⟩ := hch
  unfold lawTail
  simp only [Yba.f3, Option.getD_some, tl]
  by_cases hq : mt = true ∧ p < c
  · obtain ⟨rfl, hlt⟩ := hq
    obtain rfl := hbr rfl hlt
    clear hbr hbf
    have hltz : (p : Int) < (c : Int) := by omega
    have hl := run_len23 3 hc
    have hsz : (buf.push (ptr M)).size = p + 1 := by simp [hbuf.1]
    rw [hsz] at hl
    have hlz : (((p + 1 : Nat)) : Int) = (p : Int) + 1 := by omega
    rw [hlz] at hl
    go_upto_if 192 with fail
    go_cut [20] from 46 to 212 (fun s20 wx => s20 = .bool false ∧ w = wx)
    case first =>
      go_wp2_with fail
      go_meet
      exact ⟨rfl, rfl⟩
    case rest =>
    obtain ⟨rfl, rfl⟩ := hcut
    apply_assumption
    exact tailA C c M (p + 1) true (fun j => if j < p then B j else M) w0 w (by omega) hb hC (holds_more hbuf hc) (fun j hj hn => by
      have hj' : j < p := by
        have : j ≠ p := fun e => hn ⟨rfl, by omega⟩
        omega
      have := (hbuf.2 j hj').2.2.1
      simp only [hj', if_true]; omega) (fun _ => ⟨p, rfl, by simp⟩) hm (fun j hj => by
      by_cases hj' : j < p
      · simp only [hj', if_true]; exact (hbuf.2 j hj').2.2.2
      · simp only [hj', if_false]; exact hm)
  · obtain rfl := hbf hq
    clear hbr hbf
    have hl := run_len23 3 hc
    rw [hbuf.1] at hl
    have hd : (mt && decide ((p : Int) < (c : Int))) = false := by
      rw [Bool.and_eq_false_iff, decide_eq_false_iff_not]
      by_cases h : mt = true
      · exact .inr (fun e => hq ⟨h, by omega⟩)
      · exact .inl (by simpa using h)
    cases mt
    · go_upto_if 192 with fail
      go_cut [20] from 46 to 212 (fun s20 wx => s20 = .bool false ∧ w = wx)
      case first =>
        go_wp2_with fail
        go_meet
        exact ⟨rfl, rfl⟩
      case rest =>
      obtain ⟨rfl, rfl⟩ := hcut
      apply_assumption
      exact tailA C c M p false B w0 w (by omega) hb hC (holds_same hbuf hc) (fun j hj _ => by have := (hbuf.2 j hj).2.2.1; omega) nofun hm (fun j hj => (hbuf.2 j hj).2.2.2)
    · have hle : ¬ (p : Int) < (c : Int) := fun e => hq ⟨rfl, by omega⟩
      clear hd
      go_upto_if 192 with fail
      go_cut [20] from 46 to 212 (fun s20 wx => s20 = .bool false ∧ w = wx)
      case first =>
        go_wp2_with fail
        go_meet
        exact ⟨rfl, rfl⟩
      case rest =>
      obtain ⟨rfl, rfl⟩ := hcut
      apply_assumption
      exact tailA C c M p false B w0 w (by omega) hb hC (holds_same hbuf hc) (fun j hj _ => by have := (hbuf.2 j hj).2.2.1; omega) nofun hm (fun j hj => (hbuf.2 j hj).2.2.2)

end Go.Proofs.Ybulkaqia
