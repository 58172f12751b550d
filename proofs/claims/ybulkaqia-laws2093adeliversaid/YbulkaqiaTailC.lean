/-
  THE LAW's WALK, from behind: the match, the lock, the map.
-/
import Derived.Test.YbulkaqiaTailC2
namespace Go.Proofs.Ybulkaqia
open Go.RowKit Go.MuLone Go.Conc

set_option maxRecDepth 100000 in
set_option maxHeartbeats 1000000 in
theorem tailC (C A V H T F ST MT P bm E M c p : Nat) (x y pt pf n : Int) (hk wk al mt : Bool) (buf buf' : Array Value) (B : Nat → Nat) (rep wok c0 c1 : Int) (va vh : Value) {s0 s1 s2 s3 s4 s5 s10 s11 s12 s13 s14 s15 s16 s17 s18 s19 s24 s35 s36 s37 s38 s39 s40 s41 s42 s43 s44 s45 s46 s47 s48 s49 s50 s51 s52 s53 s54 s55 s56 s57 s58 s59 s60 s61 s62 s63 s64 s65 s66 s67 s68 s69 s70 s71 s72 s73 s74 s75 s76 s77 s78 s79 s80 s81 s82 s83 s84 s85 s86 s87 s88 s89 s90 s91 s92 s93 s94 s95 s96 s97 s98 s99 s100 s101 s102 s103 s104 s105 s106 s107 s108 s109 s110 s111 s112 s113 s114 s115 s116 s117 s118 s119 s120 s121 s122 s123 s124 s125 s126 s127 s128 s129 s130 s131 s132 s133 s134 s135 s136 s137 s138 s139 s140 s141 s142 s143 s144 s145 s146 s147 s148 s149 s150 s151 s152 s153 s154 s155 s156 s157 s158 s159 s160 s161 s162 s163 s164 s165 s166 s167 s168 s169 s170 s171 s172 s173 s174 s175 s176 s177 s178 s179 s180 s181 s182 s183 s184 s185 s186 s187 s188 s189 s190 s191 s192 s193 s194 s195 s196 s197 s198 s199 s200 s201 s202 s203 s204 s205 s206 s207 s208 s209 s210 s211 s212 : Value} (w0 w : World) (hc2 : c ≤ 2) (hpc : p ≤ c)
    (hb : Below w0.heap.size w0 w) (hC : w0.heap.size ≤ C) (o : Ords C A V H T F ST MT P bm E M hk al) (hF : Done w C A V H T F ST MT P bm E M x y pt pf hk wk al c p buf buf' B rep wok c0 c1)
    (hmt : mt = (decide (x = y) && decide (pt = pf))) (hrep : rep = if mt then 1 else 0) (hwok : wok = if mt && hk && wk then 1 else 0) (hc0 : c0 = if mt then 1 else 0) (hc1 : c1 = if mt then n else 0)
    (hva : va = optPtr al A) (hvh : vh = optPtr hk H) (hbr : mt = true → p < c → buf' = buf.push (ptr M)) (hbf : ¬ (mt = true ∧ p < c) → buf' = buf) :
    (lawTail 19).wp Yba.prog (bodyPost Yba.prog Yba.f3 fun e w' => e = .returned (.bool true) ∧ Below w0.heap.size w0 w') ⟨#[s0, s1, s2, s3, s4, s5, .bool hk, .bool wk, .bool al, .int .i64 n, s10, s11, s12, s13, s14, s15, s16, s17, s18, s19, .bool false, .int .i64 c, .int .i64 p, .chan (some C), s24, va, ptr V, vh, ptr T, ptr F, ptr ST, ptr MT, ptr P, ptr E, ptr M, s35, s36, s37, s38, s39, s40, s41, s42, s43, s44, s45, s46, s47, s48, s49, s50, s51, s52, s53, s54, s55, s56, s57, s58, s59, s60, s61, s62, s63, s64, s65, s66, s67, s68, s69, s70, s71, s72, s73, s74, s75, s76, s77, s78, s79, s80, s81, s82, s83, s84, s85, s86, s87, s88, s89, s90, s91, s92, s93, s94, s95, s96, s97, s98, s99, s100, s101, s102, s103, s104, s105, s106, s107, s108, s109, s110, s111, s112, s113, s114, s115, s116, s117, s118, s119, s120, s121, s122, s123, s124, s125, s126, s127, s128, s129, s130, s131, s132, s133, s134, s135, s136, s137, s138, s139, s140, s141, s142, s143, s144, s145, s146, s147, s148, s149, s150, s151, s152, s153, s154, s155, s156, s157, s158, s159, s160, s161, s162, s163, s164, s165, s166, s167, s168, s169, s170, s171, s172, s173, s174, s175, s176, s177, s178, s179, s180, s181, s182, s183, s184, s185, s186, s187, s188, s189, s190, s191, s192, s193, s194, s195, s196, s197, s198, s199, s200, s201, s202, s203, s204, s205, s206, s207, s208, s209, s210, s211, s212], []⟩ w := by
  unfold lawTail
  simp only [Yba.f3, Option.getD_some, tl]
  go_upto_region 26 with fail
  have HR : Hid (rep = if mt then 1 else 0) := hrep
  have HW : Hid (wok = if mt && hk && wk then 1 else 0) := hwok
  have HA : Hid (va = optPtr al A) := hva
  have HH : Hid (vh = optPtr hk H) := hvh
  have H0 : Hid (c0 = if mt then 1 else 0) := hc0
  have H1 : Hid (c1 = if mt then n else 0) := hc1
  have HB : Hid (mt = true → p < c → buf' = buf.push (ptr M)) := hbr
  have HB' : Hid (¬ (mt = true ∧ p < c) → buf' = buf) := hbf
  clear hrep hwok hc0 hc1 hbr hbf hva hvh
  go_cut [35] from 46 to 212 (fun s35 wx => s35 = .bool mt ∧ w = wx)
  case first =>
    obtain ⟨k0, k1, k2, k3, k4, k5, k6, k7⟩ := hF.st
    obtain ⟨m0, m1, m2, m3, m4, m5, m6, m7⟩ := hF.mtx
    obtain ⟨d0, d1, d2, d3⟩ := hF.dst
    obtain ⟨f0, f1, f2, f3⟩ := hF.src
    by_cases hxy : x = y
    · by_cases hp : pt = pf
      · go_wp2_with fail
        go_meet
        exact ⟨by rw [hmt]; simp [hxy, hp], rfl⟩
      · go_wp2_with fail
        go_meet
        exact ⟨by rw [hmt]; simp [hp], rfl⟩
    · go_wp2_with fail
      go_meet
      exact ⟨by rw [hmt]; simp [hxy], rfl⟩
  case rest =>
  obtain ⟨rfl, rfl⟩ := hcut
  clear hmt
  have hl := hF.l
  go_wp2_with fail
  refine (trylock ⟨E, 318, none⟩ _ hl.mu hl.fz).mono ?_
  rintro e w1 ⟨rfl, hw1⟩
  have d1 : w1.cell? ⟨E, 318, none⟩ = some (.int .i32 1) := by rw [hw1]; exact World.cell?_setCell_same _ _ _ hl.mu
  have g1 : w1.frozen? ⟨E, 318, none⟩ = false := by rw [hw1, World.frozen?_setCell]; exact hl.fz
  have e1 : w1.cell? ⟨E, 320, none⟩ = some (.map (some bm)) := by rw [hw1, World.cell?_setCell_other _ _ _ _ (by simp)]; exact hl.pend
  have T1 : Tch (· = E) w w1 := by rw [hw1]; exact (Tch.refl _ w).setCell _ _ rfl
  clear hw1
  go_wp2_with fail
  refine (unlock_held muLib ⟨E, 318, none⟩ _ d1 g1).mono ?_
  rintro e w2 ⟨rfl, hw2⟩
  have T2 : Tch (· = E) w w2 := by rw [hw2]; exact T1.setCell _ _ rfl
  have l2 : Lk w2 E bm := by
    refine ⟨?_, ?_, ?_⟩
    · rw [hw2]; exact World.cell?_setCell_same _ _ _ d1
    · rw [hw2, World.frozen?_setCell]; exact g1
    · rw [hw2, World.cell?_setCell_other _ _ _ _ (by simp)]; exact e1
  have F2 := hF.turn o T2 l2
  have b2 : Below w0.heap.size w0 w2 := T2.below hb hb.size (fun k e => by subst e; have := o.o; obtain ⟨oa, ob, ob', oc, oc', od, oe, of, og⟩ := this; omega)
  clear hw2 d1 g1 e1 T1 T2 l2 hl hF hb
  obtain ⟨k0, k1, k2, k3, k4, k5, k6, k7⟩ := F2.st
  have e2 := F2.l.pend
  have hlk := fun k : Nat => run_look x x (ptr P) bm 0 1 (w2.drewN k) F2.map
  have hln := fun k : Nat => run_len65 ⟨keyV x, ptr P, 0⟩ bm 1 3 (w2.drewN k) F2.map
  simp only [if_true] at hlk
  go_wp2_with fail
  go_quiet (fail)
  clear k0 k1 k2 k3 k4 k5 k6 k7 e2 hlk hln
  go_upto_if 141 with fail
  go_cut [20] from 46 to 212 (fun s20 wx => s20 = .bool false ∧ Done wx C A V H T F ST MT P bm E M x y pt pf hk wk al c p buf buf' B rep wok c0 c1 ∧ Below w0.heap.size w0 wx)
  case first =>
    go_wp2_with fail
    go_meet
    have T3 : Tch (· = E) w2 (w2.drewN nq) := (Tch.refl _ w2).drewN nq
    have T4 : Tch (fun _ => False) w2 (w2.drewN nq) := (Tch.refl _ w2).drewN nq
    exact ⟨rfl, F2.turn o T3 (F2.l.tch T4 id), T4.below b2 b2.size nofun⟩
  case rest =>
  obtain ⟨rfl, F3, b3⟩ := hcut
  clear F2 b2
  apply_assumption
  exact tailC2 C A V H T F ST MT P bm E M c p x y pt pf n hk wk al mt buf buf' B rep wok c0 c1 va vh w0 wc hc2 hpc b3 hC o F3 HR.out HW.out H0.out H1.out HA.out HH.out HB.out HB'.out

end Go.Proofs.Ybulkaqia
