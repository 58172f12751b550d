/-
  THE LAW's WALK, from behind: the request, the map, the endpoint, the message, the delivery.
-/
import Derived.Test.YbulkaqiaTailC
namespace Go.Proofs.Ybulkaqia
open Go.RowKit Go.MuLone Go.Conc

/-- An operation that yields nothing. -/
theorem Reg.unit {P : Program} {ops : Array Oper} {Q : Exit → Act → World → Prop} {a : Act} {w : World} {i : Nat} {rest : List Nat} {o : Oper} (ho : ops[i]? = some o) (hg : o.guard = none)
    (h : ∃ w', (execOp a.eval o).run P w = .ok .skip w' ∧ Reg P ops rest Q (a.put o.dst undef) w') : Reg P ops (i :: rest) Q a w := by
  obtain ⟨w', hr, h⟩ := h
  refine Reg.step (fun b k cs => ?_) h
  have hfin : (b.at a (.inRegion ops (i :: rest) :: k)).finish undef = b.at (a.put o.dst undef) (.inRegion ops rest :: k) := by
    rw [Frame.finish_at, ho]; rfl
  refine step_lone_go ?_
  rw [stepG_op ho (wanted_plain hg), ← hfin]
  simp [stepG.apply, hr]

/-- Ahead of the request. -/
structure Pre (w : World) (C A V H T F ST MT : Nat) (x y pt pf : Int) (hk wk al : Bool) (c p : Nat) (buf : Array Value) (B : Nat → Nat) : Prop where
  oa : C < A
  ob : A ≤ V
  ob' : al = true → A < V
  oc : V ≤ H
  oc' : hk = true → V < H
  t : H < T
  f : T < F
  s : F < ST
  m : ST < MT
  lt : MT < w.heap.size
  dst : AddrAt w T pt
  src : AddrAt w F pf
  st : KeyAt w ST x
  mtx : KeyAt w MT y
  now : Now w C A V H hk wk al c buf 0 0 0 0
  bufd : Bufd w C A p buf B

theorem Pre.tch {S : Nat → Prop} {w w' : World} {C A V H T F ST MT c p : Nat} {x y pt pf : Int} {hk wk al : Bool} {buf : Array Value} {B : Nat → Nat} (h : Pre w C A V H T F ST MT x y pt pf hk wk al c p buf B) (ht : Tch S w w') (hs : ∀ k, k < w.heap.size → ¬ S k) : Pre w' C A V H T F ST MT x y pt pf hk wk al c p buf B := by
  obtain ⟨oa, ob, ob', oc, oc', t, f, s, m, lt, dst, src, st, mtx, now, bufd⟩ := h
  have := ht.size
  exact ⟨oa, ob, ob', oc, oc', t, f, s, m, by omega, dst.tch ht (hs _ (by omega)), src.tch ht (hs _ (by omega)), st.tch ht (hs _ (by omega)), mtx.tch ht (hs _ (by omega)), now.tch ht (hs _ (by omega)) (hs _ (by omega)) (fun _ => hs _ (by omega)) (fun _ => hs _ (by omega)), bufd.tch ht (fun k _ _ => hs _ (by omega))⟩

/-- Behind the delivery, whichever way it went. -/
def Delivered (w0 w : World) (C A V H T F ST MT P bm E M : Nat) (x y pt pf n : Int) (hk wk al : Bool) (c p : Nat) (buf : Array Value) (B : Nat → Nat) : Prop :=
  ∃ (mt : Bool) (buf' : Array Value) (rep wok c0 c1 : Int), mt = (decide (x = y) && decide (pt = pf)) ∧ Below w0.heap.size w0 w ∧ Done w C A V H T F ST MT P bm E M x y pt pf hk wk al c p buf buf' B rep wok c0 c1 ∧
    (rep = if mt then 1 else 0) ∧ (wok = if mt && hk && wk then 1 else 0) ∧ (c0 = if mt then 1 else 0) ∧ (c1 = if mt then n else 0) ∧ (mt = true → p < c → buf' = buf.push (ptr M)) ∧ (¬ (mt = true ∧ p < c) → buf' = buf)

section
variable {w0 w w' : World} {C A V H T F ST MT P bm E M c p : Nat} {x y pt pf n : Int} {hk wk al : Bool} {buf : Array Value} {B : Nat → Nat}
theorem delivered_not (hC : w0.heap.size ≤ C) (o : Ords C A V H T F ST MT P bm E M hk al) (hb : Below w0.heap.size w0 w) (D : Done w C A V H T F ST MT P bm E M x y pt pf hk wk al c p buf buf B 0 0 0 0) (hne : x ≠ y ∨ pt ≠ pf) (ht : Tch (· = E) w w') (hl : Lk w' E bm) :
    Delivered w0 w' C A V H T F ST MT P bm E M x y pt pf n hk wk al c p buf B := by
  have hm : (decide (x = y) && decide (pt = pf)) = false := by
    rw [Bool.and_eq_false_iff, decide_eq_false_iff_not, decide_eq_false_iff_not]; exact hne
  obtain ⟨⟨oa, ob, ob', oc, oc', od, oe, of, og⟩, t, f, st, mt, p⟩ := id o
  exact ⟨false, buf, 0, 0, 0, 0, hm.symm, ht.below hb hb.size (fun k e => by omega), D.turn o ht hl, rfl, rfl, rfl, rfl, nofun, fun _ => rfl⟩
theorem delivered_hit (hC : w0.heap.size ≤ C) (o : Ords C A V H T F ST MT P bm E M hk al) (hb : Below w0.heap.size w0 w) (D : Done w C A V H T F ST MT P bm E M x y pt pt hk wk al c p buf buf B 0 0 0 0) (hxy : x = y)
    (I : Inv w w' C A V H P bm E pt hk wk al c (if buf.size < c then buf.push (ptr M) else buf) 1 (if hk && wk then 1 else 0) 1 n) : Delivered w0 w' C A V H T F ST MT P bm E M x y pt pt n hk wk al c p buf B := by
  obtain ⟨⟨oa, ob, ob', oc, oc', od, oe, of, og⟩, t, f, st, mt, p⟩ := id o
  refine ⟨true, _, 1, _, 1, n, by simp [hxy], I.t.below hb hb.size (fun k e => by unfold Msk at e; omega), ⟨I.l, (I.t.block bm (heap_lt D.map) (by unfold Msk; omega)).trans D.map, D.dst.tch I.t (by unfold Msk; omega), D.src.tch I.t (by unfold Msk; omega), D.st.tch I.t (by unfold Msk; omega), D.mtx.tch I.t (by unfold Msk; omega), I.n, D.bufd.tch I.t (fun k h1 h2 => by unfold Msk; omega), D.msg.tch I.t (by unfold Msk; omega)⟩, rfl, by simp, rfl, rfl, fun _ h => ?_, fun h => ?_⟩
  · rw [if_pos (by rw [D.bufd.1]; exact h)]
  · rw [if_neg (by rw [D.bufd.1]; exact fun e => h ⟨rfl, e⟩)]
end

set_option maxRecDepth 100000 in
set_option maxHeartbeats 1000000 in
theorem tailD (C A V H T F ST MT c p : Nat) (x y pt pf n : Int) (hk wk al : Bool) (buf : Array Value) (B : Nat → Nat) (oa oh : Option Addr) {s0 s1 s2 s3 s4 s5 s10 s11 s12 s13 s14 s15 s16 s17 s18 s19 s24 s32 s33 s34 s35 s36 s37 s38 s39 s40 s41 s42 s43 s44 s45 s46 s47 s48 s49 s50 s51 s52 s53 s54 s55 s56 s57 s58 s59 s60 s61 s62 s63 s64 s65 s66 s67 s68 s69 s70 s71 s72 s73 s74 s75 s76 s77 s78 s79 s80 s81 s82 s83 s84 s85 s86 s87 s88 s89 s90 s91 s92 s93 s94 s95 s96 s97 s98 s99 s100 s101 s102 s103 s104 s105 s106 s107 s108 s109 s110 s111 s112 s113 s114 s115 s116 s117 s118 s119 s120 s121 s122 s123 s124 s125 s126 s127 s128 s129 s130 s131 s132 s133 s134 s135 s136 s137 s138 s139 s140 s141 s142 s143 s144 s145 s146 s147 s148 s149 s150 s151 s152 s153 s154 s155 s156 s157 s158 s159 s160 s161 s162 s163 s164 s165 s166 s167 s168 s169 s170 s171 s172 s173 s174 s175 s176 s177 s178 s179 s180 s181 s182 s183 s184 s185 s186 s187 s188 s189 s190 s191 s192 s193 s194 s195 s196 s197 s198 s199 s200 s201 s202 s203 s204 s205 s206 s207 s208 s209 s210 s211 s212 : Value} (w0 w : World) (hc2 : c ≤ 2) (hpc : p ≤ c) (hn : wrap64 n = n)
    (hb : Below w0.heap.size w0 w) (hC : w0.heap.size ≤ C) (hP : Pre w C A V H T F ST MT x y pt pf hk wk al c p buf B) (hva : oa = if al then some ⟨A, 0, none⟩ else none) (hvh : oh = if hk then some ⟨H, 0, none⟩ else none) :
    (lawTail 15).wp Yba.prog (bodyPost Yba.prog Yba.f3 fun e w' => e = .returned (.bool true) ∧ Below w0.heap.size w0 w') ⟨#[s0, s1, s2, s3, s4, s5, .bool hk, .bool wk, .bool al, .int .i64 n, s10, s11, s12, s13, s14, s15, s16, s17, s18, s19, .bool false, .int .i64 c, .int .i64 p, .chan (some C), s24, .pointer oa, ptr V, .pointer oh, ptr T, ptr F, ptr ST, ptr MT, s32, s33, s34, s35, s36, s37, s38, s39, s40, s41, s42, s43, s44, s45, s46, s47, s48, s49, s50, s51, s52, s53, s54, s55, s56, s57, s58, s59, s60, s61, s62, s63, s64, s65, s66, s67, s68, s69, s70, s71, s72, s73, s74, s75, s76, s77, s78, s79, s80, s81, s82, s83, s84, s85, s86, s87, s88, s89, s90, s91, s92, s93, s94, s95, s96, s97, s98, s99, s100, s101, s102, s103, s104, s105, s106, s107, s108, s109, s110, s111, s112, s113, s114, s115, s116, s117, s118, s119, s120, s121, s122, s123, s124, s125, s126, s127, s128, s129, s130, s131, s132, s133, s134, s135, s136, s137, s138, s139, s140, s141, s142, s143, s144, s145, s146, s147, s148, s149, s150, s151, s152, s153, s154, s155, s156, s157, s158, s159, s160, s161, s162, s163, s164, s165, s166, s167, s168, s169, s170, s171, s172, s173, s174, s175, s176, s177, s178, s179, s180, s181, s182, s183, s184, s185, s186, s187, s188, s189, s190, s191, s192, s193, s194, s195, s196, s197, s198, s199, s200, s201, s202, s203, s204, s205, s206, s207, s208, s209, s210, s211, s212], []⟩ w := by
  have HA : Hid (oa = if al then some ⟨A, 0, none⟩ else none) := hva
  have HH : Hid (oh = if hk then some ⟨H, 0, none⟩ else none) := hvh
  clear hva hvh
  unfold lawTail
  simp only [Yba.f3, Option.getD_some, tl]
  go_upto_region 22 with fail
  obtain ⟨P, hPz⟩ : ∃ P, P = w.heap.size := ⟨_, rfl⟩
  go_cut [32] from 46 to 212 (fun s32 wx => s32 = ptr P ∧ P < wx.heap.size ∧ Tch (fun _ => False) w wx ∧ Req wx P C A H pt hk al)
  case first =>
    subst hPz
    obtain ⟨d0, d1, d2, d3⟩ := hP.dst
    go_wp2_with fail
    go_meet
    refine ⟨rfl, by simp, (Tch.refl _ w).alloc _, ⟨⟨cell_made rfl, cell_made rfl, cell_made rfl, cell_made rfl⟩, cell_made rfl, ?_, ?_⟩⟩
    · exact (cell_made (v := .pointer oa) rfl).trans (by rw [HA.out])
    · exact (cell_made (v := .pointer oh) rfl).trans (by rw [HH.out])
  case rest =>
  obtain ⟨w1, hw1⟩ : ∃ w1, w1 = wc := ⟨_, rfl⟩
  subst hw1
  obtain ⟨rfl, lt1, T1, R1⟩ := hcut
  have hMP : MT < P := by rw [hPz]; exact hP.lt
  clear hPz
  go_upto_region 23 with fail
  go_cut [33] from 46 to 212 (fun s33 wx => ∃ bm E, s33 = ptr E ∧ P < bm ∧ bm < E ∧ E < wx.heap.size ∧ Tch (fun _ => False) w1 wx ∧ Lk wx E bm ∧ wx.heap[bm]? = some (.map #[⟨keyV x, ptr P, 0⟩] 1))
  case first =>
    obtain ⟨k0, k1, k2, k3, k4, k5, k6, k7⟩ := (hP.tch T1 (fun _ _ => id)).st
    have hst : ST < w1.heap.size := Nat.lt_trans (hP.tch T1 (fun _ _ => id)).m (hP.tch T1 (fun _ _ => id)).lt
    have hins := run_insert x (ptr P) w1
    obtain ⟨cs, hcs, hlk⟩ := mk112 w1.heap.size
    have hmm : (Instr.makeMap 65 none).run Yba.prog w1 = .ok (.map (some w1.heap.size)) (w1.alloc (.map #[] 0)) := rfl
    have T2 : Tch (fun _ => False) w1 ((w1.alloc (.map #[⟨keyV x, ptr P, 0⟩] 1)).alloc (.cells cs 112)) := ((Tch.refl _ w1).alloc _).alloc _
    have hz2 : (w1.alloc (.map #[⟨keyV x, ptr P, 0⟩] 1)).heap.size = w1.heap.size + 1 := by simp
    have hL : Lk ((w1.alloc (.map #[⟨keyV x, ptr P, 0⟩] 1)).alloc (.cells cs 112)) (w1.heap.size + 1) w1.heap.size := hz2 ▸ hlk (w1.alloc (.map #[⟨keyV x, ptr P, 0⟩] 1))
    have hM : ((w1.alloc (.map #[⟨keyV x, ptr P, 0⟩] 1)).alloc (.cells cs 112)).heap[w1.heap.size]? = some (.map #[⟨keyV x, ptr P, 0⟩] 1) := (heap_alloc_old _ _ (by rw [hz2]; omega)).trans (heap_alloc_new w1 _)
    refine wp_of_reg ?_
    show Reg _ _ [0, 1, 2, 3, 4, 5, 6, 7] _ _ _
    refine Reg.value (by rfl) (by rfl) ?_
    go_simp
    refine ⟨_, _, ⟨rfl, rfl⟩, ?_⟩
    refine Reg.value (by rfl) (by rfl) ?_
    go_simp
    refine ⟨_, _, ⟨rfl, rfl⟩, ?_⟩
    refine Reg.value (by rfl) (by rfl) ?_
    go_simp
    refine ⟨_, _, ⟨rfl, rfl⟩, ?_⟩
    refine Reg.unit (by rfl) (by rfl) ?_
    go_simp
    refine Reg.value (by rfl) (by rfl) ?_
    go_simp
    refine ⟨_, _, ⟨rfl, rfl⟩, ?_⟩
    refine Reg.build (by rfl) (by rfl) 112 #[(11, .tmp 98)] rfl (vs := #[(11, .map (some w1.heap.size))]) (by go_simp) (hcs _) ?_
    refine Reg.value (by rfl) (by rfl) ?_
    go_simp
    refine ⟨_, _, ⟨rfl, rfl⟩, ?_⟩
    refine Reg.value (by rfl) (by rfl) ?_
    go_simp
    refine ⟨_, _, ⟨rfl, rfl⟩, ?_⟩
    refine Reg.nil ?_
    clear hins hcs hlk hmm k0 k1 k2 k3 k4 k5 k6 k7
    go_wp2_with fail
    go_meet
    exact ⟨w1.heap.size, w1.heap.size + 1, rfl, lt1, by omega, by simp, T2, hL, hM⟩
  case rest =>
  obtain ⟨w2, hw2⟩ : ∃ w2, w2 = wc := ⟨_, rfl⟩
  subst hw2
  obtain ⟨bm, E, rfl, lt2, lt3, lt4, T2, L2, hmap2⟩ := hcut
  have T02 := T1.trans T2
  go_upto_region 24 with fail
  go_cut [34] from 46 to 212 (fun s34 wx => ∃ M, s34 = ptr M ∧ E < M ∧ M < wx.heap.size ∧ Tch (fun _ => False) w2 wx ∧ Txn wx M y ∧ Msg wx M)
  case first =>
    obtain ⟨k0, k1, k2, k3, k4, k5, k6, k7⟩ := (hP.tch T02 (fun _ _ => id)).mtx
    obtain ⟨cs, hcs, htx⟩ := mk44' y
    have T3 : Tch (fun _ => False) w2 (w2.alloc (.cells cs 44)) := (Tch.refl _ w2).alloc _
    refine wp_of_reg ?_
    show Reg _ _ [0, 1, 2, 3] _ _ _
    refine Reg.value (by rfl) (by rfl) ?_
    go_simp
    refine ⟨_, _, ⟨rfl, rfl⟩, ?_⟩
    refine Reg.build (by rfl) (by rfl) 44 #[(1, .tmp 101)] rfl (vs := #[(1, keyV y)]) (by go_simp) (hcs _) ?_
    refine Reg.value (by rfl) (by rfl) ?_
    go_simp
    refine ⟨_, _, ⟨rfl, rfl⟩, ?_⟩
    refine Reg.value (by rfl) (by rfl) ?_
    go_simp
    refine ⟨_, _, ⟨rfl, rfl⟩, ?_⟩
    refine Reg.nil ?_
    clear hcs k0 k1 k2 k3 k4 k5 k6 k7
    go_wp2_with fail
    go_meet
    exact ⟨w2.heap.size, rfl, lt4, by simp, T3, htx w2, ⟨cs, 44, heap_alloc_new w2 _⟩⟩
  case rest =>
  obtain ⟨w3, hw3⟩ : ∃ w3, w3 = wc := ⟨_, rfl⟩
  subst hw3
  obtain ⟨M, rfl, lt5, lt6, T3, hT, hMsg⟩ := hcut
  have T03 := T02.trans T3
  have P3 := hP.tch T03 (fun _ _ => id)
  have R3 := R1.tch (T2.trans T3) id
  have L3 := L2.tch T3 id
  have hmap3 : w3.heap[bm]? = some (.map #[⟨keyV x, ptr P, 0⟩] 1) := (T3.block bm (heap_lt hmap2) id).trans hmap2
  have b3 : Below w0.heap.size w0 w3 := T03.below hb hb.size nofun
  have o : Ords C A V H T F ST MT P bm E M hk al := by
    have h1 := P3.t; have h2 := P3.f; have h3 := P3.s; have h4 := P3.m
    exact ⟨⟨P3.oa, P3.ob, P3.ob', P3.oc, P3.oc', by omega, lt2, lt3, lt5⟩, h1, h2, h3, h4, hMP⟩
  have D3 : Done w3 C A V H T F ST MT P bm E M x y pt pf hk wk al c p buf buf B 0 0 0 0 := ⟨L3, hmap3, P3.dst, P3.src, P3.st, P3.mtx, P3.now, P3.bufd, hMsg⟩
  clear hP T1 T2 T3 T02 T03 R1 L2 hmap2 hb lt1 lt4 hMP
  go_upto_region 25 with fail
  go_cut [] from 46 to 212 (fun wx => Delivered w0 wx C A V H T F ST MT P bm E M x y pt pf n hk wk al c p buf B)
  case first =>
    obtain ⟨f0, f1, f2, f3⟩ := P3.src
    obtain ⟨⟨oa, ob, ob', oc, oc', od, oe, of, og⟩, ot, of', os, om, op⟩ := id o
    by_cases hxy : x = y
    · have hans : Answers w3 bm y (ptr P) := fun wx e => by
        have := run_look y x (ptr P) bm 0 1 wx (e.trans hmap3)
        rwa [if_pos hxy.symm] at this
      by_cases hp : pt = pf
      · subst hp
        go_wp2_with fail
        refine (deliver_hit E M bm P C A V H y pt n hk wk al c buf w3 o.o lt6 L3 hT R3 P3.now hans (if buf.size < c then buf.push (ptr M) else buf) (if hk && wk then 1 else 0) 1 n (fun h => (if_pos h).symm) (fun h => (if_neg h).symm) (fun h h' => by subst h; subst h'; rfl) (fun h => by rcases h with h | h <;> subst h <;> simp) ((IntWalk.wrap64_in (0 + 1) (by omega)).trans (by omega)) (by rw [Int.zero_add]; exact hn)).mono ?_
        rintro e w4 ⟨rfl, I⟩
        have R : Delivered w0 w4 C A V H T F ST MT P bm E M x y pt pt n hk wk al c p buf B := delivered_hit hC o b3 D3 hxy I
        clear I
        go_wp2_with fail
        go_meet
        exact R
      · go_wp2_with fail
        refine (deliver_other E M bm P y pt pf n w3 (heap_lt hmap3) (by omega) (by omega) (by omega) hp L3.mu L3.fz L3.pend hT R3.dest hans).mono ?_
        rintro e w4 ⟨rfl, T4, l1, l2, l3⟩
        have R : Delivered w0 w4 C A V H T F ST MT P bm E M x y pt pf n hk wk al c p buf B := delivered_not hC o b3 D3 (.inr hp) T4 ⟨l1, l2, l3⟩
        clear T4 l1 l2 l3
        go_wp2_with fail
        go_meet
        exact R
    · have hans : Answers w3 bm y (.pointer none) := fun wx e => by
        have := run_look y x (ptr P) bm 0 1 wx (e.trans hmap3)
        rwa [if_neg (fun h => hxy h.symm)] at this
      go_wp2_with fail
      refine (deliver_none E M bm y pf n w3 (heap_lt hmap3) (by omega) (by omega) L3.mu L3.fz L3.pend hT hans).mono ?_
      rintro e w4 ⟨rfl, T4, l1, l2, l3⟩
      have R : Delivered w0 w4 C A V H T F ST MT P bm E M x y pt pf n hk wk al c p buf B := delivered_not hC o b3 D3 (.inl hxy) T4 ⟨l1, l2, l3⟩
      clear T4 l1 l2 l3
      go_wp2_with fail
      go_meet
      exact R
  case rest =>
  obtain ⟨mt, buf', rep, wok, c0, c1, hmt, hb4, D4, h1, h2, h3, h4, h5, h6⟩ := hcut
  apply_assumption
  exact tailC C A V H T F ST MT P bm E M c p x y pt pf n hk wk al mt buf buf' B rep wok c0 c1 (.pointer oa) (.pointer oh) w0 wc hc2 hpc hb4 hC o D4 hmt h1 h2 h3 h4 (by rw [HA.out]) (by rw [HH.out]) h5 h6

end Go.Proofs.Ybulkaqia
