/-
  THE LAW's WALK, from behind: the counter.
-/
import Derived.Test.YbulkaqiaTailB
namespace Go.Proofs.Ybulkaqia
open Go.RowKit Go.MuLone Go.Conc

@[go_sem] theorem run_equalIn_key (d : Nat) (p q : Int) (w : World) : (Op.equalIn (d + 1 + 1) 26 (keyV p) (keyV q)).run Yba.prog w = .ok (p == q) w := by
  obtain ⟨i, hi⟩ : ∃ i, Yba.prog.info? 5 = some i := Option.isSome_iff_exists.mp (by kernel_rfl)
  have hc : Yba.prog.cellsOf 5 = 1 := by kernel_rfl
  rw [run_equalIn_array w (d + 1) _ _ Yba.underlying26 hi, hc]
  by_cases h : p = q <;> simp [h, Op.eqItems, go_sem, List.range, List.range.loop]

theorem info63 : ∃ j, Yba.prog.info? 63 = some j ∧ j.size ≠ 0 := by
  have h : (Yba.prog.info? 63).map (·.size) = some 7 := by kernel_rfl
  obtain ⟨i, hi, hb⟩ := Option.map_eq_some_iff.1 h
  exact ⟨i, hi, by rw [hb]; decide⟩
@[go_sem] theorem run_neq_req (b : Nat) (w : World) : (binOp .neq 61 (.pointer (some ⟨b, 0, none⟩)) (.pointer (some ⟨b, 0, none⟩))).run Yba.prog w = .ok (.bool false) w := by
  obtain ⟨j, hj, _⟩ := info63
  have h : ∀ d : Nat, (Op.equalIn (d + 1) 61 (.pointer (some ⟨b, 0, none⟩)) (.pointer (some ⟨b, 0, none⟩))).run Yba.prog w = .ok true w := fun d => by
    simp [Op.equalIn, run_underlying Yba.underlying61, sizeOf, typeInfo, hj, run_sameAddr_same]
  simp only [binOp]
  simp [Op.equal, Op.maxDepth, h 9999]

/-- A transaction number in eight cells. -/
def KeyAt (w : World) (b : Nat) (x : Int) : Prop :=
  w.cell? ⟨b, 0, none⟩ = some (.int .u8 x) ∧ w.cell? ⟨b, 1, none⟩ = some (.int .u8 0) ∧ w.cell? ⟨b, 2, none⟩ = some (.int .u8 0) ∧ w.cell? ⟨b, 3, none⟩ = some (.int .u8 0) ∧
  w.cell? ⟨b, 4, none⟩ = some (.int .u8 0) ∧ w.cell? ⟨b, 5, none⟩ = some (.int .u8 0) ∧ w.cell? ⟨b, 6, none⟩ = some (.int .u8 0) ∧ w.cell? ⟨b, 7, none⟩ = some (.int .u8 0)
theorem KeyAt.tch {S : Nat → Prop} {w w' : World} {b : Nat} {x : Int} (h : KeyAt w b x) (ht : Tch S w w') (hs : ¬ S b) : KeyAt w' b x := by
  obtain ⟨h0, h1, h2, h3, h4, h5, h6, h7⟩ := h
  exact ⟨ht.cell h0 hs, ht.cell h1 hs, ht.cell h2 hs, ht.cell h3 hs, ht.cell h4 hs, ht.cell h5 hs, ht.cell h6 hs, ht.cell h7 hs⟩

/-- The law's blocks lie in the order of their making. -/
structure Ords (C A V H T F ST MT P bm E M : Nat) (hk al : Bool) : Prop where
  o : Ord C A V H P bm E M hk al
  t : H < T
  f : T < F
  st : F < ST
  mt : ST < MT
  p : MT < P

/-- Behind the delivery. -/
structure Done (w : World) (C A V H T F ST MT P bm E M : Nat) (x y pt pf : Int) (hk wk al : Bool) (c p : Nat) (buf buf' : Array Value) (B : Nat → Nat) (rep wok c0 c1 : Int) : Prop where
  l : Lk w E bm
  map : w.heap[bm]? = some (.map #[⟨keyV x, ptr P, 0⟩] 1)
  dst : AddrAt w T pt
  src : AddrAt w F pf
  st : KeyAt w ST x
  mtx : KeyAt w MT y
  now : Now w C A V H hk wk al c buf' rep wok c0 c1
  bufd : Bufd w C A p buf B
  msg : Msg w M

theorem Bufd.tch {S : Nat → Prop} {w w' : World} {C M p : Nat} {buf : Array Value} {B : Nat → Nat} (h : Bufd w C M p buf B) (ht : Tch S w w') (hs : ∀ k, C < k → k < M → ¬ S k) : Bufd w' C M p buf B :=
  ⟨h.1, fun j hj => ⟨(h.2 j hj).1, (h.2 j hj).2.1, (h.2 j hj).2.2.1, (h.2 j hj).2.2.2.tch ht (hs _ (h.2 j hj).2.1 (h.2 j hj).2.2.1)⟩⟩
theorem Bufd.mono {w : World} {C M M' p : Nat} {buf : Array Value} {B : Nat → Nat} (h : Bufd w C M p buf B) (hM : M ≤ M') : Bufd w C M' p buf B :=
  ⟨h.1, fun j hj => ⟨(h.2 j hj).1, (h.2 j hj).2.1, Nat.lt_of_lt_of_le (h.2 j hj).2.2.1 hM, (h.2 j hj).2.2.2⟩⟩

section
variable {w w' : World} {C A V H T F ST MT P bm E M c p : Nat} {x y pt pf rep wok c0 c1 : Int} {hk wk al : Bool} {buf buf' : Array Value} {B : Nat → Nat}
/-- The endpoint's own block turned (its lock), or nothing did. -/
theorem Done.turn (h : Done w C A V H T F ST MT P bm E M x y pt pf hk wk al c p buf buf' B rep wok c0 c1) (o : Ords C A V H T F ST MT P bm E M hk al) (ht : Tch (· = E) w w') (hl : Lk w' E bm) :
    Done w' C A V H T F ST MT P bm E M x y pt pf hk wk al c p buf buf' B rep wok c0 c1 := by
  obtain ⟨⟨oa, ob, ob', oc, oc', od, oe, of, og⟩, t, f, st, mt, p⟩ := o
  exact ⟨hl, (ht.block bm (heap_lt h.map) (by omega)).trans h.map, h.dst.tch ht (by omega), h.src.tch ht (by omega), h.st.tch ht (by omega), h.mtx.tch ht (by omega), h.now.tch ht (by omega) (by omega) (fun _ => by omega) (fun _ => by omega), h.bufd.tch ht (fun k _ _ => by omega), h.msg.tch ht (by omega)⟩
end

set_option maxRecDepth 100000 in
set_option maxHeartbeats 1000000 in
theorem tailC3 (C A V H T F ST MT P bm E M c p : Nat) (x y pt pf n : Int) (hk wk al mt : Bool) (buf buf' : Array Value) (B : Nat → Nat) (rep wok c0 c1 : Int) (va : Value) {s0 s1 s2 s3 s4 s5 s6 s7 s10 s11 s12 s13 s14 s15 s16 s17 s18 s19 s24 s26 s27 s28 s29 s30 s31 s32 s33 s36 s37 s38 s39 s40 s41 s42 s43 s44 s45 s46 s47 s48 s49 s50 s51 s52 s53 s54 s55 s56 s57 s58 s59 s60 s61 s62 s63 s64 s65 s66 s67 s68 s69 s70 s71 s72 s73 s74 s75 s76 s77 s78 s79 s80 s81 s82 s83 s84 s85 s86 s87 s88 s89 s90 s91 s92 s93 s94 s95 s96 s97 s98 s99 s100 s101 s102 s103 s104 s105 s106 s107 s108 s109 s110 s111 s112 s113 s114 s115 s116 s117 s118 s119 s120 s121 s122 s123 s124 s125 s126 s127 s128 s129 s130 s131 s132 s133 s134 s135 s136 s137 s138 s139 s140 s141 s142 s143 s144 s145 s146 s147 s148 s149 s150 s151 s152 s153 s154 s155 s156 s157 s158 s159 s160 s161 s162 s163 s164 s165 s166 s167 s168 s169 s170 s171 s172 s173 s174 s175 s176 s177 s178 s179 s180 s181 s182 s183 s184 s185 s186 s187 s188 s189 s190 s191 s192 s193 s194 s195 s196 s197 s198 s199 s200 s201 s202 s203 s204 s205 s206 s207 s208 s209 s210 s211 s212 : Value} (w0 w : World) (hc2 : c ≤ 2) (hpc : p ≤ c) (hb : Below w0.heap.size w0 w) (hC : w0.heap.size ≤ C) (o : Ords C A V H T F ST MT P bm E M hk al) (hF : Done w C A V H T F ST MT P bm E M x y pt pf hk wk al c p buf buf' B rep wok c0 c1)
    (hc0 : c0 = if mt then 1 else 0) (hc1 : c1 = if mt then n else 0) (hva : va = optPtr al A) (hbr : mt = true → p < c → buf' = buf.push (ptr M)) (hbf : ¬ (mt = true ∧ p < c) → buf' = buf) :
    (lawTail 27).wp Yba.prog (bodyPost Yba.prog Yba.f3 fun e w' => e = .returned (.bool true) ∧ Below w0.heap.size w0 w') ⟨#[s0, s1, s2, s3, s4, s5, s6, s7, .bool al, .int .i64 n, s10, s11, s12, s13, s14, s15, s16, s17, s18, s19, .bool false, .int .i64 c, .int .i64 p, .chan (some C), s24, va, s26, s27, s28, s29, s30, s31, s32, s33, ptr M, .bool mt, s36, s37, s38, s39, s40, s41, s42, s43, s44, s45, s46, s47, s48, s49, s50, s51, s52, s53, s54, s55, s56, s57, s58, s59, s60, s61, s62, s63, s64, s65, s66, s67, s68, s69, s70, s71, s72, s73, s74, s75, s76, s77, s78, s79, s80, s81, s82, s83, s84, s85, s86, s87, s88, s89, s90, s91, s92, s93, s94, s95, s96, s97, s98, s99, s100, s101, s102, s103, s104, s105, s106, s107, s108, s109, s110, s111, s112, s113, s114, s115, s116, s117, s118, s119, s120, s121, s122, s123, s124, s125, s126, s127, s128, s129, s130, s131, s132, s133, s134, s135, s136, s137, s138, s139, s140, s141, s142, s143, s144, s145, s146, s147, s148, s149, s150, s151, s152, s153, s154, s155, s156, s157, s158, s159, s160, s161, s162, s163, s164, s165, s166, s167, s168, s169, s170, s171, s172, s173, s174, s175, s176, s177, s178, s179, s180, s181, s182, s183, s184, s185, s186, s187, s188, s189, s190, s191, s192, s193, s194, s195, s196, s197, s198, s199, s200, s201, s202, s203, s204, s205, s206, s207, s208, s209, s210, s211, s212], []⟩ w := by
  unfold lawTail
  simp only [Yba.f3, Option.getD_some, tl]
  have H0 : Hid (c0 = if mt then 1 else 0) := hc0
  have H1 : Hid (c1 = if mt then n else 0) := hc1
  have HB : Hid (mt = true → p < c → buf' = buf.push (ptr M)) := hbr
  have HB' : Hid (¬ (mt = true ∧ p < c) → buf' = buf) := hbf
  have HA : Hid (va = optPtr al A) := hva
  clear hc0 hc1 hbr hbf hva
  go_upto_if 161 with fail
  go_cut [20, 37, 38] from 46 to 212 (fun s20 _ _ wx => s20 = .bool false ∧ Done wx C A V H T F ST MT P bm E M x y pt pf hk wk al c p buf buf' B rep wok c0 c1 ∧ Below w0.heap.size w0 wx)
  case first =>
    cases al
    · go_wp2_with fail
      go_meet
      exact ⟨rfl, hF, hb⟩
    · obtain rfl : va = ptr A := HA.out
      have h0 := hF.now.cnt0 rfl
      have h1 := hF.now.cnt1 rfl
      cases mt
      · obtain rfl : c0 = 0 := H0.out
        obtain rfl : c1 = 0 := H1.out
        go_wp2_with fail
        refine (iload ⟨A, 0, none⟩ 0 _ h0).mono ?_
        rintro e w' ⟨rfl, rfl⟩
        go_wp2_with fail
        refine (iload ⟨A, 1, none⟩ 0 _ h1).mono ?_
        rintro e w' ⟨rfl, rfl⟩
        go_wp2_with fail
        go_meet
        exact ⟨rfl, hF, hb⟩
      · obtain rfl : c0 = 1 := H0.out
        obtain rfl : c1 = n := H1.out
        go_wp2_with fail
        refine (iload ⟨A, 0, none⟩ 1 _ h0).mono ?_
        rintro e w' ⟨rfl, rfl⟩
        go_wp2_with fail
        refine (iload ⟨A, 1, none⟩ _ _ h1).mono ?_
        rintro e w' ⟨rfl, rfl⟩
        go_wp2_with fail
        go_meet
        exact ⟨rfl, hF, hb⟩
  case rest =>
  obtain ⟨rfl, F7, b7⟩ := hcut
  clear hF hb
  apply_assumption
  have hAM : A ≤ M := by
    obtain ⟨⟨oa, ob, ob', oc, oc', od, oe, of, og⟩, t, f, st, mt, p⟩ := o
    omega
  exact tailB C c M p mt B buf buf' w0 wc hc2 hpc b7 hC (F7.bufd.mono hAM) F7.msg F7.now.chan HB.out HB'.out

end Go.Proofs.Ybulkaqia
