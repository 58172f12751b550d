/-
  THE LAW's WALK, from behind: the second loop and the end.
-/
import Derived.Test.YbulkaqiaMade
import Derived.LaidEqlPtr
namespace Go.Proofs.Ybulkaqia
open Go.RowKit Go.MuLone Go.Conc

/-- What follows the n-th statement. -/
def tl : Nat → Code → Code
  | 0, c => c
  | n + 1, .seq _ b => tl n b
  | _ + 1, c => c
noncomputable def lawTail (n : Nat) : Code := tl n (Yba.f3.body.getD .skip)

/-- A build, whatever it makes. -/
theorem Reg.build {P : Program} {ops : Array Oper} {Q : Exit → Act → World → Prop} {a : Act} {w : World} {i : Nat} {rest : List Nat} {o : Oper} (ho : ops[i]? = some o) (hg : o.guard = none) (t : TypeId) (parts : Array (Nat × Operand)) (hop : o.op = .build t parts) {v : Value}
    {vs : Array (Nat × Value)} (hv : parts.map (fun (j, x) => (j, a.eval x)) = vs) (h : (Instr.build t vs).run P w = .ok v w) (k : Reg P ops rest Q (a.put o.dst v) w) : Reg P ops (i :: rest) Q a w := by
  refine Reg.value ho hg ⟨v, w, ?_, k⟩
  unfold execOp
  rw [hop]
  simp only [hv, Sem.run_bind, h, Result.andThen_ok, Sem.run_pure]

/-- A block of plain cells. -/
def Msg (w : World) (b : Nat) : Prop := ∃ cs t, w.heap[b]? = some (.cells cs t (0, 0))
theorem Msg.tch {S : Nat → Prop} {w w' : World} {b : Nat} (h : Msg w b) (ht : Tch S w w') (hs : ¬ S b) : Msg w' b := by
  obtain ⟨cs, t, e⟩ := h
  exact ⟨cs, t, (ht.block b (heap_lt e) hs).trans e⟩
theorem Msg.recvd {w : World} {b C cap s r s' r' : Nat} {buf buf' : Array Value} {tm tm' : Bool} (h : Msg w b) (hc : w.heap[C]? = some (.chan cap buf false s r tm)) : Msg (w.setChan C cap buf' false s' r' tm') b :=
  h.tch ((Tch.refl (· = C) w).setChan _ _ _ _ _ _ _ rfl) (by rintro rfl; obtain ⟨cs, t, e⟩ := h; rw [e] at hc; cases hc)

theorem info44 : ∃ j, Yba.prog.info? 44 = some j ∧ j.size ≠ 0 := by
  have h : (Yba.prog.info? 44).map (·.size) = some 246 := by kernel_rfl
  obtain ⟨i, hi, hb⟩ := Option.map_eq_some_iff.1 h
  exact ⟨i, hi, by rw [hb]; decide⟩
theorem run_eql_msg (b : Nat) (w : World) : (binOp .eql 24 (ptr b) (ptr b)).run Yba.prog w = .ok (.bool true) w := by
  obtain ⟨j, hj, _⟩ := info44
  exact run_eql_ptr_same w _ Yba.underlying24 hj
theorem run_neq_msg (b : Nat) (w : World) : (binOp .neq 24 (ptr b) (ptr b)).run Yba.prog w = .ok (.bool false) w := by
  obtain ⟨j, hj, _⟩ := info44
  have h : ∀ d : Nat, (Op.equalIn (d + 1) 24 (ptr b) (ptr b)).run Yba.prog w = .ok true w := fun d => by
    simp [Op.equalIn, run_underlying Yba.underlying24, sizeOf, typeInfo, hj, run_sameAddr_same]
  simp only [binOp]
  simp [Op.equal, Op.maxDepth, h 9999]
theorem run_eql_msgs {a b : Nat} {w : World} (hne : a ≠ b) (ha : Msg w a) (hb : Msg w b) : (binOp .eql 24 (ptr a) (ptr b)).run Yba.prog w = .ok (.bool false) w := by
  obtain ⟨j, hj, hz⟩ := info44
  obtain ⟨ca, ta, ha⟩ := ha
  obtain ⟨cb, tb, hb⟩ := hb
  exact run_eql_ptr_other w Yba.underlying24 hj hz (fun e => hne (congrArg Addr.block (Option.some.inj (congrArg some e)))) ha hb

/-- The channel holds pointers to these blocks. -/
def Holds (w : World) (C cap j n : Nat) (B : Nat → Nat) : Prop :=
  ∃ (s r : Nat) (tm : Bool) (buf : Array Value), w.heap[C]? = some (.chan cap buf false s r tm) ∧ buf.size = n - j ∧ ∀ i, i < n - j → buf[i]? = some (ptr (B (j + i)))

theorem Holds.step {w : World} {C cap j n s r : Nat} {B : Nat → Nat} {tm : Bool} {buf : Array Value} (hj : j < n) (hc : w.heap[C]? = some (.chan cap buf false s r tm)) (hs : buf.size = n - j) (hb : ∀ i, i < n - j → buf[i]? = some (ptr (B (j + i)))) :
    Holds (w.setChan C cap (buf.extract 1 buf.size) false s (r + 1) tm) C cap (j + 1) n B := by
  refine ⟨s, r + 1, tm, buf.extract 1 buf.size, ?_, by simp; omega, fun i hi => ?_⟩
  · simp only [World.setChan]
    rw [Array.getElem?_setIfInBounds_self_of_lt (heap_lt hc)]
  · rw [Array.getElem?_extract]
    simp only [show i < min buf.size buf.size - 1 from by omega, if_true]
    rw [hb (1 + i) (by omega)]
    congr 3; omega

theorem below_recvd {w0 w : World} {C cap s r : Nat} {buf : Array Value} {tm : Bool} (h : Below w0.heap.size w0 w) (hC : w0.heap.size ≤ C) : Below w0.heap.size w0 (w.setChan C cap buf false s r tm) :=
  ((Tch.refl (· = C) w).setChan _ _ _ _ _ _ _ rfl).below h h.size (fun k e => by subst e; exact hC)

set_option maxRecDepth 100000 in
set_option maxHeartbeats 1000000 in
theorem tailA (C cap M n : Nat) (q : Bool) (B : Nat → Nat) {s0 s1 s2 s3 s4 s5 s6 s7 s8 s9 s10 s11 s12 s13 s14 s15 s16 s17 s18 s19 s21 s22 s24 s25 s26 s27 s28 s29 s30 s31 s32 s33 s35 s36 s37 s38 s40 s42 s43 s44 s45 s46 s47 s48 s49 s50 s51 s52 s53 s54 s55 s56 s57 s58 s59 s60 s61 s62 s63 s64 s65 s66 s67 s68 s69 s70 s71 s72 s73 s74 s75 s76 s77 s78 s79 s80 s81 s82 s83 s84 s85 s86 s87 s88 s89 s90 s91 s92 s93 s94 s95 s96 s97 s98 s99 s100 s101 s102 s103 s104 s105 s106 s107 s108 s109 s110 s111 s112 s113 s114 s115 s116 s117 s118 s119 s120 s121 s122 s123 s124 s125 s126 s127 s128 s129 s130 s131 s132 s133 s134 s135 s136 s137 s138 s139 s140 s141 s142 s143 s144 s145 s146 s147 s148 s149 s150 s151 s152 s153 s154 s155 s156 s157 s158 s159 s160 s161 s162 s163 s164 s165 s166 s167 s168 s169 s170 s171 s172 s173 s174 s175 s176 s177 s178 s179 s180 s181 s182 s183 s184 s185 s186 s187 s188 s189 s190 s191 s192 s193 s194 s195 s196 s197 s198 s199 s200 s201 s202 s203 s204 s205 s206 s207 s208 s209 s210 s211 s212 : Value} (w0 w : World) (hn : n ≤ 1000) (hb : Below w0.heap.size w0 w) (hC : w0.heap.size ≤ C) (hh : Holds w C cap 0 n B) (hB0 : ∀ j, j < n → ¬ (q = true ∧ j + 1 = n) → B j ≠ M) (hB1 : q = true → ∃ j, n = j + 1 ∧ B j = M) (hm : Msg w M) (hms : ∀ j, j < n → Msg w (B j)) :
    (lawTail 33).wp Yba.prog (bodyPost Yba.prog Yba.f3 fun e w' => e = .returned (.bool true) ∧ Below w0.heap.size w0 w') ⟨#[s0, s1, s2, s3, s4, s5, s6, s7, s8, s9, s10, s11, s12, s13, s14, s15, s16, s17, s18, s19, .bool false, s21, s22, .chan (some C), s24, s25, s26, s27, s28, s29, s30, s31, s32, s33, ptr M, s35, s36, s37, s38, .bool q, s40, .int .i64 n, s42, s43, s44, s45, s46, s47, s48, s49, s50, s51, s52, s53, s54, s55, s56, s57, s58, s59, s60, s61, s62, s63, s64, s65, s66, s67, s68, s69, s70, s71, s72, s73, s74, s75, s76, s77, s78, s79, s80, s81, s82, s83, s84, s85, s86, s87, s88, s89, s90, s91, s92, s93, s94, s95, s96, s97, s98, s99, s100, s101, s102, s103, s104, s105, s106, s107, s108, s109, s110, s111, s112, s113, s114, s115, s116, s117, s118, s119, s120, s121, s122, s123, s124, s125, s126, s127, s128, s129, s130, s131, s132, s133, s134, s135, s136, s137, s138, s139, s140, s141, s142, s143, s144, s145, s146, s147, s148, s149, s150, s151, s152, s153, s154, s155, s156, s157, s158, s159, s160, s161, s162, s163, s164, s165, s166, s167, s168, s169, s170, s171, s172, s173, s174, s175, s176, s177, s178, s179, s180, s181, s182, s183, s184, s185, s186, s187, s188, s189, s190, s191, s192, s193, s194, s195, s196, s197, s198, s199, s200, s201, s202, s203, s204, s205, s206, s207, s208, s209, s210, s211, s212], []⟩ w := by
  unfold lawTail
  simp only [Yba.f3, Option.getD_some, tl]
  go_wp2_with fail
  go_loopg [42, 43, 44] n (fun g s42 s43 s44 wx => ∃ (j : Nat) (f : Bool), j ≤ n ∧ g = n - j ∧ s44 = .int .i64 j ∧ s43 = .bool f ∧ f = (q && decide (j = n)) ∧ ((j = 0 ∧ s42 = .pointer none) ∨ ∃ k, j = k + 1 ∧ s42 = ptr (B k)) ∧ Below w0.heap.size w0 wx ∧ Holds wx C cap j n B ∧ Msg wx M ∧ ∀ j, j < n → Msg wx (B j))
  case atStart =>
    refine ⟨0, false, Nat.zero_le _, rfl, rfl, rfl, ?_, .inl ⟨rfl, rfl⟩, hb, hh, hm, hms⟩
    cases q
    · rfl
    · obtain ⟨j, rfl, _⟩ := hB1 rfl
      simp
  case round =>
    obtain ⟨j, f, hj, rfl, rfl, rfl, hf, hlast, hbr, hhr, hm', hms'⟩ := hrel
    clear hb hh hm hms
    by_cases hjn : j < n
    · have hjz : (j : Int) < (n : Int) := by omega
      obtain rfl : f = false := by rw [hf]; simp; omega
      clear hlast hf
      obtain ⟨s, r, tm, buf, hc, hsz, hbuf⟩ := hhr
      have h0 : buf.getD 0 undef = ptr (B j) := by
        have := hbuf 0 (by omega)
        simp only [Array.getD_eq_getD_getElem?, this, Option.getD_some]; rfl
      have H1 := Holds.step hjn hc hsz hbuf
      have hb1 := below_recvd (cap := cap) (s := s) (r := r + 1) (buf := buf.extract 1 buf.size) (tm := tm) hbr hC
      have HM : Hid (∀ j, j < n → Msg (wr.setChan C cap (buf.extract 1 buf.size) false s (r + 1) tm) (B j)) := fun j hj => (hms' j hj).recvd hc
      have Hm := hm'.recvd (buf' := buf.extract 1 buf.size) (s' := s) (r' := r + 1) (tm' := tm) hc
      clear hms' hm'
      have HB : Hid (∀ j, j < n → ¬ (q = true ∧ j + 1 = n) → B j ≠ M) := hB0
      have HB1 : Hid (q = true → ∃ j, n = j + 1 ∧ B j = M) := hB1
      have hpos : 0 < buf.size := by omega
      clear hB0 hB1 hbuf hsz
      go_upto_region 57 with fail
      refine wp_of_reg ?_
      show Reg _ _ [0, 1, 2] _ _ _
      refine Reg.value (by rfl) (by rfl) ?_
      go_simp
      refine ⟨_, _, ⟨rfl, rfl⟩, ?_⟩
      refine Reg.recv (z := .pointer none) (by rfl) (by rfl) (by go_simp; rfl) hc hpos ?_
      rw [h0]
      refine Reg.value (by rfl) (by rfl) ?_
      go_simp
      refine ⟨_, _, ⟨rfl, rfl⟩, ?_⟩
      refine Reg.nil ?_
      generalize World.setChan wr C cap (buf.extract 1 buf.size) false s (r + 1) tm = wn at *
      clear hc h0 hbr hpos
      by_cases hM : B j = M
      · have hq : q = true ∧ j + 1 = n := Classical.byContradiction fun h => HB.out j hjn h hM
        obtain ⟨rfl, hjn1⟩ := hq
        subst hM
        have heq := run_eql_msg (B j) wn
        go_wp2_with fail
        go_roundg (n - (j + 1))
        case measure => omega
        case rel => exact ⟨j + 1, true, by omega, rfl, by go_num, rfl, by simp [hjn1], .inr ⟨j, rfl, rfl⟩, hb1, H1, Hm, HM.out⟩
      · have hq : (q && decide (j + 1 = n)) = false := by
          rw [Bool.and_eq_false_iff]
          cases hqq : q
          · exact .inl rfl
          · right
            obtain ⟨k, hk, hkM⟩ := HB1.out hqq
            simp only [decide_eq_false_iff_not]
            intro e
            exact hM ((show k = j by omega) ▸ hkM)
        have Hq : Hid ((q && decide (j + 1 = n)) = false) := hq
        clear hq
        have heq := run_eql_msgs hM (HM.out j hjn) Hm
        go_wp2_with fail
        go_roundg (n - (j + 1))
        case measure => omega
        case rel => exact ⟨j + 1, false, by omega, rfl, by go_num, rfl, Hq.out.symm, .inr ⟨j, rfl, rfl⟩, hb1, H1, Hm, HM.out⟩
    · have hjn' : j = n := by omega
      subst hjn'
      simp only [decide_true, Bool.and_true] at hf
      subst hf
      clear hhr
      cases f
      · clear hlast hB0 hB1
        go_wp2
        go_ret
        exact ⟨rfl, hbr⟩
      · obtain ⟨k, rfl, hk⟩ := hB1 rfl
        rcases hlast with ⟨h, _⟩ | ⟨k', hk', rfl⟩
        · omega
        · obtain rfl : k' = k := by omega
          subst hk
          clear hB0 hB1
          have heq := run_neq_msg (B k') wr
          go_wp2
          go_ret
          exact ⟨rfl, hbr⟩

end Go.Proofs.Ybulkaqia
