/-
  LawS2063CFilter: THE ROW, PROVED.
-/
import Derived.Test.YbulkaprwFilterZero
import Derived.ProofKit
import Derived.SizedLaws
import Derived.Deep.Strs
namespace Go.Proofs.Ybulkaprw.Filter
open Go.ChangeShapes Go.WideShapes Go.ChangeAt Go.RowKit Go.Deep

theorem own : ownKnob Yba.prog.godebug = none := by kernel_rfl
theorem laidOut : laidOutB Yba.prog = true := by kernel_rfl
theorem cells39 : Yba.prog.cellsOf 39 = 3 := by kernel_rfl
theorem cells9 : Yba.prog.cellsOf 9 = 1 := by kernel_rfl
theorem cells4 : Yba.prog.cellsOf 4 = 1 := by kernel_rfl

theorem weights_mem {H : Type} {P : Program} {e : TypeId} : ∀ {l : List (DataW H)} {d : DataW H}, d ∈ l → ∀ n ∈ d.weights P e, n ∈ DataW.weightsAll P e l
  | x :: r, d, h, n, hn => by
    unfold DataW.weightsAll
    rw [List.mem_append]
    rcases List.mem_cons.1 h with rfl | h
    · exact Or.inl hn
    · exact Or.inr (weights_mem h n hn)

/-- The argument, opened: nil; or a slice whose elements lie three cells each. -/
theorem open_apps {H : Type} {enc : TypeId × Value → H} {w : World} {base fuel : Nat} {sp : Nat → Bool} {held : Bool} {v : Value} {x : DataW H × List MemPlace} (h : DataW.trod enc Yba.prog w base sp held fuel 35 [v] = some x) :
    v = .slice none 0 0 ∨ ∃ (a : Addr) (n cap : Nat) (R : Nat → ByteArray) (L K : Nat → Bool), v = .slice (some a) n cap ∧
      (∀ j, j < n → (R j).data.toList.length ∈ x.1.weights Yba.prog 35) ∧ (n = 0 ∨ ∃ b off, a = ⟨b, off, none⟩ ∧ b < w.heap.size ∧ Apps w b off n R L K) := by
  rcases open_slice Yba.underlying35 h with ⟨h1, _⟩ | ⟨a, n, cap, m, fu, D, Pl, hcs, hb, hl, hm, hmm, rfl, hx⟩
  · exact Or.inl (by simpa using h1)
  · right
    have hcs' : v = .slice (some a) n cap := by simpa using hcs
    have hnm : n ≤ m := by rw [hmm]; split <;> omega
    have each : ∀ i, i < n → ∃ y : ByteArray × Bool × Bool, w.cell? (a.add (i * 3)) = some (.string y.1) ∧ w.cell? ((a.add (i * 3)).add 1) = some (.bool y.2.1) ∧ w.cell? ((a.add (i * 3)).add 2) = some (.bool y.2.2) ∧
        ∃ d1 d2, D i = .agg [.lit (.string y.1.data.toList), d1, d2] := fun i hi => by
      obtain ⟨cs', c1, c2⟩ := hx i (by omega)
      rw [cells39] at c1
      obtain ⟨_, hlen, hcell⟩ := World.cells?_some c1
      obtain ⟨y0, y1, y2, n', hD, _, t0, t1, t2⟩ := trod_struct3 Yba.underlying39 c2
      match cs', hlen with
      | [p0, p1, p2], _ =>
        simp [cells9, cells4] at t0 t1 t2
        obtain ⟨s, e0, rfl, _⟩ := DataW.trod_string Yba.underlying9 t0
        obtain ⟨l, e1, rfl⟩ := DataW.trod_bool Yba.underlying4 t1
        obtain ⟨k, e2, rfl⟩ := DataW.trod_bool Yba.underlying4 t2
        simp at e0 e1 e2
        subst e0 e1 e2
        have g0 := hcell 0 (by omega)
        have g1 := hcell 1 (by omega)
        have g2 := hcell 2 (by omega)
        simp at g0 g1 g2
        refine ⟨(s, l, k), ?_, g1, g2, ?_⟩
        · simpa [Addr.add] using g0
        · simp only [Prod.mk.injEq] at hD
          exact ⟨_, _, hD.1⟩
    have hinh : Inhabited (ByteArray × Bool × Bool) := ⟨(⟨#[]⟩, false, false)⟩
    obtain ⟨Y, hY⟩ := choose_lt each
    refine ⟨a, n, cap, fun i => (Y i).1, fun i => (Y i).2.1, fun i => (Y i).2.2, hcs', fun j hj => ?_, ?_⟩
    · obtain ⟨_, _, _, d1, d2, hD⟩ := hY j hj
      show _ ∈ DataW.weights Yba.prog 35 (.slice ((List.range n).map D) _)
      unfold DataW.weights
      rw [Yba.underlying35]
      refine List.mem_cons_of_mem _ (List.mem_append_left _ (weights_mem (d := D j) (List.mem_map.2 ⟨j, List.mem_range.2 hj, rfl⟩) _ ?_))
      rw [hD]
      simp [DataW.weights, Yba.underlying39, DataW.weightsEach]
    · by_cases h0 : n = 0
      · exact Or.inl h0
      · right
        obtain ⟨b, off, spot⟩ := a
        have hs0 := (hY 0 (by omega)).1
        have hspot : spot = none := by simpa [Addr.add] using World.cell?_spot hs0
        subst hspot
        refine ⟨b, off, rfl, ?_, fun j hj => ?_⟩
        · have := World.block_lt_of_cell? w _ hs0
          simpa [Addr.add] using this
        · obtain ⟨h1, h2, h3, _⟩ := hY j hj
          rw [add_plain] at h1 h2 h3
          rw [add_plain] at h2 h3
          exact ⟨h1, h2, h3⟩

set_option maxRecDepth 100000 in
theorem lifted (os : Os) (started : os.Started) (H : Type) (enc : TypeId × Value → H) :
    ReturnsInHanded {} Yba.checked os 4 .any (Rows.lawS2063CFilterSpec.pre6 enc Yba.prog Yba.f4 Rows.lawS2063CFilterRow.domain false) (Rows.lawS2063CFilterSpec.post enc Yba.prog Yba.f4 false true false false) := by
  refine returnsInHanded_of_change_sized (C := Yba.checked) own started (by kernel_rfl) Yba.func4
    (ChangeSpec.witness6 (enc := enc) (C := Yba.checked) false ⟨#[], #[.slice none 0 0], []⟩ 8 (by kernel_rfl) (by kernel_rfl) (by kernel_rfl) (by kernel_rfl)) ?_
  intro W base args ds gs before hval0 hW _ hsz0 _
  have hval : ∀ (j : Nat) t v, Yba.f4.params[j]? = some t → args[j]? = some v → Value.okWide Yba.prog W .any base t v := hval0
  have hW' := hW
  obtain ⟨p, q, hA0, hV, rfl, _, _⟩ := hW
  have hA : DataW.TrodAll enc Yba.prog W 0 (fun _ => true) true Yba.f4.params.toList args.toList ds p := hA0
  have hsz : (DataW.weightsEach Yba.prog (Yba.f4.params.toList ++ Rows.lawS2063CFilterSpec.plain.varTypes Yba.prog) (ds ++ gs)).all (· ≤ reachBytes) = true := hsz0
  rw [Yba.params4] at hA hval hsz
  obtain ⟨v0, d0, rfl, rfl, h0⟩ := trodAll_one hA
  obtain ⟨rfl, rfl⟩ := trodVars_none hV
  have h0k := h0
  obtain ⟨a0, len, cap, rfl⟩ := okWide_slice Yba.underlying35 (hval 0 35 v0 rfl rfl)
  obtain ⟨fuel, hf⟩ := h0
  clear hA0 hval0 hsz0
  simp only [List.append_nil] at hW'
  have hlt : ∀ x ∈ p, x.block < W.heap.size := fun x hx => by simpa using hW'.lt x hx
  have hargs : ∀ (W' : World), Below W.heap.size W W' → DataW.Trod enc Yba.prog W' 0 (fun b => decide (b < W.heap.size)) true 35 (.slice a0 len cap) d0 p :=
    fun W' hn => Below.trod laidOut (by kernel_rfl) (of_decide_eq_true (by kernel_rfl)) h0k hn hlt
  have fin : ∀ (e : Ending) (W' : World), (e = .returned (.bool true) ∧ Below W.heap.size W W') → ∃ v, e = .returned v ∧ Rows.lawS2063CFilterSpec.post enc Yba.prog Yba.f4 false true false false W #[.slice a0 len cap] v W' := fun e W' ⟨he, hnx⟩ => by
    subst he
    exact ⟨_, rfl, _, _, _, [], p, [], hW', trodAll_mk1 (shut_bool Yba.underlying4 _), trodAll_mk1 (hargs _ hnx), rfl, hnx.frame _, fun h => by cases h⟩
  have hwt : ∀ n ∈ d0.weights Yba.prog 35, n ≤ reachBytes := fun n hn => by
    have := List.all_eq_true.1 hsz n (DataW.weights_mem_each (j := 0) (t := 35) rfl rfl n hn)
    simpa using this
  rcases open_apps (v := .slice a0 len cap) (by simpa [Value.cells] using hf) with hv | ⟨a, n, cp, R, L, K, hv, hwR, hn⟩
  · cases hv
    exact (filter_nil W).mono fin
  · cases hv
    rcases hn with rfl | ⟨b, off, rfl, hb, hApps⟩
    · exact (filter_zero a cap W).mono fin
    · by_cases hlen : len ≤ 1024
      · exact (filter_any b off len cap R L K W hlen hb (fun j hj => hwt _ (hwR j hj)) hApps).mono fin
      · exact (filter_long _ len cap W (by omega)).mono fin

/-- THE STATEMENT. -/
theorem proved : Rows.LawS2063CFilterSaid :=
  OpenClaim.holds_of_wide 4 Yba.f4 rfl rfl rfl rfl rfl rfl rfl ⟨rfl, rfl, rfl, rfl, rfl⟩ rfl rfl rfl rfl rfl (by kernel_rfl) Yba.func4 (by kernel_rfl)
    (of_decide_eq_true (by kernel_rfl)) (by unfold Func.isWrapper; first | (rw [if_pos (by decide +kernel)]; kernel_rfl) | (rw [if_neg (by decide +kernel)]; exact ⟨rfl, rfl⟩))
    (fun os started H enc _ => lifted os started H enc)
end Go.Proofs.Ybulkaprw.Filter
