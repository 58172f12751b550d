/-
  LawS2063CFilter: THE WALK.
-/
import Derived.Test.YbulkaprwLast
import Derived.Deep.RegionHeld3
import Derived.BigQuiet
import Derived.Deep.QuietTactic
namespace Go.Proofs.Ybulkaprw
open Go.RowKit

theorem info37 : (Yba.prog.info? 37).map (fun i => (i.zero, i.size, i.bytes)) = some (some (.pointer none), 1, 8) := by kernel_rfl

theorem alloc2_new (w : World) (o1 o2 : Obj) : ((w.alloc o1).alloc o2).drew.heap[w.heap.size + 1]? = some o2 := by
  have h := heap_alloc_new (w.alloc o1) o2
  rwa [World.size_alloc] at h

/-- The argument's elements. -/
def Apps (w : World) (b off n : Nat) (R : Nat → ByteArray) (L K : Nat → Bool) : Prop :=
  ∀ j, j < n → w.cell? ⟨b, off + j * 3, none⟩ = some (.string (R j)) ∧ w.cell? ⟨b, off + j * 3 + 1, none⟩ = some (.bool (L j)) ∧ w.cell? ⟨b, off + j * 3 + 2, none⟩ = some (.bool (K j))

def ptrs (G : Nat → Nat) (k : Nat) : List Value := (List.range k).map fun j => .pointer (some ⟨G j, 0, none⟩)

/-- The law's own list after k rounds: k pointers, each to a struct of the call's own that bears root and mark. -/
def Made (w wr : World) (k : Nat) (v : Value) (R : Nat → ByteArray) (L : Nat → Bool) : Prop :=
  ∃ (G : Nat → Nat) (g cp : Nat), v = .slice (some ⟨g, 0, none⟩) k cp ∧ wr.ownsRow w.heap.size 37 1 v k (ptrs G k) ∧
    (∀ j, j < k → wr.cell? ⟨G j, 2, none⟩ = some (.string (R j)) ∧ wr.cell? ⟨G j, 6, none⟩ = some (.bool (L j)) ∧ G j < wr.heap.size ∧ g ≠ G j) ∧ Below w.heap.size w wr

theorem ptrs_snoc (G : Nat → Nat) (k x : Nat) : ptrs (fun j => if j < k then G j else x) (k + 1) = ptrs G k ++ [.pointer (some ⟨x, 0, none⟩)] := by
  unfold ptrs
  rw [List.range_succ, List.map_append]
  congr 1
  · exact List.map_congr_left (fun j hj => by simp [List.mem_range.1 hj])
  · simp

theorem made_step {w wr w1 : World} {k g cp gg cap1 : Nat} {G : Nat → Nat} {R : Nat → ByteArray} {L : Nat → Bool} {s1 : ByteArray} {kk : Bool} {o2 : Obj}
    (hown : wr.ownsRow w.heap.size 37 1 (.slice (some ⟨g, 0, none⟩) k cp) k (ptrs G k))
    (hG : ∀ j, j < k → wr.cell? ⟨G j, 2, none⟩ = some (.string (R j)) ∧ wr.cell? ⟨G j, 6, none⟩ = some (.bool (L j)) ∧ G j < wr.heap.size ∧ g ≠ G j) (hnx : Below w.heap.size w wr)
    (hown1 : w1.ownsRow w.heap.size 37 1 (.slice (some ⟨gg, 0, none⟩) (k + 1) cap1) (k + 1) (ptrs G k ++ [.pointer (some ⟨wr.heap.size, 0, none⟩)]))
    (hgrow : ((wr.alloc (.cells #[.pointer none, .string s1, .string (R k), .pointer none, .nilFunc, .bool kk, .bool (L k)] 43)).alloc o2).drew.grownBy w1 (Value.slice (some ⟨g, 0, none⟩) k cp).ownBlock)
    (hat : (Value.slice (some ⟨g, 0, none⟩) k cp).ownBlock = some gg ∨ gg = wr.heap.size + 1 + 1) : Made w w1 (k + 1) (.slice (some ⟨gg, 0, none⟩) (k + 1) cap1) R L := by
  have hgo : w.heap.size ≤ g ∧ g < wr.heap.size := hown.lt g rfl
  have hsz := hnx.size
  have hB : Below wr.heap.size wr ((wr.alloc (.cells #[.pointer none, .string s1, .string (R k), .pointer none, .nilFunc, .bool kk, .bool (L k)] 43)).alloc o2).drew :=
    (((Below.refl _ _).alloc (Nat.le_refl _) _).alloc (by simp) _).drew
  have hs1 := hgrow.size
  have hs2 : ((wr.alloc (.cells #[.pointer none, .string s1, .string (R k), .pointer none, .nilFunc, .bool kk, .bool (L k)] 43)).alloc o2).drew.heap.size = wr.heap.size + 2 := by
    show ((wr.alloc _).alloc o2).heap.size = _
    rw [World.size_alloc, World.size_alloc]
  refine ⟨fun j => if j < k then G j else wr.heap.size, gg, cap1, rfl, by rw [ptrs_snoc]; exact hown1, fun j hj => ?_, ?_⟩
  · by_cases e : j < k
    · obtain ⟨h1, h2, h3, h4⟩ := hG j e
      simp only [e, if_true]
      refine ⟨hgrow.cell ((hB.cell (p := ⟨G j, 2, none⟩) h3).trans h1) (fun x => h4 (Option.some.inj x).symm), hgrow.cell ((hB.cell (p := ⟨G j, 6, none⟩) h3).trans h2) (fun x => h4 (Option.some.inj x).symm), by omega, ?_⟩
      rcases hat with h | h
      · have := Option.some.inj h; simp at this; show gg ≠ G j; omega
      · omega
    · have ej : j = k := by omega
      subst ej
      simp only [e, if_false]
      refine ⟨hgrow.cell (by go_simp) (fun x => by have := Option.some.inj x; simp at this; omega), hgrow.cell (by go_simp) (fun x => by have := Option.some.inj x; simp at this; omega), by omega, ?_⟩
      rcases hat with h | h
      · have := Option.some.inj h; simp at this; omega
      · omega
  · exact (hnx.trans (hB.mono hsz)).grown hgrow (by omega) (fun j hj => by have := Option.some.inj hj; simp at this; omega)

theorem listed_of {w wr : World} {g k cp : Nat} {G : Nat → Nat} {R : Nat → ByteArray} {L : Nat → Bool} (hown : wr.ownsRow w.heap.size 37 1 (.slice (some ⟨g, 0, none⟩) k cp) k (ptrs G k))
    (hG : ∀ j, j < k → wr.cell? ⟨G j, 2, none⟩ = some (.string (R j)) ∧ wr.cell? ⟨G j, 6, none⟩ = some (.bool (L j)) ∧ G j < wr.heap.size ∧ g ≠ G j) : Listed wr g k G R L := fun j hj => by
  obtain ⟨h1, h2, h3, _⟩ := hG j hj
  exact ⟨row_cell hown (by unfold ptrs; simp [hj]), h1, h2, (hown.lt g rfl).2, h3⟩

theorem Apps.below {w w' : World} {b off n : Nat} {R : Nat → ByteArray} {L K : Nat → Bool} {B : Nat} (h : Apps w b off n R L K) (hb : Below B w w') (hlt : b < B) : Apps w' b off n R L K := fun j hj => by
  obtain ⟨h1, h2, h3⟩ := h j hj
  exact ⟨(hb.cell (p := ⟨b, _, none⟩) hlt).trans h1, (hb.cell (p := ⟨b, _, none⟩) hlt).trans h2, (hb.cell (p := ⟨b, _, none⟩) hlt).trans h3⟩

set_option maxRecDepth 100000 in
set_option maxHeartbeats 4000000 in
theorem filter_any (b off n cap : Nat) (R : Nat → ByteArray) (L K : Nat → Bool) (w : World) (hn : n ≤ 1024) (hb : b < w.heap.size) (hs : ∀ j, j < n → (R j).size ≤ 140737488351232) (hA : Apps w b off n R L K) :
    Calls Yba.prog 4 #[.slice (some ⟨b, off, none⟩) n cap] w fun e w' => e = .returned (.bool true) ∧ Below w.heap.size w w' := by
  obtain ⟨i1, hi1, hp0, hp1, hp2⟩ := info_parts info37
  have hn' : (n : Int) ≤ 1024 := by omega
  have hd : decide ((1024 : Int) < (n : Int)) = false := by simp; omega
  go_enter Yba.func4, Yba.ntmps4
  go_wp2_with (first
    | (at_make; refine wpList_make_own _ rfl _ _ 36 rfl w.heap.size 37 i1 (.pointer none) 1 Yba.underlying36 hi1 hp0 hp1 _ _ _ n rfl rfl rfl (by rw [hp2]; omega) (by unfold maxLen; omega) (Nat.le_refl _) ?_; intro w0 hown0 hg0)
    | go_in)
  go_loopw [3, 4] (fun v i wr => ∃ k : Nat, k ≤ n ∧ i = .int .i64 k ∧ Made w wr k v R L)
    (fun _ i _ => n - (intOf i).toNat)
  case atStart => exact ⟨0, Nat.zero_le _, rfl, fun _ => 0, _, _, rfl, hown0, fun j hj => by omega, (Below.refl _ _).grown hg0 (Nat.le_refl _) (fun j hj => by cases hj)⟩
  case round =>
    obtain ⟨k, hk, rfl, G, g, cp, rfl, hown, hG, hnx⟩ := hrel
    have hsz := hnx.size
    have hgo : w.heap.size ≤ g ∧ g < wr.heap.size := hown.lt g rfl
    by_cases hlt : k < n
    · have hlt' : (k : Int) < (n : Int) := by omega
      obtain ⟨c1, c2, c3⟩ := hA k hlt
      have d1 := (hnx.cell (p := ⟨b, off + k * 3, none⟩) hb).trans c1
      have d2 := (hnx.cell (p := ⟨b, off + k * 3 + 1, none⟩) hb).trans c2
      have d3 := (hnx.cell (p := ⟨b, off + k * 3 + 2, none⟩) hb).trans c3
      clear c1 c2 c3
      have hsk := hs k hlt
      have hcat : ∀ wx, (Op.stringOp .add (R k) ⟨#[35]⟩).run Yba.prog wx = .ok (.string (R k ++ ⟨#[35]⟩)) wx := fun wx => run_string_add_sum wx (R k) ⟨#[35]⟩ (by have : (⟨#[35]⟩ : ByteArray).size = 1 := rfl; omega)
      go_wp2_with fail
      go_region_held3 (fun w' => w'.cell? ⟨b, off + k * 3, none⟩ = some (.string (R k)) ∧ w'.cell? ⟨b, off + k * 3 + 1, none⟩ = some (.bool (L k)) ∧ w'.cell? ⟨b, off + k * 3 + 2, none⟩ = some (.bool (K k)))
        (first
          | go_keep
          | (go_split_ands
             refine ⟨?_, ?_, ?_⟩
             · (rw [hgrow.cell_far _ (by simp; omega) (by simp [Value.ownBlock]; omega)]; assumption)
             · (rw [hgrow.cell_far _ (by simp; omega) (by simp [Value.ownBlock]; omega)]; assumption)
             · (rw [hgrow.cell_far _ (by simp; omega) (by simp [Value.ownBlock]; omega)]; assumption)))
        ((refine step_append_lies _ (by rfl) _ _ _ (by rfl) w.heap.size 37 i1 _ 1 8 Yba.underlying36 hi1 hp0 hp1 hp2 rfl (by omega) (.slice (some ⟨g, 0, none⟩) k cp) k _ (by rfl) (((hown.alloc _).alloc _).drew)
            ⟨wr.heap.size + 1, 0, none⟩ 1 1 [.pointer (some ⟨wr.heap.size, 0, none⟩)] (by rfl) (by rfl) (World.news_of_block (cs := #[.pointer (some ⟨wr.heap.size, 0, none⟩)]) (t := 37) (fr := (0, 0)) (alloc2_new _ _ _)) (by simp [Value.oneCell'])
            (by omega) (by unfold maxLen; omega) (by omega) (by simp; omega) (wr.heap.size + 1 + 1) (by simp) ?_; intro gg cap1 w1 hown1 hgrow hat hgl))
      have hM := made_step hown hG hnx hown1 hgrow hat
      clear hown1 hgrow hat hG hown hnx
      go_wp2
      exact ⟨⟨k + 1, by omega, by go_num, hM⟩, by simp [intOf]; omega⟩
    · have hkn : k = n := by omega
      subst hkn
      have hLd := listed_of hown hG
      go_wp2_with fail
      refine (last_any wr.heap.size g k cp G R L _ (by omega) (by go_simp) (hLd.below ((Below.refl _ _).alloc (Nat.le_refl _) _))).mono ?_
      rintro e w2 ⟨got, rfl, hgot, hb2⟩
      have hB0 : Below wr.heap.size wr w2 := ((Below.refl _ _).alloc (Nat.le_refl _) _).trans (hb2.mono (by simp))
      have hBw : Below w.heap.size w w2 := hnx.trans (hB0.mono hsz)
      have hA2 := hA.below hBw hb
      have hL2 := hLd.below hB0
      have hb' : b < w2.heap.size := by have := hBw.size; omega
      clear hG hown hb2 hLd hA hB0
      rcases hgot with ⟨hm, rfl⟩ | ⟨g1, c1, rfl, hg1, hg2, hm, hcell⟩
      · go_wp2
        go_loopw [7, 8, 9] (fun c q i wx => ∃ j : Nat, j ≤ k ∧ i = .int .i64 j ∧ c = .int .i64 0 ∧ q = .int .i64 0 ∧ Below w2.heap.size w2 wx)
          (fun _ _ i _ => k - (intOf i).toNat)
        case atStart => exact ⟨0, Nat.zero_le _, rfl, rfl, rfl, Below.refl _ _⟩
        case round =>
          obtain ⟨j, hj, rfl, rfl, rfl, hbx⟩ := hrel
          by_cases hjl : j < k
          · obtain ⟨x1, x2, x3⟩ := hA2.below hbx hb' j hjl
            have hj' : (j : Int) < (k : Int) := by omega
            cases hL : L j
            · rw [hL] at x2
              go_wp2
              exact ⟨⟨j + 1, by omega, by go_num, rfl, rfl, hbx⟩, by simp [intOf]; omega⟩
            · have := flt_lt hjl hL
              rw [hm] at this
              exact absurd this (by simp)
          · have hjk : j = k := by omega
            subst hjk
            clear hm
            go_wp2
            go_loopw [10] (fun i wy => ∃ q : Nat, q ≤ j ∧ i = .int .i64 q ∧ Below w2.heap.size w2 wy) (fun i _ => j - (intOf i).toNat)
            case atStart => exact ⟨0, Nat.zero_le _, rfl, hbx⟩
            case round =>
              obtain ⟨q, hq, rfl, hby⟩ := hrel
              by_cases hql : q < j
              · obtain ⟨y1, y2, y3⟩ := hA2.below hby hb' q hql
                obtain ⟨z1, z2, z3, z4, z5⟩ := hL2.below hby q hql
                have hq' : (q : Int) < (j : Int) := by omega
                cases hL : L q
                all_goals
                  rw [hL] at y2 z3
                  go_wp2
                  go_quiet (fail)
                  go_wp2
                  exact ⟨⟨q + 1, by omega, by go_num, below_drewN hby _⟩, by simp [intOf]; omega⟩
              · go_wp2
                go_ret
                exact ⟨rfl, hBw.trans (hby.mono hBw.size)⟩
      · go_wp2
        go_loopw [7, 8, 9] (fun c q i wx => ∃ j : Nat, j ≤ k ∧ i = .int .i64 j ∧ c = .int .i64 (flt L j).length ∧ q = .int .i64 (flt L j).length ∧ Below w2.heap.size w2 wx)
          (fun _ _ i _ => k - (intOf i).toNat)
        case atStart => exact ⟨0, Nat.zero_le _, rfl, rfl, rfl, Below.refl _ _⟩
        case round =>
          obtain ⟨j, hj, rfl, rfl, rfl, hbx⟩ := hrel
          by_cases hjl : j < k
          · obtain ⟨x1, x2, x3⟩ := hA2.below hbx hb' j hjl
            have hj' : (j : Int) < (k : Int) := by omega
            have hfj := flt_len L j
            cases hL : L j
            · rw [hL] at x2
              have HF : Hid (flt L (j + 1) = flt L j) := flt_no hL
              go_wp2
              exact ⟨⟨j + 1, by omega, by go_num, by rw [HF.out], by rw [HF.out], hbx⟩, by simp [intOf]; omega⟩
            · rw [hL] at x2
              have HF : Hid (flt L (j + 1) = flt L j ++ [j]) := flt_yes hL
              have hlt := flt_lt hjl hL
              have hlt1 : ((flt L j).length : Int) < ((flt L k).length : Int) := by omega
              have hgd : decide (((flt L k).length : Int) ≤ ((flt L j).length : Int)) = false := by simp; omega
              have x4 := (hbx.cell (p := ⟨g1, (flt L j).length, none⟩) hg2).trans (hcell _ _ (flt_at hjl hL))
              go_wp2
              go_quiet (fail)
              go_wp2
              exact ⟨⟨j + 1, by omega, by go_num, by rw [HF.out]; simp, by rw [HF.out]; simp, below_drewN hbx _⟩, by simp [intOf]; omega⟩
          · have hjk : j = k := by omega
            subst hjk
            have hm' : (0 : Int) < ((flt L j).length : Int) := by omega
            have hm0 : (((flt L j).length : Int) == 0) = false := beq_eq_false_iff_ne.2 (by omega)
            go_wp2
            go_loopw [10] (fun i wy => ∃ q : Nat, q ≤ j ∧ i = .int .i64 q ∧ Below w2.heap.size w2 wy) (fun i _ => j - (intOf i).toNat)
            case atStart => exact ⟨0, Nat.zero_le _, rfl, hbx⟩
            case round =>
              obtain ⟨q, hq, rfl, hby⟩ := hrel
              by_cases hql : q < j
              · obtain ⟨y1, y2, y3⟩ := hA2.below hby hb' q hql
                obtain ⟨z1, z2, z3, z4, z5⟩ := hL2.below hby q hql
                have hq' : (q : Int) < (j : Int) := by omega
                cases hL : L q
                all_goals
                  rw [hL] at y2 z3
                  go_wp2
                  go_quiet (fail)
                  go_wp2
                  exact ⟨⟨q + 1, by omega, by go_num, below_drewN hby _⟩, by simp [intOf]; omega⟩
              · go_wp2
                go_ret
                exact ⟨rfl, hBw.trans (hby.mono hBw.size)⟩

set_option maxRecDepth 100000 in
/-- More than 1024 of them: true at once. -/
theorem filter_long (a : Option Addr) (n cap : Nat) (w : World) (hn : 1024 < n) : Calls Yba.prog 4 #[.slice a n cap] w fun e w' => e = .returned (.bool true) ∧ Below w.heap.size w w' := by
  have hn' : (1024 : Int) < (n : Int) := by omega
  go_enter Yba.func4, Yba.ntmps4
  go_wp2
  go_ret
  exact ⟨rfl, Below.refl _ _⟩

set_option maxRecDepth 100000 in
set_option maxHeartbeats 1000000 in
/-- A nil slice. -/
theorem filter_nil (w : World) : Calls Yba.prog 4 #[.slice none 0 0] w fun e w' => e = .returned (.bool true) ∧ Below w.heap.size w w' := by
  go_enter Yba.func4, Yba.ntmps4
  go_wp2
  refine wp_loop_rounds 1 ?_
  rw [rounds_succ]
  go_wp2_with fail
  refine (last_nil w.heap.size _ (by go_simp)).mono ?_
  rintro e w2 ⟨rfl, hb2⟩
  have hB : Below w.heap.size w w2 := ((Below.refl _ _).alloc (Nat.le_refl _) _).trans (hb2.mono (by simp))
  go_wp2
  refine wp_loop_rounds 1 ?_
  rw [rounds_succ]
  go_wp2
  refine wp_loop_rounds 1 ?_
  rw [rounds_succ]
  go_wp2
  go_ret
  exact ⟨rfl, hB⟩

end Go.Proofs.Ybulkaprw
