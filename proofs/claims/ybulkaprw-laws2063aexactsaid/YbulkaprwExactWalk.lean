/-
  bytes.Equal at two rows of the same bytes, sfiTag, LawS2063AExact: THE WALKS.
-/
import Derived.Test.YbulkaprwTlv
import Derived.Laws.BytesArg
namespace Go.Proofs.Ybulkaprw
open Go.RowKit

/-- n cells of block g hold these bytes. -/
def Bytes (w : World) (g : Nat) (xs : List Int) : Prop := ∀ i, i < xs.length → w.cell? ⟨g, i, none⟩ = some (.int .u8 (xs.getD i 0))

theorem bytes_row {w : World} {base g n cap : Nat} {xs : List Int} (h : w.ownsRow base 5 1 (.slice (some ⟨g, 0, none⟩) n cap) n (xs.map (Value.int .u8))) : Bytes w g xs := fun i hi => by
  have := news_row h i (.int .u8 (xs.getD i 0)) (by simp [List.getElem?_map, List.getD, List.getElem?_eq_getElem hi])
  have hadd : (⟨g, 0, none⟩ : Addr).add i = ⟨g, i, none⟩ := by unfold Addr.add; split <;> simp_all
  rwa [hadd] at this

theorem Bytes.below {w w' : World} {g B : Nat} {xs : List Int} (h : Bytes w g xs) (hb : Below B w w') (hg : g < B) : Bytes w' g xs := fun i hi => (hb.cell (p := ⟨g, i, none⟩) hg).trans (h i hi)

set_option maxRecDepth 100000 in
theorem equal_same (g1 c1 g2 c2 n : Nat) (xs : List Int) (w : World) (hn : xs.length = n) (h1 : Bytes w g1 xs) (h2 : Bytes w g2 xs) :
    Calls Yba.prog 6 #[.slice (some ⟨g1, 0, none⟩) n c1, .slice (some ⟨g2, 0, none⟩) n c2] w fun e w' => e = .returned (.bool true) ∧ w' = w := by
  have e1 := run_convert_bytes_arg (P := Yba.prog) w 26 5 Yba.underlying26 Yba.underlying5 g1 0 n c1 xs hn (fun i hi => by rw [Nat.zero_add]; exact h1 i (by omega)) 9 Yba.underlying9
  have e2 := run_convert_bytes_arg (P := Yba.prog) w 26 5 Yba.underlying26 Yba.underlying5 g2 0 n c2 xs hn (fun i hi => by rw [Nat.zero_add]; exact h2 i (by omega)) 9 Yba.underlying9
  go_enter Yba.func6, Yba.ntmps6
  go_wp2
  go_ret
  exact ⟨rfl, rfl⟩

set_option maxRecDepth 100000 in
theorem sfi_zero (F : Nat) (w : World) (hc : w.cell? ⟨F, 13, none⟩ = some (.int .u8 0)) : Calls Yba.prog 5 #[.pointer (some ⟨F, 0, none⟩)] w fun e w' => ∃ g cap, e = .returned (.slice (some ⟨g, 0, none⟩) 2 cap) ∧ w'.ownsRow w.heap.size 5 1 (.slice (some ⟨g, 0, none⟩) 2 cap) 2 [.int .u8 136, .int .u8 0] ∧ Below w.heap.size w w' := by
  go_enter Yba.func5, Yba.ntmps5
  go_wp2_with fail
  refine (tlv_nil 136 _).mono ?_
  rintro e w1 ⟨g, cap, rfl, hown, hb⟩
  go_wp2
  go_ret
  exact ⟨g, cap, rfl, hown, hb⟩

set_option maxRecDepth 100000 in
theorem sfi_some (F : Nat) (x : Int) (w : World) (hx : 1 ≤ x ∧ x ≤ 255) (hc : w.cell? ⟨F, 13, none⟩ = some (.int .u8 x)) : Calls Yba.prog 5 #[.pointer (some ⟨F, 0, none⟩)] w fun e w' => ∃ g cap, e = .returned (.slice (some ⟨g, 0, none⟩) 3 cap) ∧ w'.ownsRow w.heap.size 5 1 (.slice (some ⟨g, 0, none⟩) 3 cap) 3 [.int .u8 136, .int .u8 1, .int .u8 (x * 8 % 256)] ∧ Below w.heap.size w w' := by
  have hx0 : (x == 0) = false := beq_eq_false_iff_ne.2 (by omega)
  go_enter Yba.func5, Yba.ntmps5
  go_wp2_with fail
  refine (tlv_one 136 w.heap.size 1 (x * 8 % 256) _ (by go_simp)).mono ?_
  rintro e w1 ⟨g, cap, rfl, hown, hb⟩
  have hown' : w1.ownsRow w.heap.size 5 1 (.slice (some ⟨g, 0, none⟩) 3 cap) 3 [.int .u8 136, .int .u8 1, .int .u8 (x * 8 % 256)] := by
    refine ⟨hown.1, hown.2.imp id ?_⟩
    rintro ⟨g', c', cur, h1, h2, h3⟩
    exact ⟨g', c', cur, h1, by simp at h2; omega, h3⟩
  go_wp2
  go_ret
  exact ⟨g, cap, rfl, hown', ((Below.refl _ _).alloc (Nat.le_refl _) _).trans (hb.mono (by simp))⟩

theorem lit_bytes2 (w : World) (a b : Int) : Bytes (w.alloc (.cells #[.int .u8 a, .int .u8 b] 5)) w.heap.size [a, b] := fun i hi => by
  match i, hi with
  | 0, _ => go_simp
  | 1, _ => go_simp

theorem lit_bytes3 (w : World) (a b c : Int) : Bytes (w.alloc (.cells #[.int .u8 a, .int .u8 b, .int .u8 c] 5)) w.heap.size [a, b, c] := fun i hi => by
  match i, hi with
  | 0, _ => go_simp
  | 1, _ => go_simp
  | 2, _ => go_simp

set_option maxRecDepth 100000 in
set_option maxHeartbeats 400000 in
theorem exact_zero (fid : Int) (w : World) : Calls Yba.prog 3 #[.int .u8 0, .int .u16 fid] w fun e w' => e = .returned (.bool true) ∧ Below w.heap.size w w' := by
  go_enter Yba.func3, Yba.ntmps3
  go_wp2_with fail
  refine (sfi_zero w.heap.size _ (by go_simp)).mono ?_
  rintro e w1 ⟨g, cap, rfl, hown, hb⟩
  have hB : Below w.heap.size w w1 := ((Below.refl _ _).alloc (Nat.le_refl _) _).trans (hb.mono (by simp))
  have hg := (hown.lt g rfl).2
  have hs := hb.size
  simp only [World.size_alloc] at hs
  have c0 : w1.cell? ⟨w.heap.size, 0, none⟩ = some (.int .u16 fid) := (hb.cell (p := ⟨w.heap.size, 0, none⟩) (by simp)).trans (by go_simp)
  have c1 : w1.cell? ⟨w.heap.size, 1, none⟩ = some (.int .u8 65) := (hb.cell (p := ⟨w.heap.size, 1, none⟩) (by simp)).trans (by go_simp)
  have c2 : w1.cell? ⟨w.heap.size, 13, none⟩ = some (.int .u8 0) := (hb.cell (p := ⟨w.heap.size, 13, none⟩) (by simp)).trans (by go_simp)
  have hbs : Bytes w1 g [136, 0] := bytes_row (xs := [136, 0]) hown
  clear hb hown
  go_wp2_with fail
  refine (equal_same g cap w1.heap.size 2 2 [136, 0] _ rfl (hbs.below ((Below.refl _ _).alloc (Nat.le_refl _) _) hg) (lit_bytes2 w1 136 0)).mono ?_
  rintro e w2 ⟨rfl, hw2⟩
  have hB2 : Below w1.heap.size w1 w2 := by rw [hw2]; exact (Below.refl _ _).alloc (Nat.le_refl _) _
  clear hw2
  have d0 := (hB2.cell (p := ⟨w.heap.size, 0, none⟩) (by show w.heap.size < w1.heap.size; omega)).trans c0
  have d1 := (hB2.cell (p := ⟨w.heap.size, 1, none⟩) (by show w.heap.size < w1.heap.size; omega)).trans c1
  have d2 := (hB2.cell (p := ⟨w.heap.size, 13, none⟩) (by show w.heap.size < w1.heap.size; omega)).trans c2
  go_wp2
  go_ret
  exact ⟨rfl, hB.trans (hB2.mono hB.size)⟩

set_option maxRecDepth 100000 in
set_option maxHeartbeats 400000 in
theorem exact_some (x fid : Int) (w : World) (hx : 1 ≤ x ∧ x ≤ 255) : Calls Yba.prog 3 #[.int .u8 x, .int .u16 fid] w fun e w' => e = .returned (.bool true) ∧ Below w.heap.size w w' := by
  have hx0 : (x == 0) = false := beq_eq_false_iff_ne.2 (by omega)
  go_enter Yba.func3, Yba.ntmps3
  go_wp2_with fail
  refine (sfi_some w.heap.size x _ hx (by go_simp)).mono ?_
  rintro e w1 ⟨g, cap, rfl, hown, hb⟩
  have hB : Below w.heap.size w w1 := ((Below.refl _ _).alloc (Nat.le_refl _) _).trans (hb.mono (by simp))
  have hg := (hown.lt g rfl).2
  have hs := hb.size
  simp only [World.size_alloc] at hs
  have c0 : w1.cell? ⟨w.heap.size, 0, none⟩ = some (.int .u16 fid) := (hb.cell (p := ⟨w.heap.size, 0, none⟩) (by simp)).trans (by go_simp)
  have c1 : w1.cell? ⟨w.heap.size, 1, none⟩ = some (.int .u8 65) := (hb.cell (p := ⟨w.heap.size, 1, none⟩) (by simp)).trans (by go_simp)
  have c2 : w1.cell? ⟨w.heap.size, 13, none⟩ = some (.int .u8 x) := (hb.cell (p := ⟨w.heap.size, 13, none⟩) (by simp)).trans (by go_simp)
  have hbs : Bytes w1 g [136, 1, x * 8 % 256] := bytes_row (xs := [136, 1, x * 8 % 256]) hown
  clear hb hown
  go_wp2_with fail
  refine (equal_same g cap w1.heap.size 3 3 [136, 1, x * 8 % 256] _ rfl (hbs.below ((Below.refl _ _).alloc (Nat.le_refl _) _) hg) (lit_bytes3 w1 136 1 (x * 8 % 256))).mono ?_
  rintro e w2 ⟨rfl, hw2⟩
  have hB2 : Below w1.heap.size w1 w2 := by rw [hw2]; exact (Below.refl _ _).alloc (Nat.le_refl _) _
  clear hw2
  have d0 := (hB2.cell (p := ⟨w.heap.size, 0, none⟩) (by show w.heap.size < w1.heap.size; omega)).trans c0
  have d1 := (hB2.cell (p := ⟨w.heap.size, 1, none⟩) (by show w.heap.size < w1.heap.size; omega)).trans c1
  have d2 := (hB2.cell (p := ⟨w.heap.size, 13, none⟩) (by show w.heap.size < w1.heap.size; omega)).trans c2
  go_wp2
  go_ret
  exact ⟨rfl, hB.trans (hB2.mono hB.size)⟩

end Go.Proofs.Ybulkaprw
