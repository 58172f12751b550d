/-
  LawS2063ARoundTrip: THE WALK.
-/
import Derived.Test.YbulkaprwFmtTlv
import Derived.Laws.BitsAllLaws
namespace Go.Proofs.YbulkaprwFmt
open Go.RowKit

theorem and_7 (x : Int) (h0 : 0 ≤ x) (h1 : x ≤ 255) : bits .and .u8 x 7 = x % 8 := by
  rw [u8_and x 7 h0 (by omega) (by omega) (by omega)]
  have h : x.toNat &&& 7 = x.toNat % 8 := Nat.and_two_pow_sub_one_eq_mod x.toNat 3
  show ((x.toNat &&& 7 : Nat) : Int) = _
  rw [h]
  omega

set_option maxRecDepth 100000 in
set_option maxHeartbeats 400000 in
theorem round_any (x fid : Int) (w : World) (hx : 0 ≤ x ∧ x ≤ 255) : Calls Ybaf.prog 3 #[.int .u8 x, .int .u16 fid] w fun e w' => e = .returned (.bool true) ∧ Below w.heap.size w w' := by
  have hs : 1 ≤ x % 30 + 1 ∧ x % 30 + 1 ≤ 30 := by omega
  go_enter Ybaf.func3, Ybaf.ntmps3
  go_wp2_with fail
  refine (with_some (w.heap.size + 1) (x % 30 + 1) 0 _ hs (by go_simp) (by go_simp) (by go_simp)).mono ?_
  rintro e w1 ⟨rfl, hw1⟩
  have hB1 : Below w.heap.size w w1 := by rw [hw1]; exact (((Below.refl _ _).alloc (Nat.le_refl _) _).alloc (by simp) _).setCell (by simp) _
  have c1 : w1.cell? ⟨w.heap.size + 1, 13, none⟩ = some (.int .u8 (x % 30 + 1)) := by rw [hw1]; go_simp
  clear hw1
  go_wp2_with fail
  refine (sfi_some (w.heap.size + 1) (x % 30 + 1) w1 (by omega) c1).mono ?_
  rintro e w2 ⟨g, cap, rfl, hown, hb⟩
  have hB2 : Below w.heap.size w w2 := hB1.trans (hb.mono hB1.size)
  have d0 : w2.cell? ⟨g, 0, none⟩ = some (.int .u8 136) := by simpa [Addr.add] using news_row hown 0 _ rfl
  have d1 : w2.cell? ⟨g, 1, none⟩ = some (.int .u8 1) := by simpa [Addr.add] using news_row hown 1 _ rfl
  have d2 : w2.cell? ⟨g, 2, none⟩ = some (.int .u8 ((x % 30 + 1) * 8 % 256)) := by simpa [Addr.add] using news_row hown 2 _ rfl
  have h7 := and_7 ((x % 30 + 1) * 8 % 256) (by omega) (by omega)
  have e1 : (x % 30 + 1) * 8 % 256 / 8 = x % 30 + 1 := by omega
  have e2 : (x % 30 + 1) * 8 % 256 % 8 = 0 := by omega
  clear hown hb c1
  go_wp2
  go_ret
  exact ⟨rfl, hB2⟩

end Go.Proofs.YbulkaprwFmt
