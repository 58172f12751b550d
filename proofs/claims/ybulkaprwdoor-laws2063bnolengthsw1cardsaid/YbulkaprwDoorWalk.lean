/-
  simStatus and the plain table: THE WALKS. The look-up in the package-level map is a hypothesis.
-/
import Derived.Test.YbulkaprwDoorRows
import Derived.WalkKit
import Derived.WalkSpells
import Derived.WalkLawsBesides
import Derived.Laws.BitsAllLaws
namespace Go.Proofs.YbulkaprwDoor
open Go.RowKit

/-- The seven words that differ. -/
def tab (sw : Int) : Int :=
  if sw = 25985 then 37440 else if sw = 27009 then 37896 else if sw = 27013 then 38916 else if sw = 27014 then 37888 else if sw = 27266 then 37892 else if sw = 27270 then 27392 else if sw = 27392 then 37890 else sw

def isTab (sw : Int) : Bool := sw == 25985 || sw == 27009 || sw == 27013 || sw == 27014 || sw == 27266 || sw == 27270 || sw == 27392

/-- What simStatus answers. -/
def st (sw : Int) : Int := if sw / 256 = 97 then 40704 + sw % 256 else if sw / 256 = 108 then 26368 + sw % 256 else tab sw

theorem or_9f (x : Int) (h0 : 0 ≤ x) (h1 : x < 256) : bits .or .u16 40704 x = 40704 + x := by
  rw [u16_or 40704 x (by omega) (by omega) h0 (by omega)]
  have : ∀ y, y < 256 → 40704 ||| y = 40704 + y := by decide +kernel
  have := this x.toNat (by omega)
  show ((40704 ||| x.toNat : Nat) : Int) = _
  omega

theorem or_67 (x : Int) (h0 : 0 ≤ x) (h1 : x < 256) : bits .or .u16 26368 x = 26368 + x := by
  rw [u16_or 26368 x (by omega) (by omega) h0 (by omega)]
  have : ∀ y, y < 256 → 26368 ||| y = 26368 + y := by decide +kernel
  have := this x.toNat (by omega)
  show ((26368 ||| x.toNat : Nat) : Int) = _
  omega

theorem and_255 (x : Int) (h0 : 0 ≤ x) (h1 : x ≤ 65535) : bits .and .u16 x 255 = x % 256 := by
  rw [u16_and x 255 h0 (by omega) (by omega) (by omega)]
  have h : x.toNat &&& 255 = x.toNat % 256 := Nat.and_two_pow_sub_one_eq_mod x.toNat 8
  show ((x.toNat &&& 255 : Nat) : Int) = _
  rw [h]
  omega

theorem isTab_false {sw : Int} (h : isTab sw = false) : tab sw = sw := by
  unfold isTab at h
  simp only [Bool.or_eq_false_iff, beq_eq_false_iff_ne, ne_eq] at h
  unfold tab
  simp [h]

/-- What the map answers at a key. -/
def Looks (w : World) (bm : Nat) (sw : Int) : Prop :=
  if isTab sw = true then (Instr.lookup 27 (.map (some bm)) (.int .u16 sw) true).run Ybad.prog w = .ok (.tuple #[.int .u16 (tab sw), .bool true]) w
  else ∃ z, (Instr.lookup 27 (.map (some bm)) (.int .u16 sw) true).run Ybad.prog w = .ok (.tuple #[z, .bool false]) w

set_option maxRecDepth 100000 in
theorem st_any (bm : Nat) (sw : Int) (w : World) (hs : 0 ≤ sw ∧ sw ≤ 65535) (hc : w.cell? ⟨0, 0, none⟩ = some (.map (some bm))) (hl : Looks w bm sw) :
    Calls Ybad.prog 5 #[.int .u16 sw] w fun e w' => e = .returned (.int .u16 (st sw)) ∧ w' = w := by
  have h9 := or_9f (sw % 256) (by omega) (by omega)
  have h6 := or_67 (sw % 256) (by omega) (by omega)
  have ha := and_255 sw hs.1 hs.2
  by_cases h1 : sw / 256 = 97
  · have HS : Hid (st sw = 40704 + sw % 256) := by show st sw = _; unfold st; rw [if_pos h1]
    go_enter Ybad.func5, Ybad.ntmps5
    go_wp2
    go_ret
    exact ⟨by rw [HS.out]; rfl, rfl⟩
  · by_cases h2 : sw / 256 = 108
    · have HS : Hid (st sw = 26368 + sw % 256) := by show st sw = _; unfold st; rw [if_neg h1, if_pos h2]
      go_enter Ybad.func5, Ybad.ntmps5
      go_wp2
      go_ret
      exact ⟨by rw [HS.out]; rfl, rfl⟩
    · have HS : Hid (st sw = tab sw) := by show st sw = _; unfold st; rw [if_neg h1, if_neg h2]
      unfold Looks at hl
      cases ht : isTab sw
      · rw [ht] at hl
        obtain ⟨z, hl⟩ : ∃ z, (Instr.lookup 27 (.map (some bm)) (.int .u16 sw) true).run Ybad.prog w = .ok (.tuple #[z, .bool false]) w := by simpa using hl
        have HT : Hid (tab sw = sw) := isTab_false ht
        clear ht
        go_enter Ybad.func5, Ybad.ntmps5
        go_wp2
        go_ret
        exact ⟨by rw [HS.out, HT.out]; rfl, rfl⟩
      · rw [ht] at hl
        have hl : (Instr.lookup 27 (.map (some bm)) (.int .u16 sw) true).run Ybad.prog w = .ok (.tuple #[.int .u16 (tab sw), .bool true]) w := by simpa using hl
        clear ht
        go_enter Ybad.func5, Ybad.ntmps5
        go_wp2
        go_ret
        exact ⟨by rw [HS.out]; rfl, rfl⟩

theorem st_range (sw : Int) (hs : 0 ≤ sw ∧ sw ≤ 65535) : 0 ≤ st sw ∧ st sw ≤ 65535 := by
  unfold st tab
  repeat' split
  all_goals omega

/-- The SIM's answer never bears 61 or 6C; where it rewrites one of them it keeps SW2. -/
theorem st_law (sw : Int) (hs : 0 ≤ sw ∧ sw ≤ 65535) : st sw / 256 ≠ 97 ∧ st sw / 256 ≠ 108 ∧ (sw / 256 = 97 ∨ sw / 256 = 108 → st sw % 256 = sw % 256) := by
  unfold st tab
  repeat' split
  all_goals omega

set_option maxRecDepth 100000 in
theorem nolen_any (bm : Nat) (sw : Int) (w : World) (hs : 0 ≤ sw ∧ sw ≤ 65535) (hc : w.cell? ⟨0, 0, none⟩ = some (.map (some bm))) (hl : Looks w bm sw) :
    Calls Ybad.prog 4 #[.int .u16 sw] w fun e w' => e = .returned (.bool true) ∧ w' = w := by
  have hr := st_range sw hs
  obtain ⟨l1, l2, l3⟩ := st_law sw hs
  have ha := and_255 sw hs.1 hs.2
  have hb := and_255 (st sw) hr.1 hr.2
  have e1 : (st sw / 256 == 97) = false := beq_eq_false_iff_ne.2 l1
  have e2 : (st sw / 256 == 108) = false := beq_eq_false_iff_ne.2 l2
  have hl' := hl
  by_cases h1 : sw / 256 = 97
  · have H3 : Hid (st sw % 256 = sw % 256) := l3 (Or.inl h1)
    have hx : (sw / 256 == 97) = true := beq_iff_eq.2 h1
    clear l3 h1 l1 l2
    go_enter Ybad.func4, Ybad.ntmps4
    go_wp2_with (go_at_call 5; refine (st_any bm sw _ hs hc hl').mono ?_; rintro e w' ⟨rfl, rfl⟩)
    go_ret
    exact ⟨by show Ending.returned (.bool (st sw % 256 == sw % 256)) = _; rw [H3.out]; simp, rfl⟩
  · have hx : (sw / 256 == 97) = false := beq_eq_false_iff_ne.2 h1
    by_cases h2 : sw / 256 = 108
    · have H3 : Hid (st sw % 256 = sw % 256) := l3 (Or.inr h2)
      have hy : (sw / 256 == 108) = true := beq_iff_eq.2 h2
      clear l3 h1 l1 l2 h2
      go_enter Ybad.func4, Ybad.ntmps4
      go_wp2_with (go_at_call 5; refine (st_any bm sw _ hs hc hl').mono ?_; rintro e w' ⟨rfl, rfl⟩)
      go_ret
      exact ⟨by show Ending.returned (.bool (st sw % 256 == sw % 256)) = _; rw [H3.out]; simp, rfl⟩
    · have hy : (sw / 256 == 108) = false := beq_eq_false_iff_ne.2 h2
      clear l3 h1 l1 l2 h2
      go_enter Ybad.func4, Ybad.ntmps4
      go_wp2_with (go_at_call 5; refine (st_any bm sw _ hs hc hl').mono ?_; rintro e w' ⟨rfl, rfl⟩)
      go_ret
      exact ⟨rfl, rfl⟩

end Go.Proofs.YbulkaprwDoor
