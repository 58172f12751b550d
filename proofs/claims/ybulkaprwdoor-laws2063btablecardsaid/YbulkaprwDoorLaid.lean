/-
  WHAT THE LISTED MAP GIVES THE WALKS: its cell, and every look-up.
-/
import Derived.Test.YbulkaprwDoorWalk
import Derived.ProofKit
import Derived.LaidMore
import Derived.OpenShut
import Derived.OpenVars
import Derived.Stop.Joined
import Derived.Maps.Ext
namespace Go.Proofs.YbulkaprwDoor
open Go.ChangeShapes Go.WideShapes Go.ChangeAt Go.WideMaps Go.WideElems Go.RowKit

/-- The listed variable's name, off the given specification. -/
abbrev varName : String := Rows.lawS2063BTableSpec.vars.headD ""
abbrev laid1 : List (String × DataW Unit) := [(varName, Rows.laid_example_com_quintet_quintet_card_simStatusWords)]

theorem own : ownKnob Ybad.prog.godebug = none := by kernel_rfl
theorem laidOut : laidOutB Ybad.prog = true := by kernel_rfl
theorem gWords : Ybad.prog.globalNamed varName = some 0 := by kernel_rfl
theorem tWords : (Ybad.prog.globals[0]?).map (·.type) = some 27 := by kernel_rfl

/-- The door's own heap meets the condition. -/
theorem door_met (os : Os) (args : Array Value) : laidMetH Ybad.prog laid1 ((World.doorLaid Ybad.prog 400 os).forCall (fun _ _ => 0) ⟨#[], args, []⟩).memory :=
  laidMetH_of_parts3 (fuel := 8) (laidMet_of_run' 8 (by kernel_rfl) (by kernel_rfl)) (by kernel_rfl) (by kernel_rfl)

theorem at_tab (sw : Int) (h : isTab sw = true) : ∀ z : DataW Unit, (Rows.laid_example_com_quintet_quintet_card_simStatusWords (H := Unit)).atKey (.int .u16 sw) z = .lit (.int .u16 (tab sw)) := fun z => by
  unfold isTab at h
  simp only [Bool.or_eq_true, beq_iff_eq] at h
  rcases h with (((((h | h) | h) | h) | h) | h) | h <;> (subst h; rfl)

theorem at_none (sw : Int) (h : isTab sw = false) : ∀ z : DataW Unit, (Rows.laid_example_com_quintet_quintet_card_simStatusWords (H := Unit)).atKey (.int .u16 sw) z = z := fun z => by
  unfold isTab at h
  simp only [Bool.or_eq_false_iff, beq_eq_false_iff_ne, ne_eq] at h
  unfold Rows.laid_example_com_quintet_quintet_card_simStatusWords
  refine Maps.atKey_of_not_has ?_ z
  rw [Maps.has_eq]
  simp [Lit.sameKey, h, eq_comm]

theorem of_laid {W : World} (h : laidMetH Ybad.prog laid1 W) : ∃ bm, W.cell? ⟨0, 0, none⟩ = some (.map (some bm)) ∧ ∀ sw : Int, (Lit.int .u16 sw).wf = true → Looks W bm sw := by
  rw [MakeChecks.laidMetH_plain _ _ _ (by kernel_rfl)] at h
  obtain ⟨ps, ⟨g0, t0, cs0, f0, p0, q0, hg0, ht0, hv0, hd0, _, _⟩, _, _⟩ := h
  obtain rfl := Option.some.inj (gWords.symm.trans hg0)
  obtain rfl := Option.some.inj (tWords.symm.trans ht0)
  have zero : (zeroValue 22).run Ybad.prog W = .ok (.int .u16 0) W := by kernel_rfl
  rcases open_map Ybad.underlying27 hd0 with ⟨_, hx⟩ | ⟨bm, es, clock, m, rfl, hcs, hb, _, F, hx⟩
  · simp [Rows.laid_example_com_quintet_quintet_card_simStatusWords] at hx
  simp only [Prod.mk.injEq] at hx
  have hcell : W.cell? ⟨0, 0, none⟩ = some (.map (some bm)) := by
    have := World.var?_cell hg0 hv0 0
    rw [Array.eq_one_of_toList hcs] at this
    simpa using this
  refine ⟨bm, hcell, fun sw hw => ?_⟩
  unfold Looks
  rcases Maps.fit_look true (Maps.int_keyed Ybad.underlying22) Ybad.underlying27 zero hb F (Maps.keyOf_int_mk Ybad.underlying22 hw) with ⟨hrun, _, hat⟩ | ⟨e0, y, _, _, hrun, hRv, hat, _⟩
  · cases ht : isTab sw
    · simp only [Bool.false_eq_true, if_false]
      exact ⟨_, by simpa using hrun⟩
    · have := hat .nil
      rw [← hx.1, at_tab sw ht] at this
      cases this
  · obtain ⟨r, hr, rfl, _⟩ := elemAt_int Ybad.underlying22 hRv
    rw [hr] at hrun
    cases ht : isTab sw
    · have := hat .nil
      rw [← hx.1, at_none sw ht] at this
      cases this
    · have := hat .nil
      rw [← hx.1, at_tab sw ht] at this
      have e : tab sw = r := by simpa using this
      rw [if_pos rfl, e]
      simpa using hrun

end Go.Proofs.YbulkaprwDoor
