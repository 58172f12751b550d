/-
  The lock's methods and the atomics: contracts, one goroutine.
-/
import Derived.Test.YbulkaqiaRows
import Derived.Conc.MuLone
import Derived.WalkKit
import Derived.WalkSpells
import Derived.WalkLawsBesides
import Derived.Laws.LoneSync
import Derived.RegionCalls
namespace Go.Proofs.Ybulkaqia
open Go.RowKit

abbrev muLink : Go.Conc.Locks.MuLink := { lock := 11, unlock := 8, ilock := 18, iunlock := 15, lockSlow := 29, unlockSlow := 28, disable := 22, enable := 23, acquire := 25, relMerge := 26, cas32 := 24, add32 := 27, tMutex := 80, tIMutex := 78, tPMutex := 118, tPIMutex := 128, tPI32 := 130, tUP := 70, tNoCopy := 76, tU32 := 54 }
theorem muLib : Go.Conc.Locks.MuLib Yba.prog muLink :=
  ⟨Yba.func11, Yba.func8, Yba.func18, Yba.func15, Yba.func22, Yba.func23, Yba.func25, Yba.func26, Yba.func24, Yba.func27, Yba.underlying78, Yba.runUnderlying78, Yba.sizeOf78, Yba.isAgg78, Yba.zeroValue78, Yba.underlying80, Yba.runUnderlying80, Yba.sizeOf80, Yba.isAgg80, Yba.zeroValue80, Yba.underlying118, Yba.runUnderlying118, Yba.sizeOf118, Yba.isAgg118, Yba.zeroValue118, Yba.underlying128, Yba.runUnderlying128, Yba.sizeOf128, Yba.isAgg128, Yba.zeroValue128, Yba.underlying130, Yba.runUnderlying130, Yba.sizeOf130, Yba.isAgg130, Yba.zeroValue130, Yba.underlying70, Yba.runUnderlying70, Yba.sizeOf70, Yba.isAgg70, Yba.zeroValue70, Yba.underlying76, Yba.runUnderlying76, Yba.sizeOf76, Yba.isAgg76, Yba.zeroValue76, Yba.underlying21, Yba.runUnderlying21, Yba.sizeOf21, Yba.isAgg21, Yba.zeroValue21, (by kernel_rfl)⟩

theorem bload (a : Addr) (x : Int) (w : World) (hc : w.cell? a = some (.int .u32 x)) :
    Calls Yba.prog 9 #[.pointer (some a)] w fun e w' => e = .returned (.bool (x != 0)) ∧ w' = w := by
  have hl := run_call_load (P := Yba.prog) Yba.func16 (by kernel_rfl) (by kernel_rfl) (by kernel_rfl) .u32 (by kernel_rfl) hc
  go_enter Yba.func9, Yba.ntmps9
  go_wp2
  go_ret
  exact ⟨rfl, rfl⟩

theorem iload (a : Addr) (x : Int) (w : World) (hc : w.cell? a = some (.int .i64 x)) :
    Calls Yba.prog 10 #[.pointer (some a)] w fun e w' => e = .returned (.int .i64 x) ∧ w' = w := by
  have hl := run_call_load (P := Yba.prog) Yba.func17 (by kernel_rfl) (by kernel_rfl) (by kernel_rfl) .i64 (by kernel_rfl) hc
  go_enter Yba.func10, Yba.ntmps10
  go_wp2
  go_ret
  exact ⟨rfl, rfl⟩

theorem iadd (a : Addr) (x y : Int) (w : World) (hc : w.cell? a = some (.int .i64 x)) (hz : w.frozen? a = false) :
    Calls Yba.prog 21 #[.pointer (some a), .int .i64 y] w fun e w' => e = .returned (.int .i64 (wrap64 (x + y))) ∧ w' = w.setCell a (.int .i64 (wrap64 (x + y))) := by
  have hl := run_call_add (P := Yba.prog) Yba.func30 (by kernel_rfl) (by kernel_rfl) (by kernel_rfl) .i64 (by kernel_rfl) (s := wrap64 (x + y)) (y := y) hc hz (by simp [go_sem, wrap64, IntKind.wrap, IntKind.bits, IntKind.signed]; split <;> omega)
  go_enter Yba.func21, Yba.ntmps21
  go_wp2
  go_ret
  exact ⟨rfl, rfl⟩

theorem bstore (a : Addr) (u : Value) (w : World) (hc : w.cell? a = some u) (hz : w.frozen? a = false) :
    Calls Yba.prog 12 #[.pointer (some a), .bool true] w fun e w' => e = .returned (.tuple #[]) ∧ w' = (w.setCell a (.int .u32 1)).drew := by
  have hl1 := run_call_store (P := Yba.prog) Yba.func19 (by kernel_rfl) (by kernel_rfl) (by kernel_rfl) (by kernel_rfl) (a := a) (k := .u32) (y := 1) (u := u) (w := w.drew) hc hz
  go_enter Yba.func12, Yba.ntmps12
  go_wp2
  go_region_calls
  go_end0
  exact ⟨rfl, rfl⟩

set_option maxRecDepth 100000 in
theorem itrylock (a : Addr) (w : World) (hc : w.cell? a = some (.int .i32 0)) (hz : w.frozen? a = false) :
    Calls Yba.prog 14 #[.pointer (some a)] w fun e w' => e = .returned (.bool true) ∧ w' = w.setCell a (.int .i32 1) := by
  have hd := Go.MuLone.disable muLib
  have he := Go.MuLone.enable muLib
  have ha := Go.MuLone.acquire muLib
  have hcas := run_call_cas_hit (P := Yba.prog) Yba.func24 (by kernel_rfl) (by kernel_rfl) (by kernel_rfl) .i32 (by kernel_rfl) (y := 1) hc hz
  have hcv := run_convert_to_unsafe (P := Yba.prog) Yba.underlying128 Yba.underlying70 (by kernel_rfl) (World.cell?_setCell_same w a (.int .i32 1) hc)
  go_enter Yba.func14, Yba.ntmps14
  go_wp2
  go_ret
  exact ⟨rfl, rfl⟩

set_option maxRecDepth 100000 in
theorem trylock (a : Addr) (w : World) (hc : w.cell? a = some (.int .i32 0)) (hz : w.frozen? a = false) :
    Calls Yba.prog 7 #[.pointer (some a)] w fun e w' => e = .returned (.bool true) ∧ w' = w.setCell a (.int .i32 1) := by
  go_enter Yba.func7, Yba.ntmps7
  go_wp2_with (go_at_call 14; refine (itrylock a _ hc hz).mono ?_; rintro e w' ⟨rfl, rfl⟩)
  go_ret
  exact ⟨rfl, rfl⟩

/-- A counter that is there: both words are raised. -/
theorem cadd (b : Nat) (x y n : Int) (w : World) (h0 : w.cell? ⟨b, 0, none⟩ = some (.int .i64 x)) (h1 : w.cell? ⟨b, 1, none⟩ = some (.int .i64 y)) (f0 : w.frozen? ⟨b, 0, none⟩ = false) (f1 : w.frozen? ⟨b, 1, none⟩ = false) :
    Calls Yba.prog 13 #[.pointer (some ⟨b, 0, none⟩), .int .i64 n] w fun e w' => e = .returned (.tuple #[]) ∧ w' = (w.setCell ⟨b, 0, none⟩ (.int .i64 (wrap64 (x + 1)))).setCell ⟨b, 1, none⟩ (.int .i64 (wrap64 (y + n))) := by
  go_enter Yba.func13, Yba.ntmps13
  go_wp2_with fail
  refine (iadd ⟨b, 0, none⟩ x 1 _ h0 f0).mono ?_
  rintro e w' ⟨rfl, rfl⟩
  go_wp2_with fail
  refine (iadd ⟨b, 1, none⟩ y n _ ((World.cell?_setCell_other _ _ _ _ (by simp)).trans h1) (by simp [f1])).mono ?_
  rintro e w' ⟨rfl, rfl⟩
  go_wp2
  go_end0
  exact ⟨rfl, rfl⟩

theorem cadd_nil (n : Int) (w : World) : Calls Yba.prog 13 #[.pointer none, .int .i64 n] w fun e w' => e = .returned (.tuple #[]) ∧ w' = w := by
  go_enter Yba.func13, Yba.ntmps13
  go_wp2
  first | go_end0 | refine bodyPost_ret (results_none rfl _ _ _) rfl ?_
  exact ⟨rfl, rfl⟩

/-- The closure: one more. -/
theorem woke_any (b : Nat) (x : Int) (w : World) (h0 : w.cell? ⟨b, 0, none⟩ = some (.int .i64 x)) (f0 : w.frozen? ⟨b, 0, none⟩ = false) (hx : 0 ≤ x ∧ x ≤ 10) :
    Calls Yba.prog 4 #[.pointer (some ⟨b, 0, none⟩)] w fun e w' => e = .returned (.tuple #[]) ∧ w' = w.setCell ⟨b, 0, none⟩ (.int .i64 (x + 1)) := by
  go_enter Yba.func4, Yba.ntmps4
  go_wp2
  go_end0
  exact ⟨rfl, rfl⟩

/-- An address made of parts. -/
theorem from_any (h l p : Int) (z : Value) (w : World) (hz : z = .pointer none) :
    Calls Yba.prog 5 #[.agg #[.int .u64 h, .int .u64 l, z], .int .u16 p] w fun e w' => e = .returned (.agg #[.int .u64 h, .int .u64 l, z, .int .u16 p]) ∧ Below w.heap.size w w' := by
  subst hz
  go_enter Yba.func5, Yba.ntmps5
  go_wp2
  exact bodyPost_ret (v := .agg #[.int .u64 h, .int .u64 l, .pointer none, .int .u16 p]) (by simp [results, Yba.results5, go_sem]) rfl ⟨rfl, ((Below.refl _ _).alloc (Nat.le_refl _) _).alloc (by simp) _⟩

end Go.Proofs.Ybulkaqia
