import Derived.Test.YbulkfeocDoorProg
import Derived.WalkKit
import Derived.WalkSpells
import Derived.WalkSmall
import Derived.Deep.QuietTactic
import Derived.BigQuiet
import Derived.Deep.RegionHeld2
import Derived.Deep.DeepMust
import Derived.Conc.MuLone
import Derived.KernelRfl
namespace Go.Proofs.YbulkfeocDoor
open Go.RowKit Go.Conc.Locks
set_option linter.unusedVariables false
set_option linter.unusedSimpArgs false

/-- The numbers under which this dump holds sync.Mutex. -/
abbrev mul : MuLink := { lock := 21, unlock := 23, ilock := 31, iunlock := 32, lockSlow := 41, unlockSlow := 44, disable := 37, enable := 39, acquire := 40, relMerge := 42, cas32 := 38, add32 := 43, tMutex := 41, tIMutex := 39, tPMutex := 70, tPIMutex := 134, tPI32 := 136, tUP := 33, tNoCopy := 37, tU32 := 23 }
theorem muLib : MuLib Ybad.prog mul :=
  ⟨Ybad.func21, Ybad.func23, Ybad.func31, Ybad.func32, Ybad.func37, Ybad.func39, Ybad.func40, Ybad.func42, Ybad.func38, Ybad.func43, Ybad.underlying39, Ybad.runUnderlying39, Ybad.sizeOf39, Ybad.isAgg39, Ybad.zeroValue39, Ybad.underlying41, Ybad.runUnderlying41, Ybad.sizeOf41, Ybad.isAgg41, Ybad.zeroValue41, Ybad.underlying70, Ybad.runUnderlying70, Ybad.sizeOf70, Ybad.isAgg70, Ybad.zeroValue70, Ybad.underlying134, Ybad.runUnderlying134, Ybad.sizeOf134, Ybad.isAgg134, Ybad.zeroValue134, Ybad.underlying136, Ybad.runUnderlying136, Ybad.sizeOf136, Ybad.isAgg136, Ybad.zeroValue136, Ybad.underlying33, Ybad.runUnderlying33, Ybad.sizeOf33, Ybad.isAgg33, Ybad.zeroValue33, Ybad.underlying37, Ybad.runUnderlying37, Ybad.sizeOf37, Ybad.isAgg37, Ybad.zeroValue37, Ybad.underlying21, Ybad.runUnderlying21, Ybad.sizeOf21, Ybad.isAgg21, Ybad.zeroValue21, by kernel_rfl⟩

/-! ### sync/atomic, one goroutine -/
theorem load64 (b o : Nat) (x : Int) (w : World) (hc : w.cell? ⟨b, o, none⟩ = some (.int .i64 x)) :
    Calls Ybad.prog 7 #[.pointer (some ⟨b, o, none⟩)] w fun e w' => e = .returned (.int .i64 x) ∧ w' = w := by
  have h := run_call_load Ybad.func19 (by kernel_rfl) (by kernel_rfl) (by kernel_rfl) .i64 (by kernel_rfl) hc
  go_enter Ybad.func7, Ybad.ntmps7
  go_wp2
  go_ret
  exact ⟨rfl, rfl⟩
theorem store64 (b o : Nat) (y : Int) (u : Value) (w : World) (hc : w.cell? ⟨b, o, none⟩ = some u) (hz : w.frozen? ⟨b, o, none⟩ = false) :
    Calls Ybad.prog 4 #[.pointer (some ⟨b, o, none⟩), .int .i64 y] w fun e w' => e = .returned (.tuple #[]) ∧ w' = w.setCell ⟨b, o, none⟩ (.int .i64 y) := by
  have h := run_call_store (k := .i64) (y := y) Ybad.func10 (by kernel_rfl) (by kernel_rfl) (by kernel_rfl) (by kernel_rfl) hc hz
  go_enter Ybad.func4, Ybad.ntmps4
  go_wp2
  go_end0
  exact ⟨rfl, rfl⟩
theorem add64 (b o : Nat) (x y : Int) (w : World) (hc : w.cell? ⟨b, o, none⟩ = some (.int .i64 x)) (hz : w.frozen? ⟨b, o, none⟩ = false) :
    Calls Ybad.prog 15 #[.pointer (some ⟨b, o, none⟩), .int .i64 y] w fun e w' => e = .returned (.int .i64 (wrap64 (x + y))) ∧ w' = w.setCell ⟨b, o, none⟩ (.int .i64 (wrap64 (x + y))) := by
  have h := run_call_add (y := y) (s := wrap64 (x + y)) Ybad.func24 (by kernel_rfl) (by kernel_rfl) (by kernel_rfl) .i64 (by kernel_rfl) hc hz (by simp [go_sem, wrap64, IntKind.wrap_i64])
  go_enter Ybad.func15, Ybad.ntmps15
  go_wp2
  go_ret
  exact ⟨rfl, rfl⟩
theorem loadBool (b o : Nat) (x : Bool) (w : World) (hc : w.cell? ⟨b, o, none⟩ = some (.int .u32 (if x then 1 else 0))) :
    Calls Ybad.prog 9 #[.pointer (some ⟨b, o, none⟩)] w fun e w' => e = .returned (.bool x) ∧ w' = w := by
  cases x
  · have h := run_call_load Ybad.func20 (by kernel_rfl) (by kernel_rfl) (by kernel_rfl) .u32 (by kernel_rfl) hc
    go_enter Ybad.func9, Ybad.ntmps9
    go_wp2
    go_ret
    exact ⟨rfl, rfl⟩
  · have h := run_call_load Ybad.func20 (by kernel_rfl) (by kernel_rfl) (by kernel_rfl) .u32 (by kernel_rfl) hc
    go_enter Ybad.func9, Ybad.ntmps9
    go_wp2
    go_ret
    exact ⟨rfl, rfl⟩
theorem b32 (x : Bool) (w : World) : Calls Ybad.prog 12 #[.bool x] w fun e w' => e = .returned (.int .u32 (if x then 1 else 0)) ∧ w' = w := by
  cases x
  all_goals
    go_enter Ybad.func12, Ybad.ntmps12
    go_wp2
    go_ret
    exact ⟨rfl, rfl⟩
theorem storeBool (b o : Nat) (x : Bool) (u : Value) (w : World) (hc : w.cell? ⟨b, o, none⟩ = some u) (hz : w.frozen? ⟨b, o, none⟩ = false) :
    Calls Ybad.prog 5 #[.pointer (some ⟨b, o, none⟩), .bool x] w fun e w' => e = .returned (.tuple #[]) ∧ w' = (w.setCell ⟨b, o, none⟩ (.int .u32 (if x then 1 else 0))).drew := by
  cases x
  · have h := run_call_store (w := w.drew) (k := .u32) (y := 0) Ybad.func11 (by kernel_rfl) (by kernel_rfl) (by kernel_rfl) (by kernel_rfl) hc hz
    go_enter Ybad.func5, Ybad.ntmps5
    go_wp2
    go_region_with (go_at_call 12; refine (b32 false _).mono ?_; rintro e w' ⟨rfl, rfl⟩)
    all_goals go_wp2
    all_goals go_end0
    all_goals exact ⟨rfl, rfl⟩
  · have h := run_call_store (w := w.drew) (k := .u32) (y := 1) Ybad.func11 (by kernel_rfl) (by kernel_rfl) (by kernel_rfl) (by kernel_rfl) hc hz
    go_enter Ybad.func5, Ybad.ntmps5
    go_wp2
    go_region_with (go_at_call 12; refine (b32 true _).mono ?_; rintro e w' ⟨rfl, rfl⟩)
    all_goals go_wp2
    all_goals go_end0
    all_goals exact ⟨rfl, rfl⟩
end Go.Proofs.YbulkfeocDoor
