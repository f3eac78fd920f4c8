import Derived.Test.YbulkfeocProg
import Derived.WalkKit
import Derived.WalkSpells
import Derived.WalkSmall
import Derived.Deep.QuietTactic
import Derived.BigQuiet
import Derived.Deep.RegionHeld2
import Derived.Deep.DeepMust
import Derived.Deep.LoopGhost
import Derived.Conc.MuLone
import Derived.Lib.Builder
import Derived.KernelRfl
namespace Go.Proofs.Ybulkfeoc
open Go.RowKit Go.Conc.Locks
set_option linter.unusedVariables false
set_option linter.unusedSimpArgs false

theorem hide {p : Prop} (h : p) : Hid p := h
/-- The numbers under which this dump holds sync.Mutex. -/
abbrev mul : MuLink := { lock := 38, unlock := 10, ilock := 48, iunlock := 27, lockSlow := 53, unlockSlow := 46, disable := 40, enable := 41, acquire := 43, relMerge := 44, cas32 := 42, add32 := 45, tMutex := 40, tIMutex := 38, tPMutex := 70, tPIMutex := 146, tPI32 := 117, tUP := 31, tNoCopy := 35, tU32 := 36 }
theorem muLib : MuLib Yba.prog mul :=
  ⟨Yba.func38, Yba.func10, Yba.func48, Yba.func27, Yba.func40, Yba.func41, Yba.func43, Yba.func44, Yba.func42, Yba.func45, Yba.underlying38, Yba.runUnderlying38, Yba.sizeOf38, Yba.isAgg38, Yba.zeroValue38, Yba.underlying40, Yba.runUnderlying40, Yba.sizeOf40, Yba.isAgg40, Yba.zeroValue40, Yba.underlying70, Yba.runUnderlying70, Yba.sizeOf70, Yba.isAgg70, Yba.zeroValue70, Yba.underlying146, Yba.runUnderlying146, Yba.sizeOf146, Yba.isAgg146, Yba.zeroValue146, Yba.underlying117, Yba.runUnderlying117, Yba.sizeOf117, Yba.isAgg117, Yba.zeroValue117, Yba.underlying31, Yba.runUnderlying31, Yba.sizeOf31, Yba.isAgg31, Yba.zeroValue31, Yba.underlying35, Yba.runUnderlying35, Yba.sizeOf35, Yba.isAgg35, Yba.zeroValue35, Yba.underlying21, Yba.runUnderlying21, Yba.sizeOf21, Yba.isAgg21, Yba.zeroValue21, by kernel_rfl⟩

/-! ### sync/atomic, one goroutine -/
theorem load64 (b o : Nat) (x : Int) (w : World) (hc : w.cell? ⟨b, o, none⟩ = some (.int .i64 x)) :
    Calls Yba.prog 18 #[.pointer (some ⟨b, o, none⟩)] w fun e w' => e = .returned (.int .i64 x) ∧ w' = w := by
  have h := run_call_load Yba.func33 (by kernel_rfl) (by kernel_rfl) (by kernel_rfl) .i64 (by kernel_rfl) hc
  go_enter Yba.func18, Yba.ntmps18
  go_wp2
  go_ret
  exact ⟨rfl, rfl⟩
theorem store64 (b o : Nat) (y : Int) (u : Value) (w : World) (hc : w.cell? ⟨b, o, none⟩ = some u) (hz : w.frozen? ⟨b, o, none⟩ = false) :
    Calls Yba.prog 20 #[.pointer (some ⟨b, o, none⟩), .int .i64 y] w fun e w' => e = .returned (.tuple #[]) ∧ w' = w.setCell ⟨b, o, none⟩ (.int .i64 y) := by
  have h := run_call_store (k := .i64) (y := y) Yba.func34 (by kernel_rfl) (by kernel_rfl) (by kernel_rfl) (by kernel_rfl) hc hz
  go_enter Yba.func20, Yba.ntmps20
  go_wp2
  go_end0
  exact ⟨rfl, rfl⟩
theorem cas64 (b o : Nat) (x y : Int) (w : World) (hc : w.cell? ⟨b, o, none⟩ = some (.int .i64 x)) (hz : w.frozen? ⟨b, o, none⟩ = false) :
    Calls Yba.prog 32 #[.pointer (some ⟨b, o, none⟩), .int .i64 x, .int .i64 y] w fun e w' => e = .returned (.bool true) ∧ w' = w.setCell ⟨b, o, none⟩ (.int .i64 y) := by
  have h := run_call_cas_hit (y := y) Yba.func47 (by kernel_rfl) (by kernel_rfl) (by kernel_rfl) .i64 (by kernel_rfl) hc hz
  go_enter Yba.func32, Yba.ntmps32
  go_wp2
  go_ret
  exact ⟨rfl, rfl⟩
theorem load32 (b o : Nat) (x : Int) (w : World) (hc : w.cell? ⟨b, o, none⟩ = some (.int .i32 x)) :
    Calls Yba.prog 12 #[.pointer (some ⟨b, o, none⟩)] w fun e w' => e = .returned (.int .i32 x) ∧ w' = w := by
  have h := run_call_load Yba.func29 (by kernel_rfl) (by kernel_rfl) (by kernel_rfl) .i32 (by kernel_rfl) hc
  go_enter Yba.func12, Yba.ntmps12
  go_wp2
  go_ret
  exact ⟨rfl, rfl⟩
theorem store32 (b o : Nat) (y : Int) (u : Value) (w : World) (hc : w.cell? ⟨b, o, none⟩ = some u) (hz : w.frozen? ⟨b, o, none⟩ = false) :
    Calls Yba.prog 4 #[.pointer (some ⟨b, o, none⟩), .int .i32 y] w fun e w' => e = .returned (.tuple #[]) ∧ w' = w.setCell ⟨b, o, none⟩ (.int .i32 y) := by
  have h := run_call_store (k := .i32) (y := y) Yba.func15 (by kernel_rfl) (by kernel_rfl) (by kernel_rfl) (by kernel_rfl) hc hz
  go_enter Yba.func4, Yba.ntmps4
  go_wp2
  go_end0
  exact ⟨rfl, rfl⟩
theorem loadBool (b o : Nat) (x : Bool) (w : World) (hc : w.cell? ⟨b, o, none⟩ = some (.int .u32 (if x then 1 else 0))) :
    Calls Yba.prog 11 #[.pointer (some ⟨b, o, none⟩)] w fun e w' => e = .returned (.bool x) ∧ w' = w := by
  cases x
  · have h := run_call_load Yba.func28 (by kernel_rfl) (by kernel_rfl) (by kernel_rfl) .u32 (by kernel_rfl) hc
    go_enter Yba.func11, Yba.ntmps11
    go_wp2
    go_ret
    exact ⟨rfl, rfl⟩
  · have h := run_call_load Yba.func28 (by kernel_rfl) (by kernel_rfl) (by kernel_rfl) .u32 (by kernel_rfl) hc
    go_enter Yba.func11, Yba.ntmps11
    go_wp2
    go_ret
    exact ⟨rfl, rfl⟩
theorem b32 (x : Bool) (w : World) : Calls Yba.prog 17 #[.bool x] w fun e w' => e = .returned (.int .u32 (if x then 1 else 0)) ∧ w' = w := by
  cases x
  all_goals
    go_enter Yba.func17, Yba.ntmps17
    go_wp2
    go_ret
    exact ⟨rfl, rfl⟩
theorem storeTrue (b o : Nat) (u : Value) (w : World) (hc : w.cell? ⟨b, o, none⟩ = some u) (hz : w.frozen? ⟨b, o, none⟩ = false) :
    Calls Yba.prog 5 #[.pointer (some ⟨b, o, none⟩), .bool true] w fun e w' => e = .returned (.tuple #[]) ∧ w' = (w.setCell ⟨b, o, none⟩ (.int .u32 1)).drew := by
  have h := run_call_store (w := w.drew) (k := .u32) (y := 1) Yba.func16 (by kernel_rfl) (by kernel_rfl) (by kernel_rfl) (by kernel_rfl) hc hz
  go_enter Yba.func5, Yba.ntmps5
  go_wp2
  go_region_with (go_at_call 17; refine (b32 true _).mono ?_; rintro e w' ⟨rfl, rfl⟩)
  all_goals go_wp2
  all_goals go_end0
  all_goals exact ⟨rfl, rfl⟩

/-! ### atomic.Pointer -/
section
variable {P : Program} {f : FuncId} {fn : Func}
theorem run_call_loadP (hf : P.funcs[f]? = some fn) (hname : (fn.name == "runtime.NumGoroutine") = false) (hb : fn.body.isNone = true) (hn : Extern.findNext fn = none)
    (he : Extern.find fn = some (Extern.Atomic.loadT .ptr)) {a : Addr} {p : Option Addr} {w : World} (hc : w.cell? a = some (.pointer p)) :
    (callFunc f #[.pointer (some a)]).run P w = .ok (.value (.pointer p)) w := by
  rw [run_callFunc_extern hf hname hb hn he]
  change (Sem.run P (do Extern.Atomic.read .ptr (← asAddr (.pointer (some a)))) w).andThen _ = _
  simp [Extern.Atomic.read, asAddr, hc, Result.andThen]
theorem run_call_storeP (hf : P.funcs[f]? = some fn) (hname : (fn.name == "runtime.NumGoroutine") = false) (hb : fn.body.isNone = true) (hn : Extern.findNext fn = none)
    (he : Extern.find fn = some Extern.Atomic.storeT) {a : Addr} {p : Option Addr} {u : Value} {w : World} (hc : w.cell? a = some u) (hz : w.frozen? a = false) :
    (callFunc f #[.pointer (some a), .pointer p]).run P w = .ok (.value (.tuple #[])) (w.setCell a (.pointer p)) := by
  rw [run_callFunc_extern hf hname hb hn he]
  change (Sem.run P (do
    store (← asAddr (.pointer (some a))) (.pointer p) .atomic
    pure Extern.Atomic.none_) w).andThen _ = _
  simp [asAddr, hc, hz, run_store P w a (.pointer p) .atomic rfl, Result.andThen, Extern.Atomic.none_]
end
/-- A process that lies whole in a block of its own; the same of a ring. -/
def Lies (w : World) (t n : Nat) (g : Nat) : Prop := w.shape? g = some (t, n)
theorem Yba.lies108 : liesAt Yba.prog Yba.prog.depth 108 (21 / Yba.prog.cellsOf 108) 0 108 1 = true := by kernel_rfl
theorem Yba.lies129 : liesAt Yba.prog Yba.prog.depth 129 (1 / Yba.prog.cellsOf 129) 0 129 1 = true := by kernel_rfl
theorem Yba.info108 : (Yba.prog.info? 108).map (·.size) = some 21 := by kernel_rfl
theorem Yba.info129 : (Yba.prog.info? 129).map (·.size) = some 1 := by kernel_rfl
theorem from108 (g : Nat) (w : World) (h : w.shape? g = some (108, 21)) : (convert 31 80 (.pointer (some ⟨g, 0, none⟩))).run Yba.prog w = .ok (.pointer (some ⟨g, 0, none⟩)) w := by
  obtain ⟨i, hi, _⟩ := Option.map_eq_some_iff.1 Yba.info108
  exact Lib.run_from_unsafe w ⟨g, 0, none⟩ Yba.underlying31 Yba.underlying80 hi h Yba.lies108
theorem to108 (g : Nat) (w : World) (h : w.shape? g = some (108, 21)) : (convert 80 31 (.pointer (some ⟨g, 0, none⟩))).run Yba.prog w = .ok (.pointer (some ⟨g, 0, none⟩)) w := by
  obtain ⟨i, hi, hs⟩ := Option.map_eq_some_iff.1 Yba.info108
  exact Lib.run_to_unsafe w ⟨g, 0, none⟩ Yba.underlying80 Yba.underlying31 hi (by omega) h (by show 0 < 21; omega)
theorem from129 (g : Nat) (w : World) (h : w.shape? g = some (129, 1)) : (convert 31 74 (.pointer (some ⟨g, 0, none⟩))).run Yba.prog w = .ok (.pointer (some ⟨g, 0, none⟩)) w := by
  obtain ⟨i, hi, _⟩ := Option.map_eq_some_iff.1 Yba.info129
  exact Lib.run_from_unsafe w ⟨g, 0, none⟩ Yba.underlying31 Yba.underlying74 hi h Yba.lies129
theorem to129 (g : Nat) (w : World) (h : w.shape? g = some (129, 1)) : (convert 74 31 (.pointer (some ⟨g, 0, none⟩))).run Yba.prog w = .ok (.pointer (some ⟨g, 0, none⟩)) w := by
  obtain ⟨i, hi, hs⟩ := Option.map_eq_some_iff.1 Yba.info129
  exact Lib.run_to_unsafe w ⟨g, 0, none⟩ Yba.underlying74 Yba.underlying31 hi (by omega) h (by show 0 < 1; omega)

theorem toNil (w : World) : (convert 80 31 (.pointer none)).run Yba.prog w = .ok (.pointer none) w := by
  simp [convert, run_underlying Yba.underlying80, run_underlying Yba.underlying31, Conv.unsafePointer, Conv.seenAt]
theorem fromNil (w : World) : (convert 31 74 (.pointer none)).run Yba.prog w = .ok (.pointer none) w := by
  simp [convert, run_underlying Yba.underlying74, run_underlying Yba.underlying31, Conv.unsafePointer, Conv.seenAt]

theorem loadProc (b o : Nat) (g : Nat) (w : World) (hc : w.cell? ⟨b, o, none⟩ = some (.pointer (some ⟨g, 0, none⟩))) (hg : w.shape? g = some (108, 21)) :
    Calls Yba.prog 31 #[.pointer (some ⟨b, o, none⟩)] w fun e w' => e = .returned (.pointer (some ⟨g, 0, none⟩)) ∧ w' = w := by
  have h := run_call_loadP Yba.func35 (by kernel_rfl) (by kernel_rfl) (by kernel_rfl) (by kernel_rfl) hc
  have h2 := from108 g w hg
  go_enter Yba.func31, Yba.ntmps31
  go_wp2
  go_ret
  exact ⟨rfl, rfl⟩
theorem storeProc (b o : Nat) (g : Nat) (u : Value) (w : World) (hc : w.cell? ⟨b, o, none⟩ = some u) (hz : w.frozen? ⟨b, o, none⟩ = false) (hg : w.shape? g = some (108, 21)) :
    Calls Yba.prog 24 #[.pointer (some ⟨b, o, none⟩), .pointer (some ⟨g, 0, none⟩)] w fun e w' => e = .returned (.tuple #[]) ∧ w' = w.setCell ⟨b, o, none⟩ (.pointer (some ⟨g, 0, none⟩)) := by
  have h := run_call_storeP (p := some ⟨g, 0, none⟩) Yba.func37 (by kernel_rfl) (by kernel_rfl) (by kernel_rfl) (by kernel_rfl) hc hz
  have h2 := to108 g w hg
  go_enter Yba.func24, Yba.ntmps24
  go_wp2
  go_end0
  exact ⟨rfl, rfl⟩
theorem storeNil (b o : Nat) (u : Value) (w : World) (hc : w.cell? ⟨b, o, none⟩ = some u) (hz : w.frozen? ⟨b, o, none⟩ = false) :
    Calls Yba.prog 24 #[.pointer (some ⟨b, o, none⟩), .pointer none] w fun e w' => e = .returned (.tuple #[]) ∧ w' = w.setCell ⟨b, o, none⟩ (.pointer none) := by
  have h := run_call_storeP (p := none) Yba.func37 (by kernel_rfl) (by kernel_rfl) (by kernel_rfl) (by kernel_rfl) hc hz
  have h2 := toNil w
  go_enter Yba.func24, Yba.ntmps24
  go_wp2
  go_end0
  exact ⟨rfl, rfl⟩
theorem loadRing (b o : Nat) (g : Nat) (w : World) (hc : w.cell? ⟨b, o, none⟩ = some (.pointer (some ⟨g, 0, none⟩))) (hg : w.shape? g = some (129, 1)) :
    Calls Yba.prog 21 #[.pointer (some ⟨b, o, none⟩)] w fun e w' => e = .returned (.pointer (some ⟨g, 0, none⟩)) ∧ w' = w := by
  have h := run_call_loadP Yba.func35 (by kernel_rfl) (by kernel_rfl) (by kernel_rfl) (by kernel_rfl) hc
  have h2 := from129 g w hg
  go_enter Yba.func21, Yba.ntmps21
  go_wp2
  go_ret
  exact ⟨rfl, rfl⟩
theorem loadRingNil (b o : Nat) (w : World) (hc : w.cell? ⟨b, o, none⟩ = some (.pointer none)) :
    Calls Yba.prog 21 #[.pointer (some ⟨b, o, none⟩)] w fun e w' => e = .returned (.pointer none) ∧ w' = w := by
  have h := run_call_loadP Yba.func35 (by kernel_rfl) (by kernel_rfl) (by kernel_rfl) (by kernel_rfl) hc
  have h2 := fromNil w
  go_enter Yba.func21, Yba.ntmps21
  go_wp2
  go_ret
  exact ⟨rfl, rfl⟩
theorem storeRing (b o : Nat) (g : Nat) (u : Value) (w : World) (hc : w.cell? ⟨b, o, none⟩ = some u) (hz : w.frozen? ⟨b, o, none⟩ = false) (hg : w.shape? g = some (129, 1)) :
    Calls Yba.prog 36 #[.pointer (some ⟨b, o, none⟩), .pointer (some ⟨g, 0, none⟩)] w fun e w' => e = .returned (.tuple #[]) ∧ w' = w.setCell ⟨b, o, none⟩ (.pointer (some ⟨g, 0, none⟩)) := by
  have h := run_call_storeP (p := some ⟨g, 0, none⟩) Yba.func37 (by kernel_rfl) (by kernel_rfl) (by kernel_rfl) (by kernel_rfl) hc hz
  have h2 := to129 g w hg
  go_enter Yba.func36, Yba.ntmps36
  go_wp2
  go_end0
  exact ⟨rfl, rfl⟩
end Go.Proofs.Ybulkfeoc
