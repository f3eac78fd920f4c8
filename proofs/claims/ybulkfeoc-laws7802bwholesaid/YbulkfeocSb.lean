import Derived.Test.YbulkfeocSa
namespace Go.Proofs.Ybulkfeoc
open Go.RowKit Go.Conc Go.Conc.Locks Go.MuLone
set_option linter.unusedVariables false
set_option linter.unusedSimpArgs false

section
variable {P : Program} {f : FuncId} {fn : Func}
theorem run_call_check (hf : P.funcs[f]? = some fn) (hname : (fn.name == "runtime.NumGoroutine") = false) (hb : fn.body.isNone = true) (hn : Extern.findNext fn = none)
    (he : Extern.find fn = some Extern.SyncCond.check) {a : Addr} {w : World} (hc : w.cell? a = some (.int .u64 0)) (hz : w.frozen? a = false) :
    (callFunc f #[.pointer (some a)]).run P w = .ok (.value (.tuple #[])) (w.setCell a (.pointer (some a))) := by
  rw [run_callFunc_extern hf hname hb hn he]
  refine Eq.trans (b := (Sem.run P (Bind.bind (asAddr (.pointer (some a))) (_ : Addr → Sem Value)) w).andThen _) rfl ?_
  simp [Extern.SyncCond.isSelf, Extern.SyncCond.none_, asAddr, hc, hz, run_store P w a (.pointer (some a)) .atomic rfl, Result.andThen]
theorem run_call_notifyOne (hf : P.funcs[f]? = some fn) (hname : (fn.name == "runtime.NumGoroutine") = false) (hb : fn.body.isNone = true) (hn : Extern.findNext fn = none)
    (he : Extern.find fn = some Extern.SyncCond.notifyOne) {b o : Nat} {w : World} (h0 : w.cell? ⟨b, o, none⟩ = some (.int .u32 0)) (h1 : w.cell? ⟨b, o + 1, none⟩ = some (.int .u32 0)) :
    (callFunc f #[.pointer (some ⟨b, o, none⟩)]).run P w = .ok (.value (.tuple #[])) w := by
  rw [run_callFunc_extern hf hname hb hn he]
  simp [Extern.SyncCond.notifyOne, Extern.SyncCond.list, Extern.SyncCond.counter, Extern.SyncCond.none_, Addr.add, h0, h1, Result.andThen]
end

theorem signal39 (B : Nat) (w : World) (hc : w.cell? ⟨B, 323, none⟩ = some (.int .u64 0)) (hz : w.frozen? ⟨B, 323, none⟩ = false) (h0 : w.cell? ⟨B, 318, none⟩ = some (.int .u32 0)) (h1 : w.cell? ⟨B, 319, none⟩ = some (.int .u32 0)) :
    Calls Yba.prog 39 #[.pointer (some ⟨B, 317, none⟩)] w fun e w' => e = .returned (.tuple #[]) ∧ w' = w.setCell ⟨B, 323, none⟩ (.pointer (some ⟨B, 323, none⟩)) := by
  have q1 := run_call_check Yba.func49 (by kernel_rfl) (by kernel_rfl) (by kernel_rfl) (by kernel_rfl) hc hz
  have q2 := run_call_notifyOne (w := w.setCell ⟨B, 323, none⟩ (.pointer (some ⟨B, 323, none⟩))) (b := B) (o := 318) Yba.func50 (by kernel_rfl) (by kernel_rfl) (by kernel_rfl) (by kernel_rfl) ((World.cell?_setCell_other _ _ _ _ (by simp)).trans h0) ((World.cell?_setCell_other _ _ _ _ (by simp)).trans h1)
  go_enter Yba.func39, Yba.ntmps39
  go_wp2
  go_end0
  exact ⟨rfl, rfl⟩

set_option maxRecDepth 10000 in
theorem tryLock26 (B o : Nat) (w : World) (hc : w.cell? ⟨B, o, none⟩ = some (.int .i32 0)) (hz : w.frozen? ⟨B, o, none⟩ = false) :
    Calls Yba.prog 26 #[.pointer (some ⟨B, o, none⟩)] w fun e w' => e = .returned (.bool true) ∧ w' = w.setCell ⟨B, o, none⟩ (.int .i32 1) := by
  have q1 : ∀ w, (callFunc 40 #[]).run Yba.prog w = .ok (.value (.tuple #[])) w := fun w => disable muLib w
  have q2 : ∀ w, (callFunc 41 #[]).run Yba.prog w = .ok (.value (.tuple #[])) w := fun w => enable muLib w
  have q3 := run_call_cas_hit (y := 1) Yba.func42 (by kernel_rfl) (by kernel_rfl) (by kernel_rfl) .i32 (by kernel_rfl) hc hz
  have q4 : ∀ a w, (callFunc 43 #[.pointer (some a)]).run Yba.prog w = .ok (.value (.tuple #[])) w := fun a w => acquire muLib a w
  have q5 : (convert 146 31 (.pointer (some ⟨B, o, none⟩))).run Yba.prog (w.setCell ⟨B, o, none⟩ (.int .i32 1)) = .ok (.pointer (some ⟨B, o, none⟩)) (w.setCell ⟨B, o, none⟩ (.int .i32 1)) :=
    run_convert_to_unsafe Yba.underlying146 Yba.underlying31 (by kernel_rfl) (World.cell?_setCell_same _ _ _ hc)
  have z1 : bits .and .i32 0 5 = 0 := by decide
  have z2 : bits .or .i32 0 1 = 1 := by decide
  go_enter Yba.func26, Yba.ntmps26
  go_wp2
  go_ret
  exact ⟨rfl, rfl⟩
theorem tryLock9 (B o : Nat) (w : World) (hc : w.cell? ⟨B, o, none⟩ = some (.int .i32 0)) (hz : w.frozen? ⟨B, o, none⟩ = false) :
    Calls Yba.prog 9 #[.pointer (some ⟨B, o, none⟩)] w fun e w' => e = .returned (.bool true) ∧ w' = w.setCell ⟨B, o, none⟩ (.int .i32 1) := by
  go_enter Yba.func9, Yba.ntmps9
  go_wp2_with fail
  refine (tryLock26 B o w hc hz).mono ?_
  rintro e w' ⟨rfl, rfl⟩
  go_wp2
  go_ret
  exact ⟨rfl, rfl⟩
end Go.Proofs.Ybulkfeoc
