import Derived.Test.YbulkfeocDoorCh
namespace Go.Proofs.YbulkfeocDoor
open Go.Conc.Locks Go.RowKit Go.MuLone
set_option linter.unusedVariables false
set_option linter.unusedSimpArgs false

/-- A store of what a cell holds already turns nothing. -/
theorem setCell_self (w : World) (b o : Nat) (v : Value) (h : w.cell? ⟨b, o, none⟩ = some v) : w.setCell ⟨b, o, none⟩ v = w := by
  have e : (w.setCell ⟨b, o, none⟩ v).heap = w.heap := by
    apply Array.ext_getElem?
    intro i
    simp only [World.setCell, Array.getElem?_modify]
    by_cases hi : b = i
    · subst hi
      simp only [World.cell?] at h
      cases hb : w.heap[b]? with
      | none => simp
      | some ob =>
        rw [hb] at h
        cases ob with
        | cells c t fz =>
          have h1 : c[o]? = some v := by simpa using h
          have hlt : o < c.size := (Array.getElem?_eq_some_iff.1 h1).1
          have : c.setIfInBounds o v = c := by
            apply Array.ext_getElem?
            intro j
            rw [Array.getElem?_setIfInBounds]
            by_cases hj : o = j
            · subst hj
              rw [if_pos rfl, if_pos hlt, h1]
            · rw [if_neg hj]
          simp [this]
        | _ => simp
    · simp [hi]
  cases w
  simp only [World.setCell] at e ⊢
  rw [e]
theorem setCell_two (w : World) (b o : Nat) (u v : Value) : (w.setCell ⟨b, o, none⟩ u).setCell ⟨b, o, none⟩ v = w.setCell ⟨b, o, none⟩ v := by
  have e : ((w.setCell ⟨b, o, none⟩ u).setCell ⟨b, o, none⟩ v).heap = (w.setCell ⟨b, o, none⟩ v).heap := by
    apply Array.ext_getElem?
    intro i
    simp only [World.setCell, Array.getElem?_modify]
    by_cases hi : b = i
    · subst hi
      cases hb : w.heap[b]? with
      | none => simp
      | some ob => cases ob <;> simp
    · simp [hi]
  cases w
  simp only [World.setCell] at e ⊢
  rw [e]
theorem setCell_back (w : World) (b o : Nat) (u v : Value) (h : w.cell? ⟨b, o, none⟩ = some v) : (w.setCell ⟨b, o, none⟩ u).setCell ⟨b, o, none⟩ v = w := by
  rw [setCell_two, setCell_self w b o v h]

set_option maxHeartbeats 1000000 in
/-- A process that is held (Ready, not orphaned) or complete is not finished; its lock is taken and given back: nothing has turned. -/
theorem finish_not (b : Nat) (st : Int) (o : Bool) (w : World) (hm : w.cell? ⟨b, 10, none⟩ = some (.int .i32 0)) (hs : w.cell? ⟨b, 12, none⟩ = some (.int .u8 st)) (hz : w.frozen? ⟨b, 10, none⟩ = false)
    (hst : (st = 0 ∧ o = false) ∨ st = 3) :
    Calls Ybad.prog 16 #[.pointer (some ⟨b, 0, none⟩), .bool o] w fun e w' => e = .returned (.bool false) ∧ w' = w := by
  have hback := setCell_back w b 10 (.int .i32 1) (.int .i32 0) hm
  have HB : Hid ((w.setCell ⟨b, 10, none⟩ (.int .i32 1)).setCell ⟨b, 10, none⟩ (.int .i32 0) = w) := hback
  clear hback
  have hl : (w.setCell ⟨b, 10, none⟩ (.int .i32 1)).cell? ⟨b, 10, none⟩ = some (.int .i32 1) := World.cell?_setCell_same _ _ _ hm
  rcases hst with ⟨rfl, rfl⟩ | rfl
  all_goals
    go_enter_defers Ybad.func16, Ybad.ntmps16
    go_wp2_with (go_at_call 21; refine (lock_free muLib ⟨b, 10, none⟩ _ hm hz).mono ?_; rintro e w' ⟨rfl, rfl⟩)
    refine leaves_cons (f := 23) (args := #[.pointer (some ⟨b, 10, none⟩)]) (by simp) (by simp [go_sem]) ?_
    refine (unlock_deferred muLib ⟨b, 10, none⟩ .returning _ ?_ ?_).mono ?_
    · exact hl
    · simp [hz]
    rintro e u' w'' ⟨rfl, rfl, rfl⟩
    exact ⟨_, results_tmp rfl _ _ _, rfl, HB.out⟩
end Go.Proofs.YbulkfeocDoor
