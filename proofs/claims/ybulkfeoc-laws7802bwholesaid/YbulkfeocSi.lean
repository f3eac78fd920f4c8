import Derived.Test.YbulkfeocSh
namespace Go.Proofs.Ybulkfeoc
open Go.RowKit Go.Conc Go.Conc.Locks Go.MuLone
set_option linter.unusedVariables false
set_option linter.unusedSimpArgs false

/-- A store of what a cell holds already turns nothing. -/
theorem setCell_self (w : World) (b o : Nat) (v : Value) (h : w.cell? ⟨b, o, none⟩ = some v) : w.setCell ⟨b, o, none⟩ v = w := by
  have e : (w.setCell ⟨b, o, none⟩ v).heap = w.heap := by
    apply Array.ext_getElem?
    intro i
    simp only [World.setCell, Array.getElem?_modify]
    by_cases hi : b = i
    · subst hi
      simp only [World.cell?] at h
      cases hb : w.heap[b]? with
      | none => simp
      | some ob =>
        rw [hb] at h
        cases ob with
        | cells c t fz =>
          have h1 : c[o]? = some v := by simpa using h
          have hlt : o < c.size := (Array.getElem?_eq_some_iff.1 h1).1
          have : c.setIfInBounds o v = c := by
            apply Array.ext_getElem?
            intro j
            rw [Array.getElem?_setIfInBounds]
            by_cases hj : o = j
            · subst hj
              rw [if_pos rfl, if_pos hlt, h1]
            · rw [if_neg hj]
          simp [this]
        | _ => simp
    · simp [hi]
  cases w
  simp only [World.setCell] at e ⊢
  rw [e]
theorem setCell_two (w : World) (b o : Nat) (u v : Value) : (w.setCell ⟨b, o, none⟩ u).setCell ⟨b, o, none⟩ v = w.setCell ⟨b, o, none⟩ v := by
  have e : ((w.setCell ⟨b, o, none⟩ u).setCell ⟨b, o, none⟩ v).heap = (w.setCell ⟨b, o, none⟩ v).heap := by
    apply Array.ext_getElem?
    intro i
    simp only [World.setCell, Array.getElem?_modify]
    by_cases hi : b = i
    · subst hi
      cases hb : w.heap[b]? with
      | none => simp
      | some ob => cases ob <;> simp
    · simp [hi]
  cases w
  simp only [World.setCell] at e ⊢
  rw [e]
theorem setCell_back (w : World) (b o : Nat) (u v : Value) (h : w.cell? ⟨b, o, none⟩ = some v) : (w.setCell ⟨b, o, none⟩ u).setCell ⟨b, o, none⟩ v = w := by
  rw [setCell_two, setCell_self w b o v h]

/-- The scheduler's cells that the walks read. -/
structure Sch (w : World) (B : Nat) (ended idle : Bool) : Prop where
  ended : w.cell? ⟨B, 250, none⟩ = some (.int .u32 (if ended then 1 else 0))
  idle : w.cell? ⟨B, 127, none⟩ = some (.int .i32 (if idle then 1 else 0))
  mu : w.cell? ⟨B, 315, none⟩ = some (.int .i32 0)
theorem Fifo.setB {w : World} {B L m : Nat} {a : Option Addr} {f : Nat → Value} (h : Fifo w B L m a f) (o : Nat) (ho : o < 324) (v : Value) : Fifo (w.setCell ⟨B, o, none⟩ v) B L m a f :=
  ⟨(cell_setCell_ne _ _ _ _ _ (by omega)).trans h.buf, (cell_setCell_ne _ _ _ _ _ (by omega)).trans h.head, (cell_setCell_ne _ _ _ _ _ (by omega)).trans h.num, h.le, h.nil, fun hL => by
    obtain ⟨p, G, e, hn, hr⟩ := h.row hL
    exact ⟨p, G, e, hn, (heap_setCell_other _ _ _ _ hn).trans hr⟩, fun o => (frozen_setCell _ _ _ _ _).trans (h.free o)⟩

set_option maxHeartbeats 1000000 in
theorem queue_no (B g : Nat) (idle : Bool) (w : World) (h : Sch w B true idle) (hz : w.frozen? ⟨B, 315, none⟩ = false) :
    Calls Yba.prog 25 #[.pointer (some ⟨B, 0, none⟩), .pointer (some ⟨g, 0, none⟩)] w fun e w' => e = .returned (.bool false) ∧ w' = w := by
  have hm := h.mu
  have HB : Hid ((w.setCell ⟨B, 315, none⟩ (.int .i32 1)).setCell ⟨B, 315, none⟩ (.int .i32 0) = w) := setCell_back w B 315 (.int .i32 1) (.int .i32 0) hm
  have hl : (w.setCell ⟨B, 315, none⟩ (.int .i32 1)).cell? ⟨B, 315, none⟩ = some (.int .i32 1) := World.cell?_setCell_same _ _ _ hm
  have he : (w.setCell ⟨B, 315, none⟩ (.int .i32 1)).cell? ⟨B, 250, none⟩ = some (.int .u32 (if true then 1 else 0)) := (cell_setCell_ne _ _ _ _ _ (by omega)).trans h.ended
  clear h
  go_enter_defers Yba.func25, Yba.ntmps25
  go_wp2_with (first
    | (go_at_call 38; refine (lock_free muLib ⟨B, 315, none⟩ _ hm hz).mono ?_; rintro e w' ⟨rfl, rfl⟩)
    | (go_at_call 11; refine (loadBool B 250 true _ he).mono ?_; rintro e w' ⟨rfl, rfl⟩))
  refine leaves_cons (f := 10) (args := #[.pointer (some ⟨B, 315, none⟩)]) (by simp) (by simp [go_sem]) ?_
  refine (unlock_deferred muLib ⟨B, 315, none⟩ .returning _ ?_ ?_).mono ?_
  · exact hl
  · simp [hz]
  rintro e u' w'' ⟨rfl, rfl, rfl⟩
  exact ⟨_, results_tmp rfl _ _ _, rfl, HB.out⟩

/-- What queue leaves where it takes the process. -/
def Queued (w w' : World) (B m : Nat) (a : Option Addr) (f : Nat → Value) : Prop := ∃ L' a', Fifo w' B L' (m + 1) a' f ∧ Kept (fun k => k = B ∨ a = some ⟨k, 0, none⟩) w w' ∧ (a' = a ∨ a' = some ⟨w.heap.size, 0, none⟩)

set_option maxRecDepth 10000 in
set_option maxHeartbeats 1000000 in
theorem queue_yes (B L m g : Nat) (a : Option Addr) (f : Nat → Value) (idle : Bool) (w : World) (h : Sch w B false idle) (hf : ∀ i, (f i).oneCell' = true) (hfm : f m = .pointer (some ⟨g, 0, none⟩)) (hF : Fifo w B L m a f) (hm : m ≤ 300)
    (hc : w.cell? ⟨B, 323, none⟩ = some (.int .u64 0)) (h0 : w.cell? ⟨B, 318, none⟩ = some (.int .u32 0)) (h1 : w.cell? ⟨B, 319, none⟩ = some (.int .u32 0)) :
    Calls Yba.prog 25 #[.pointer (some ⟨B, 0, none⟩), .pointer (some ⟨g, 0, none⟩)] w fun e w' => e = .returned (.bool true) ∧ Queued w w' B m a f ∧ Sch w' B false idle := by
  have HF := hide hF
  have Hf := hide hf
  have Hfm := hide hfm
  have HS := hide h
  have hz := hF.free 315
  have hmu := h.mu
  have C1 := hide hc
  have C2 := hide h0
  have C3 := hide h1
  clear hF hf hfm h hc h0 h1
  go_enter_defers Yba.func25, Yba.ntmps25
  go_wp2_with fail
  refine (lock_free muLib ⟨B, 315, none⟩ _ hmu hz).mono ?_
  rintro e w1 ⟨rfl, hw1⟩
  have s1 : ∀ o, o ≠ 315 → w1.cell? ⟨B, o, none⟩ = w.cell? ⟨B, o, none⟩ := fun o ho => by rw [hw1]; exact cell_setCell_ne _ _ _ _ _ (fun e => ho e.symm)
  have F1 : Hid (Fifo w1 B L m a f) := by unfold Hid; rw [hw1]; exact HF.out.setB 315 (by omega) _
  have K1 : Hid (Kept (fun k => k = B) w w1) := by unfold Hid; rw [hw1]; exact (Kept.refl (fun k => k = B) w).setCell B 315 _ (.inl rfl)
  have M1 : Hid (w1.cell? ⟨B, 315, none⟩ = some (.int .i32 1)) := by unfold Hid; rw [hw1]; exact World.cell?_setCell_same _ _ _ hmu
  have Z1 : Hid (w1.heap.size = w.heap.size) := by unfold Hid; rw [hw1]; exact size_setCell _ _ _
  have e1 : w1.cell? ⟨B, 250, none⟩ = some (.int .u32 (if false then 1 else 0)) := (s1 250 (by omega)).trans HS.out.ended
  have S1 := hide s1
  clear hw1 s1 hmu hz
  go_wp2_with fail
  refine (loadBool B 250 false _ e1).mono ?_
  rintro e w' ⟨rfl, hw'⟩
  rw [hw']
  clear hw' w'
  go_wp2_with fail
  refine (push6 B L m g a f _ Hf.out Hfm.out F1.out hm).mono ?_
  rintro e w2 ⟨rfl, L', a', fifo2, kp2, sd2, ha2⟩
  have s2 : ∀ o, o < 324 → w2.cell? ⟨B, o, none⟩ = w1.cell? ⟨B, o, none⟩ := fun o ho => sd2 o (.inl ho)
  have F2 := hide fifo2
  have K2 := hide kp2
  have A2 := hide ha2
  have i2 : w2.cell? ⟨B, 127, none⟩ = some (.int .i32 (if idle then 1 else 0)) := (s2 127 (by omega)).trans ((S1.out 127 (by omega)).trans HS.out.idle)
  have S2 := hide s2
  clear fifo2 kp2 sd2 ha2 s2 e1
  go_wp2_with fail
  refine (load32 B 127 _ _ i2).mono ?_
  rintro e w' ⟨rfl, hw'⟩
  rw [hw']
  clear hw' w'
  have fin : ∀ w3, Fifo w3 B L' (m + 1) a' f → Kept (fun k => k = B) w2 w3 → (∀ o, o < 323 → w3.cell? ⟨B, o, none⟩ = w2.cell? ⟨B, o, none⟩) → Queued w (w3.setCell ⟨B, 315, none⟩ (.int .i32 0)) B m a f ∧ Sch (w3.setCell ⟨B, 315, none⟩ (.int .i32 0)) B false idle := by
    intro w3 f3 k3 s3
    refine ⟨⟨L', a', f3.setB 315 (by omega) _, ?_, ?_⟩, ?_, ?_, ?_⟩
    · exact ((K1.out.mono (fun k e => .inl e)).trans (K2.out.trans (k3.mono fun k e => .inl e))).setCell B 315 _ (.inl (.inl rfl))
    · have := A2.out
      rw [Z1.out] at this
      exact this
    · exact (cell_setCell_ne _ _ _ _ _ (by omega)).trans ((s3 250 (by omega)).trans ((S2.out 250 (by omega)).trans ((S1.out 250 (by omega)).trans HS.out.ended)))
    · exact (cell_setCell_ne _ _ _ _ _ (by omega)).trans ((s3 127 (by omega)).trans i2)
    · exact World.cell?_setCell_same _ _ _ ((s3 315 (by omega)).trans ((S2.out 315 (by omega)).trans M1.out))
  have FIN := hide fin
  clear fin
  cases idle
  · go_wp2_with fail
    refine leaves_cons (f := 10) (args := #[.pointer (some ⟨B, 315, none⟩)]) (by simp) (by simp [go_sem]) ?_
    refine (unlock_deferred muLib ⟨B, 315, none⟩ .returning _ ?_ ?_).mono ?_
    · exact (S2.out 315 (by omega)).trans M1.out
    · exact F2.out.free 315
    rintro e u' w'' ⟨rfl, rfl, rfl⟩
    exact ⟨_, results_tmp rfl _ _ _, rfl, FIN.out w2 F2.out (Kept.refl _ _) (fun _ _ => rfl)⟩
  · go_wp2_with fail
    refine (signal39 B _ ?_ ?_ ?_ ?_).mono ?_
    · exact (S2.out 323 (by omega)).trans ((S1.out 323 (by omega)).trans C1.out)
    · exact F2.out.free 323
    · exact (S2.out 318 (by omega)).trans ((S1.out 318 (by omega)).trans C2.out)
    · exact (S2.out 319 (by omega)).trans ((S1.out 319 (by omega)).trans C3.out)
    rintro e w3 ⟨rfl, hw3⟩
    have s3 : ∀ o, o < 323 → w3.cell? ⟨B, o, none⟩ = w2.cell? ⟨B, o, none⟩ := fun o ho => by rw [hw3]; exact cell_setCell_ne _ _ _ _ _ (by omega)
    have f3 : Fifo w3 B L' (m + 1) a' f := by rw [hw3]; exact F2.out.setB 323 (by omega) _
    have k3 : Kept (fun k => k = B) w2 w3 := by rw [hw3]; exact (Kept.refl (fun k => k = B) w2).setCell B 323 _ (.inl rfl)
    have S3 := hide s3
    have F3 := hide f3
    have K3 := hide k3
    clear s3 f3 k3 hw3
    go_wp2_with fail
    refine leaves_cons (f := 10) (args := #[.pointer (some ⟨B, 315, none⟩)]) (by simp) (by simp [go_sem]) ?_
    refine (unlock_deferred muLib ⟨B, 315, none⟩ .returning _ ?_ ?_).mono ?_
    · exact (S3.out 315 (by omega)).trans ((S2.out 315 (by omega)).trans M1.out)
    · exact F3.out.free 315
    rintro e u' w'' ⟨rfl, rfl, rfl⟩
    exact ⟨_, results_tmp rfl _ _ _, rfl, FIN.out w3 F3.out K3.out S3.out⟩
end Go.Proofs.Ybulkfeoc
