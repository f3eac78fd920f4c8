import Derived.Test.YbulkfeocSe
namespace Go.Proofs.Ybulkfeoc
open Go.RowKit Go.Conc Go.Conc.Locks Go.MuLone
set_option linter.unusedVariables false
set_option linter.unusedSimpArgs false

theorem Yba.info83 : (Yba.prog.info? 83).map (fun i => (i.zero, i.size, i.bytes)) = some (some (.agg #[.pointer none]), 1, 8) := by kernel_rfl
/-- A process in a block of its own. -/
def ProcAt (w : World) (g : Nat) : Prop := ∃ CS, w.heap[g]? = some (.cells CS 108 (0, 0)) ∧ CS.size = 21
theorem ProcAt.shape {w : World} {g : Nat} (h : ProcAt w g) : w.shape? g = some (108, 21) := by
  obtain ⟨CS, h1, h2⟩ := h
  simp [World.shape?, h1, h2]
theorem ProcAt.of_block {w w' : World} {g : Nat} (h : ProcAt w g) (hb : w'.heap[g]? = w.heap[g]?) : ProcAt w' g := by
  obtain ⟨CS, h1, h2⟩ := h
  exact ⟨CS, hb.trans h1, h2⟩
theorem ProcAt.lt {w : World} {g : Nat} (h : ProcAt w g) : g < w.heap.size := by
  obtain ⟨CS, h1, h2⟩ := h
  exact (Array.getElem?_eq_some_iff.1 h1).1
theorem ProcAt.ne {w : World} {g b : Nat} {CS : Array Value} {t : TypeId} {fr : Nat × Nat} (h : ProcAt w g) (hb : w.heap[b]? = some (.cells CS t fr)) (ht : t ≠ 108) : g ≠ b := by
  rintro rfl
  obtain ⟨CS', h1, _⟩ := h
  rw [h1] at hb
  exact ht (by injection hb with e; injection e with _ e2 _; exact e2.symm)
/-- The pointer to a process. -/
def pv (gf : Nat → Nat) (i : Nat) : Value := .pointer (some ⟨gf i, 0, none⟩)

set_option maxHeartbeats 1000000 in
theorem slot23 (R G L i : Nat) (w : World) (hR : w.cell? ⟨R, 0, none⟩ = some (.slice (some ⟨G, 0, none⟩) L L)) (hp : Pow L) (hi : i ≤ 100000) :
    Calls Yba.prog 23 #[.pointer (some ⟨R, 0, none⟩), .int .i64 i] w fun e w' => e = .returned (.pointer (some ⟨G, i % L, none⟩)) ∧ ∃ q, w' = w.drewN q := by
  have k1 : bits .and .i64 (i : Int) ((L : Int) - 1) = ((i % L : Nat) : Int) := mask i L hp (by omega)
  have hL : 0 < L ∧ L ≤ 512 := by rcases hp with rfl | rfl | rfl | rfl | rfl | rfl <;> omega
  have k2 : i % L < L := Nat.mod_lt _ hL.1
  generalize i % L = j at k1 k2 ⊢
  have k5 : (j : Int) < (L : Int) := by omega
  have k3 : IntKind.i64.wrap ((L : Int) - 1) = (L : Int) - 1 := wrap_in _ (by omega) (by omega)
  have k4 : IntKind.i64.wrap (i : Int) = (i : Int) := wrap_in _ (by omega) (by omega)
  clear hp hL
  go_enter Yba.func23, Yba.ntmps23
  go_wp2
  go_quiet (fail)
  go_wp2
  go_ret
  exact ⟨rfl, _, rfl⟩

/-- The deque: m values, of index 0 to m - 1. -/
structure Deq (w : World) (V R G L m : Nat) (gf : Nat → Nat) : Prop where
  top : w.cell? ⟨V, 67, none⟩ = some (.int .i64 0)
  bottom : w.cell? ⟨V, 124, none⟩ = some (.int .i64 m)
  clean : w.cell? ⟨V, 126, none⟩ = some (.int .i64 0)
  free : ∀ o, w.frozen? ⟨V, o, none⟩ = false
  le : m ≤ L
  nil : L = 0 → w.cell? ⟨V, 125, none⟩ = some (.pointer none)
  ring : L ≠ 0 → Pow L ∧ w.cell? ⟨V, 125, none⟩ = some (.pointer (some ⟨R, 0, none⟩)) ∧ w.heap[R]? = some (.cells #[.slice (some ⟨G, 0, none⟩) L L] 129 (0, 0)) ∧
    w.heap[G]? = some (.cells (fillV L (pv gf) (.pointer none) m) 83 (0, 0)) ∧ R ≠ V ∧ G ≠ V
def SideV (w w' : World) (V : Nat) : Prop := w'.cell? ⟨V, 0, none⟩ = w.cell? ⟨V, 0, none⟩

theorem Deq.of_heap {w w' : World} {V R G L m : Nat} {gf : Nat → Nat} (h : Deq w V R G L m gf) (hh : w'.heap = w.heap) : Deq w' V R G L m gf := by
  have hb : ∀ k : Nat, w'.heap[k]? = w.heap[k]? := fun k => by rw [hh]
  exact ⟨(World.cell?_of_block (hb _)).trans h.top, (World.cell?_of_block (hb _)).trans h.bottom, (World.cell?_of_block (hb _)).trans h.clean, fun o => (World.frozen?_of_block (hb _)).trans (h.free o), h.le, fun e => (World.cell?_of_block (hb _)).trans (h.nil e),
    fun hL => by
      obtain ⟨p, h1, h2, h3, h4, h5⟩ := h.ring hL
      exact ⟨p, (World.cell?_of_block (hb _)).trans h1, (hb R).trans h2, (hb G).trans h3, h4, h5⟩⟩

theorem below_drewN {B : Nat} {a w : World} (h : Below B a w) (n : Nat) : Below B a (w.drewN n) := ⟨h.os, h.tape, h.output, h.size, h.block⟩
theorem shape_of_row (w : World) (g : Nat) (cs : Array Value) (t : TypeId) (fr : Nat × Nat) (h : w.heap[g]? = some (.cells cs t fr)) : w.shape? g = some (t, cs.size) := by simp [World.shape?, h]

theorem dgrow_fin {w W2 : World} {V R G L m L' R' G' : Nat} {gf : Nat → Nat} (h : Deq w V R G L m gf) (hb : Below w.heap.size w W2) (hR : W2.heap[R']? = some (.cells #[.slice (some ⟨G', 0, none⟩) L' L'] 129 (0, 0)))
    (hG : W2.heap[G']? = some (.cells (fillV L' (pv gf) (.pointer none) m) 83 (0, 0))) (hp : Pow L') (hm : m ≤ L') (h1 : w.heap.size ≤ R') (h2 : w.heap.size ≤ G') :
    Deq (W2.setCell ⟨V, 125, none⟩ (.pointer (some ⟨R', 0, none⟩))) V R' G' L' m gf ∧ Kept (fun k => k = V) w (W2.setCell ⟨V, 125, none⟩ (.pointer (some ⟨R', 0, none⟩))) ∧ SideV w (W2.setCell ⟨V, 125, none⟩ (.pointer (some ⟨R', 0, none⟩))) V := by
  have hV : V < w.heap.size := block_lt_of_cell h.top
  have c : ∀ o, W2.cell? ⟨V, o, none⟩ = w.cell? ⟨V, o, none⟩ := fun o => hb.cell (p := ⟨V, o, none⟩) hV
  have fz : ∀ o, W2.frozen? ⟨V, o, none⟩ = false := fun o => (World.frozen?_of_block (hb.block V hV)).trans (h.free o)
  have hcell : ∃ u, w.cell? ⟨V, 125, none⟩ = some u := by
    by_cases e : L = 0
    · exact ⟨_, h.nil e⟩
    · exact ⟨_, (h.ring e).2.1⟩
  obtain ⟨u, hu⟩ := hcell
  refine ⟨⟨?_, ?_, ?_, fun o => ?_, hm, fun e => absurd e (by rcases hp with rfl | rfl | rfl | rfl | rfl | rfl <;> omega), fun _ => ⟨hp, ?_, ?_, ?_, by omega, by omega⟩⟩, ?_, ?_⟩
  · rw [cell_setCell_ne _ _ _ _ _ (by omega), c]; exact h.top
  · rw [cell_setCell_ne _ _ _ _ _ (by omega), c]; exact h.bottom
  · rw [cell_setCell_ne _ _ _ _ _ (by omega), c]; exact h.clean
  · rw [frozen_setCell]; exact fz o
  · exact World.cell?_setCell_same _ _ _ ((c 125).trans hu)
  · rw [heap_setCell_other _ _ _ _ (by show R' ≠ V; omega)]; exact hR
  · rw [heap_setCell_other _ _ _ _ (by show G' ≠ V; omega)]; exact hG
  · exact (Kept.ofBelow (S := fun k => k = V) hb).setCell V 125 _ (.inl rfl)
  · unfold SideV
    rw [cell_setCell_ne _ _ _ _ _ (by omega), c]

/-- What dgrow hands on. -/
def Grew (w w' : World) (V L m : Nat) (gf : Nat → Nat) (e : Ending) : Prop := ∃ R' G', e = .returned (.pointer (some ⟨R', 0, none⟩)) ∧ Deq w' V R' G' L m gf ∧ Kept (fun k => k = V) w w' ∧ SideV w w' V ∧ w.heap.size ≤ R' ∧ w.heap.size ≤ G'

set_option maxRecDepth 10000 in
set_option maxHeartbeats 2000000 in
theorem dgrow_nil (V R G : Nat) (gf : Nat → Nat) (w : World) (h : Deq w V R G 0 0 gf) :
    Calls Yba.prog 22 #[.pointer (some ⟨V, 3, none⟩), .pointer none, .int .i64 0, .int .i64 0] w fun e w' => Grew w w' V 64 0 gf e := by
  have hV : V < w.heap.size := block_lt_of_cell h.top
  have H := hide h
  have h1 := h.nil rfl
  have f1 := h.free 125
  clear h
  obtain ⟨i0, hi, hz0, hz1, hz2⟩ := info_parts Yba.info83
  go_enter Yba.func22, Yba.ntmps22
  go_wp2_with (first
    | (at_make; refine wpList_make_full _ rfl (.tmp 20) (.tmp 20) 127 rfl w.heap.size 83 i0 (.agg #[.pointer none]) 1 Yba.underlying127 hi hz0 hz1 _ _ _ _ 64 rfl rfl rfl rfl (by rw [hz2]; omega) (by unfold maxLen; omega) (Nat.le_refl _) ?_; intro w1 own1 gr1; have HG1 := hide (own_full own1); have HB1 := hide (below_of_grown gr1); clear own1 gr1))
  have l1 : w.heap.size < w1.heap.size := (Array.getElem?_eq_some_iff.1 HG1.out).1
  obtain ⟨W2, hW2⟩ : ∃ W2, W2 = w1.alloc (.cells #[.slice (some ⟨w.heap.size, 0, none⟩) 64 64] 129) := ⟨_, rfl⟩
  have hR : W2.heap[w1.heap.size]? = some (.cells #[.slice (some ⟨w.heap.size, 0, none⟩) 64 64] 129 (0, 0)) := by rw [hW2]; exact Go.heap_alloc_new _ _
  have hG : W2.heap[w.heap.size]? = some (.cells (fillV 64 (pv gf) (.pointer none) 0) 83 (0, 0)) := by
    rw [hW2, Below.heap_alloc _ _ _ l1, HG1.out, ← fillV_made 64 (pv gf)]; rfl
  have hBW : Below w.heap.size w W2 := by rw [hW2]; exact HB1.out.alloc (by omega) _
  have z1 : W2.cell? ⟨V, 125, none⟩ = some (.pointer none) := (hBW.cell (p := ⟨V, 125, none⟩) hV).trans h1
  have z2 : W2.frozen? ⟨V, 125, none⟩ = false := (World.frozen?_of_block (hBW.block V hV)).trans f1
  have z3 : W2.shape? w1.heap.size = some (129, 1) := shape_of_row _ _ _ _ _ hR
  have HR := hide hR
  have HG := hide hG
  have HBW := hide hBW
  rw [← hW2]
  clear hR hG hBW hW2 HG1 HB1 h1 f1 hi hz0 hz1 hz2
  go_loopg [11] 1 (fun g j wr => j = .int .i64 0 ∧ wr = W2)
  case atStart => exact ⟨rfl, rfl⟩
  case round =>
    obtain ⟨rfl, hwr⟩ := hrel
    rw [hwr]
    clear hwr
    go_wp2_with fail
    refine (storeRing V 125 w1.heap.size (.pointer none) W2 z1 z2 z3).mono ?_
    rintro e w' ⟨rfl, hw'⟩
    have HW' := hide hw'
    clear hw'
    go_wp2
    go_ret
    obtain ⟨r1, r2, r3⟩ := dgrow_fin H.out HBW.out HR.out HG.out (.inr (.inr (.inl rfl))) (by omega) (by omega) (Nat.le_refl _)
    rw [← HW'.out] at r1 r2 r3
    exact ⟨_, _, rfl, r1, r2, r3, by omega, Nat.le_refl _⟩

/-- What holds at the head of grow's loop: k values have gone over to the new ring. -/
structure Moved (w wr : World) (R' G' L' : Nat) (gf : Nat → Nat) (k : Nat) : Prop where
  below : Below w.heap.size w wr
  ring : wr.heap[R']? = some (.cells #[.slice (some ⟨G', 0, none⟩) L' L'] 129 (0, 0))
  row : wr.heap[G']? = some (.cells (fillV L' (pv gf) (.pointer none) k) 83 (0, 0))

set_option maxRecDepth 10000 in
set_option maxHeartbeats 4000000 in
theorem dgrow_full (V R G L : Nat) (gf : Nat → Nat) (w : World) (h : Deq w V R G L L gf) (hL0 : 64 ≤ L) (hle : L ≤ 256) (hP : ∀ i, i < L → ProcAt w (gf i) ∧ gf i ≠ V) :
    Calls Yba.prog 22 #[.pointer (some ⟨V, 3, none⟩), .pointer (some ⟨R, 0, none⟩), .int .i64 0, .int .i64 L] w fun e w' => Grew w w' V (2 * L) L gf e := by
  have hV : V < w.heap.size := block_lt_of_cell h.top
  have H := hide h
  obtain ⟨hp, h1, hRr, hGr, hRV, hGV⟩ := h.ring (by omega)
  have hp2 : Hid (Pow (2 * L)) := by rcases hp with rfl | rfl | rfl | rfl | rfl | rfl <;> simp [Hid, Pow] <;> omega
  have f1 := h.free 125
  have hRl : R < w.heap.size := (Array.getElem?_eq_some_iff.1 hRr).1
  have hGl : G < w.heap.size := (Array.getElem?_eq_some_iff.1 hGr).1
  have c0 : w.cell? ⟨R, 0, none⟩ = some (.slice (some ⟨G, 0, none⟩) L L) := cell_of_row _ _ _ _ _ _ hRr
  have HP := hide hp
  have HRr := hide hRr
  have HGr := hide hGr
  have HPP := hide hP
  clear h hp hRr hGr hP
  obtain ⟨i0, hi, hz0, hz1, hz2⟩ := info_parts Yba.info83
  go_enter Yba.func22, Yba.ntmps22
  go_wp2_with (first
    | (at_make; refine wpList_make_full _ rfl (.tmp 20) (.tmp 20) 127 rfl w.heap.size 83 i0 (.agg #[.pointer none]) 1 Yba.underlying127 hi hz0 hz1 _ _ _ _ (2 * L) rfl rfl (by omega) (by omega) (by rw [hz2]; omega) (by unfold maxLen; omega) (Nat.le_refl _) ?_; intro w1 own1 gr1; have HG1 := hide (own_full own1); have HB1 := hide (below_of_grown gr1); clear own1 gr1))
  have l1 : w.heap.size < w1.heap.size := (Array.getElem?_eq_some_iff.1 HG1.out).1
  obtain ⟨W2, hW2⟩ : ∃ W2, W2 = w1.alloc (.cells #[.slice (some ⟨w.heap.size, 0, none⟩) (2 * L) (2 * L)] 129) := ⟨_, rfl⟩
  have hst : Moved w W2 w1.heap.size w.heap.size (2 * L) gf 0 := by
    refine ⟨?_, ?_, ?_⟩
    · rw [hW2]; exact HB1.out.alloc (by omega) _
    · rw [hW2]; exact Go.heap_alloc_new _ _
    · rw [hW2, Below.heap_alloc _ _ _ l1, HG1.out, ← fillV_made (2 * L) (pv gf)]; rfl
  have HST := hide hst
  rw [← hW2]
  clear hst hW2 HG1 HB1 hi hz0 hz1 hz2
  go_loopg [11] L (fun g j wr => ∃ k : Nat, g = L - k ∧ k ≤ L ∧ j = .int .i64 k ∧ Moved w wr w1.heap.size w.heap.size (2 * L) gf k)
  case atStart => exact ⟨0, rfl, Nat.zero_le _, rfl, HST.out⟩
  case round =>
    obtain ⟨k, hg, hk, rfl, hmv⟩ := hrel
    have HG := hide hg
    have HM := hide hmv
    clear hg hmv
    by_cases hlt : k < L
    · go_wp2_with fail
      refine (slot23 w1.heap.size w.heap.size (2 * L) k _ (cell_of_row _ _ _ _ _ _ HM.out.ring) hp2.out (by omega)).mono ?_
      rw [Nat.mod_eq_of_lt (by omega : k < 2 * L)]
      rintro e w' ⟨rfl, q1, hw'⟩
      rw [hw']
      clear hw' w'
      go_wp2_with fail
      refine (slot23 R G L k _ ?_ HP.out (by omega)).mono ?_
      · exact (HM.out.below.cell (p := ⟨R, 0, none⟩) hRl).trans c0
      rw [Nat.mod_eq_of_lt hlt]
      rintro e w' ⟨rfl, q2, hw'⟩
      rw [hw']
      clear hw' w'
      go_wp2_with fail
      obtain ⟨hpk, hkV⟩ := HPP.out k hlt
      have hpk2 : ProcAt wr (gf k) := hpk.of_block (HM.out.below.block _ hpk.lt)
      refine (loadProc G k (gf k) _ ?_ ?_).mono ?_
      · exact (HM.out.below.cell (p := ⟨G, k, none⟩) hGl).trans ((cell_of_row _ _ _ _ _ _ HGr.out).trans (fillV_get _ _ _ _ _ hlt hlt))
      · exact hpk2.shape
      rintro e w' ⟨rfl, hw'⟩
      rw [hw']
      clear hw' w'
      go_wp2_with fail
      refine (storeProc w.heap.size k (gf k) (.pointer none) _ ?_ ?_ ?_).mono ?_
      · exact (cell_of_row wr _ _ _ _ _ HM.out.row).trans (fillV_at _ _ _ _ (by omega))
      · exact frozen_of_row wr _ _ _ _ HM.out.row
      · exact hpk2.shape
      rintro e w' ⟨rfl, hw'⟩
      have HW' := hide hw'
      clear hw'
      go_wp2
      go_roundg (L - (k + 1))
      case measure => rw [HG.out]; omega
      case rel =>
        refine ⟨k + 1, rfl, by omega, by go_num, ?_, ?_, ?_⟩
        · rw [HW'.out]
          exact (below_drewN HM.out.below _).setCell (p := ⟨w.heap.size, k, none⟩) (Nat.le_refl _) _
        · rw [HW'.out, heap_setCell_other _ _ _ _ (by show w1.heap.size ≠ w.heap.size; omega)]
          exact HM.out.ring
        · rw [HW'.out, ← fillV_set]
          exact heap_setCell_same _ _ _ _ _ _ HM.out.row
    · obtain rfl : k = L := by omega
      have hm := HM.out
      have z1 : wr.cell? ⟨V, 125, none⟩ = some (.pointer (some ⟨R, 0, none⟩)) := (hm.below.cell (p := ⟨V, 125, none⟩) hV).trans h1
      have z2 : wr.frozen? ⟨V, 125, none⟩ = false := (World.frozen?_of_block (hm.below.block V hV)).trans f1
      have z3 : wr.shape? w1.heap.size = some (129, 1) := shape_of_row _ _ _ _ _ hm.ring
      clear hm
      go_wp2_with fail
      refine (storeRing V 125 w1.heap.size _ wr z1 z2 z3).mono ?_
      rintro e w' ⟨rfl, hw'⟩
      have HW' := hide hw'
      clear hw'
      go_wp2
      go_ret
      obtain ⟨r1, r2, r3⟩ := dgrow_fin H.out HM.out.below HM.out.ring HM.out.row hp2.out (by omega) (by omega) (Nat.le_refl _)
      rw [← HW'.out] at r1 r2 r3
      exact ⟨_, _, rfl, r1, r2, r3, by omega, Nat.le_refl _⟩
end Go.Proofs.Ybulkfeoc
