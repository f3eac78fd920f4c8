import Derived.Test.YbulkfeocSg
namespace Go.Proofs.Ybulkfeoc
open Go.RowKit Go.Conc Go.Conc.Locks Go.MuLone
set_option linter.unusedVariables false
set_option linter.unusedSimpArgs false

/-- An empty deque, its three numbers alike. -/
structure Gone (w : World) (V : Nat) (t : Int) : Prop where
  top : w.cell? ⟨V, 67, none⟩ = some (.int .i64 t)
  bottom : w.cell? ⟨V, 124, none⟩ = some (.int .i64 t)
  clean : w.cell? ⟨V, 126, none⟩ = some (.int .i64 t)

theorem clear_same (V : Nat) (t : Int) (w : World) (h : w.cell? ⟨V, 126, none⟩ = some (.int .i64 t)) :
    Calls Yba.prog 30 #[.pointer (some ⟨V, 3, none⟩), .int .i64 t] w fun e w' => e = .returned (.tuple #[]) ∧ w' = w := by
  go_enter Yba.func30, Yba.ntmps30
  go_wp2
  refine bodyPost_ret (results_none rfl _ _ _) rfl ?_
  exact ⟨rfl, rfl⟩

theorem pop_empty (V : Nat) (t : Int) (w : World) (h : Gone w V t) :
    Calls Yba.prog 14 #[.pointer (some ⟨V, 3, none⟩)] w fun e w' => e = .returned (.pointer none) ∧ w' = w := by
  have h1 := h.top
  have h2 := h.bottom
  have h3 := h.clean
  clear h
  go_enter Yba.func14, Yba.ntmps14
  go_wp2_with fail
  refine (load64 V 124 t _ h2).mono ?_
  rintro e w' ⟨rfl, hw'⟩
  rw [hw']
  clear hw' w'
  go_wp2_with fail
  refine (load64 V 67 t _ h1).mono ?_
  rintro e w' ⟨rfl, hw'⟩
  rw [hw']
  clear hw' w'
  go_wp2_with fail
  refine (clear_same V t _ h3).mono ?_
  rintro e w' ⟨rfl, hw'⟩
  rw [hw']
  clear hw' w'
  go_wp2
  go_ret
  exact ⟨rfl, rfl⟩

theorem fillV_unset (n : Nat) (f : Nat → Value) (z : Value) (k : Nat) : (fillV n f z (k + 1)).setIfInBounds k z = fillV n f z k := by
  apply Array.ext
  · simp [fillV]
  · intro i h1 h2
    by_cases e : k = i
    · subst e; simp [fillV]
    · have h0 : i < (fillV n f z (k + 1)).size := by simpa [fillV] using h2
      rw [Array.getElem_setIfInBounds_ne h0 e]
      have h3 : (i < k + 1) ↔ (i < k) := by omega
      simp only [fillV, Array.getElem_ofFn, h3]

set_option maxRecDepth 10000 in
set_option maxHeartbeats 2000000 in
theorem pop_more (V R G L m : Nat) (gf : Nat → Nat) (w : World) (h : Deq w V R G L (m + 1) gf) (hm0 : 1 ≤ m) (hm : m ≤ 300) (hP : ProcAt w (gf m)) (hPV : gf m ≠ V) :
    Calls Yba.prog 14 #[.pointer (some ⟨V, 3, none⟩)] w fun e w' => e = .returned (.pointer (some ⟨gf m, 0, none⟩)) ∧ Deq w' V R G L m gf ∧ Kept (fun k => k = V ∨ k = G) w w' := by
  have H := hide h
  have h1 := h.top
  have h2 := h.bottom
  have hle := h.le
  have f2 := h.free 124
  obtain ⟨hp, h3, hR, hGr, hRV, hGV⟩ := h.ring (by omega)
  have hRG : R ≠ G := by
    rintro rfl
    rw [hR] at hGr
    injection hGr with e
    injection e with _ e2 _
    exact absurd e2 (by decide)
  have hPG : gf m ≠ G := hP.ne hGr (by decide)
  have HP := hide hP
  have HPW := hide hp
  have HR := hide hR
  have HGr := hide hGr
  clear h hP hp hR hGr
  have i1 : ¬ ((m : Int) + 1) ≤ 0 := by omega
  have i2 : ¬ ((m : Int) < 0) := by omega
  have i3 : (0 : Int) < (m : Int) := by omega
  go_enter Yba.func14, Yba.ntmps14
  go_wp2_with fail
  refine (load64 V 124 _ _ h2).mono ?_
  rintro e w' ⟨rfl, hw'⟩
  rw [hw']
  clear hw' w'
  go_wp2_with fail
  refine (load64 V 67 0 _ h1).mono ?_
  rintro e w' ⟨rfl, hw'⟩
  rw [hw']
  clear hw' w'
  go_wp2_with fail
  refine (store64 V 124 _ _ _ h2 f2).mono ?_
  rintro e w1 ⟨rfl, hw1⟩
  have t1 : w1.cell? ⟨V, 67, none⟩ = some (.int .i64 0) := by rw [hw1]; exact (cell_setCell_ne _ _ _ _ _ (by omega)).trans h1
  have t3 : w1.cell? ⟨V, 125, none⟩ = some (.pointer (some ⟨R, 0, none⟩)) := by rw [hw1]; exact (cell_setCell_ne _ _ _ _ _ (by omega)).trans h3
  have tR : w1.heap[R]? = some (.cells #[.slice (some ⟨G, 0, none⟩) L L] 129 (0, 0)) := by rw [hw1]; exact (heap_setCell_other _ _ _ _ (by show R ≠ V; exact hRV)).trans HR.out
  have tG : w1.heap[G]? = some (.cells (fillV L (pv gf) (.pointer none) (m + 1)) 83 (0, 0)) := by rw [hw1]; exact (heap_setCell_other _ _ _ _ (by show G ≠ V; exact hGV)).trans HGr.out
  have tP : ProcAt w1 (gf m) := HP.out.of_block (by rw [hw1]; exact heap_setCell_other _ _ _ _ hPV)
  have HW1 := hide hw1
  have TR := hide tR
  have TG := hide tG
  have TP := hide tP
  clear hw1 tR tG tP h1 h2 h3 f2
  go_wp2_with fail
  refine (load64 V 67 0 _ t1).mono ?_
  rintro e w' ⟨rfl, hw'⟩
  rw [hw']
  clear hw' w'
  go_wp2_with fail
  refine (loadRing V 125 R _ t3 (shape_of_row _ _ _ _ _ TR.out)).mono ?_
  rintro e w' ⟨rfl, hw'⟩
  rw [hw']
  clear hw' w'
  go_wp2_with fail
  refine (slot23 R G L m _ ?_ HPW.out (by omega)).mono ?_
  · exact cell_of_row _ _ _ _ _ _ TR.out
  rw [Nat.mod_eq_of_lt (by omega : m < L)]
  rintro e w' ⟨rfl, qq, hw'⟩
  rw [hw']
  clear hw' w'
  go_wp2_with fail
  refine (loadProc G m (gf m) _ ?_ ?_).mono ?_
  · exact (cell_of_row w1 _ _ _ _ _ TG.out).trans (fillV_get _ _ _ _ _ (by omega) (by omega))
  · exact TP.out.shape
  rintro e w' ⟨rfl, hw'⟩
  rw [hw']
  clear hw' w'
  go_wp2_with fail
  refine (storeNil G m (.pointer (some ⟨gf m, 0, none⟩)) _ ?_ ?_).mono ?_
  · exact (cell_of_row w1 _ _ _ _ _ TG.out).trans (fillV_get _ _ _ _ _ (by omega) (by omega))
  · exact frozen_of_row w1 _ _ _ _ TG.out
  rintro e w2 ⟨rfl, hw2⟩
  have HW2 := hide hw2
  clear hw2
  go_wp2
  go_ret
  have eh : w2.heap = ((w.setCell ⟨V, 124, none⟩ (.int .i64 m)).setCell ⟨G, m, none⟩ (.pointer none)).heap := by rw [HW2.out, HW1.out]; rfl
  have cV : ∀ o, ((w.setCell ⟨V, 124, none⟩ (.int .i64 m)).setCell ⟨G, m, none⟩ (.pointer none)).cell? ⟨V, o, none⟩ = (w.setCell ⟨V, 124, none⟩ (.int .i64 m)).cell? ⟨V, o, none⟩ := fun o => World.cell?_setCell_other _ _ _ _ (fun e => hGV (Addr.mk.inj e).1)
  have hD : Deq ((w.setCell ⟨V, 124, none⟩ (.int .i64 m)).setCell ⟨G, m, none⟩ (.pointer none)) V R G L m gf := by
    refine ⟨?_, ?_, ?_, fun o => ?_, by omega, fun e => absurd e (by omega), fun _ => ⟨HPW.out, ?_, ?_, ?_, hRV, hGV⟩⟩
    · rw [cV, cell_setCell_ne _ _ _ _ _ (by omega)]; exact H.out.top
    · rw [cV]; exact World.cell?_setCell_same _ _ _ H.out.bottom
    · rw [cV, cell_setCell_ne _ _ _ _ _ (by omega)]; exact H.out.clean
    · rw [frozen_setCell, frozen_setCell]; exact H.out.free o
    · rw [cV, cell_setCell_ne _ _ _ _ _ (by omega)]; exact (H.out.ring (by omega)).2.1
    · rw [heap_setCell_other _ _ _ _ (by show R ≠ G; exact hRG), heap_setCell_other _ _ _ _ (by show R ≠ V; exact hRV)]; exact HR.out
    · rw [← fillV_unset]
      exact heap_setCell_same _ _ _ _ _ _ ((heap_setCell_other _ _ _ _ (by show G ≠ V; exact hGV)).trans HGr.out)
  refine ⟨rfl, hD.of_heap eh, ?_⟩
  have hk : Kept (fun k => k = V ∨ k = G) w ((w.setCell ⟨V, 124, none⟩ (.int .i64 m)).setCell ⟨G, m, none⟩ (.pointer none)) := ((Kept.refl (fun k => k = V ∨ k = G) w).setCell V 124 _ (.inl (.inl rfl))).setCell G m _ (.inl (.inr rfl))
  exact hk.of_heap eh (by rw [HW2.out, HW1.out]; rfl) (by rw [HW2.out, HW1.out]; rfl) (by rw [HW2.out, HW1.out]; rfl)

set_option maxRecDepth 10000 in
set_option maxHeartbeats 2000000 in
theorem clear_one (V R G L : Nat) (u : Value) (CS : Array Value) (w : World) (h1 : w.cell? ⟨V, 126, none⟩ = some (.int .i64 0)) (f1 : w.frozen? ⟨V, 126, none⟩ = false) (h3 : w.cell? ⟨V, 125, none⟩ = some (.pointer (some ⟨R, 0, none⟩)))
    (hR : w.heap[R]? = some (.cells #[.slice (some ⟨G, 0, none⟩) L L] 129 (0, 0))) (hG : w.heap[G]? = some (.cells CS 83 (0, 0))) (hC : CS[0]? = some u) (hp : Pow L) (hGV : G ≠ V) :
    Calls Yba.prog 30 #[.pointer (some ⟨V, 3, none⟩), .int .i64 1] w fun e w' => e = .returned (.tuple #[]) ∧ w'.heap = ((w.setCell ⟨G, 0, none⟩ (.pointer none)).setCell ⟨V, 126, none⟩ (.int .i64 1)).heap ∧ Kept (fun k => k = V ∨ k = G) w w' := by
  have hL : 16 ≤ L ∧ L ≤ 512 := by rcases hp with rfl | rfl | rfl | rfl | rfl | rfl <;> omega
  have HPW := hide hp
  have HR := hide hR
  have HG := hide hG
  have HC := hide hC
  have hc : w.cell? ⟨R, 0, none⟩ = some (.slice (some ⟨G, 0, none⟩) L L) := cell_of_row _ _ _ _ _ _ hR
  have hmx : max (0 : Int) (1 - (L : Int)) = 0 := by omega
  have k3 : IntKind.i64.wrap (1 - (L : Int)) = 1 - (L : Int) := wrap_in _ (by omega) (by omega)
  clear hp hR hG hC
  go_enter Yba.func30, Yba.ntmps30
  go_wp2_with fail
  refine (loadRing V 125 R _ h3 (shape_of_row _ _ _ _ _ HR.out)).mono ?_
  rintro e w' ⟨rfl, hw'⟩
  rw [hw']
  clear hw' w'
  go_wp2_with fail
  go_region
  go_wp2_with fail
  go_loopg [5] 1 (fun g s5 wr => (g = 1 ∧ s5 = .int .i64 0 ∧ ∃ q, wr = w.drewN q) ∨ (g = 0 ∧ s5 = .int .i64 1 ∧ ∃ q, wr = (w.setCell ⟨G, 0, none⟩ (.pointer none)).drewN q))
  case atStart => exact .inl ⟨rfl, rfl, 1, rfl⟩
  case round =>
    rcases hrel with ⟨hg, rfl, q, hwr⟩ | ⟨hg, rfl, q, hwr⟩
    · rw [hwr]
      have HGG := hide hg
      clear hwr hg
      go_wp2_with fail
      refine (slot23 R G L 0 _ ?_ HPW.out (by omega)).mono ?_
      · exact hc
      rw [Nat.mod_eq_of_lt (by omega : 0 < L)]
      rintro e w' ⟨rfl, qq, hw'⟩
      rw [hw']
      clear hw' w'
      go_wp2_with fail
      refine (storeNil G 0 u _ ?_ ?_).mono ?_
      · exact (cell_of_row w _ _ _ _ _ HG.out).trans HC.out
      · exact frozen_of_row w _ _ _ _ HG.out
      rintro e w2 ⟨rfl, hw2⟩
      have HW2 := hide hw2
      clear hw2
      go_wp2
      go_roundg 0
      case measure => rw [HGG.out]; omega
      case rel => exact .inr ⟨rfl, by go_num, q + qq, by rw [HW2.out]; rfl⟩
    · have z1 : wr.cell? ⟨V, 126, none⟩ = some (.int .i64 0) := by rw [hwr]; exact (World.cell?_setCell_other w _ _ _ (fun e => hGV (Addr.mk.inj e).1)).trans h1
      have z2 : wr.frozen? ⟨V, 126, none⟩ = false := by rw [hwr]; exact (frozen_setCell w _ _ _ _).trans f1
      have HWR := hide hwr
      clear hwr hg
      go_wp2
      go_end0
      have eh : (wr.setCell ⟨V, 126, none⟩ (.int .i64 1)).heap = ((w.setCell ⟨G, 0, none⟩ (.pointer none)).setCell ⟨V, 126, none⟩ (.int .i64 1)).heap := by rw [HWR.out]; rfl
      have hk : Kept (fun k => k = V ∨ k = G) w ((w.setCell ⟨G, 0, none⟩ (.pointer none)).setCell ⟨V, 126, none⟩ (.int .i64 1)) := ((Kept.refl (fun k => k = V ∨ k = G) w).setCell G 0 _ (.inl (.inr rfl))).setCell V 126 _ (.inl (.inl rfl))
      exact ⟨rfl, eh, hk.of_heap eh (by rw [HWR.out]; rfl) (by rw [HWR.out]; rfl) (by rw [HWR.out]; rfl)⟩

set_option maxRecDepth 10000 in
set_option maxHeartbeats 2000000 in
theorem pop_last (V R G L : Nat) (gf : Nat → Nat) (w : World) (h : Deq w V R G L 1 gf) (hP : ProcAt w (gf 0)) (hPV : gf 0 ≠ V) :
    Calls Yba.prog 14 #[.pointer (some ⟨V, 3, none⟩)] w fun e w' => e = .returned (.pointer (some ⟨gf 0, 0, none⟩)) ∧ Gone w' V 1 ∧ Kept (fun k => k = V ∨ k = G) w w' := by
  have H := hide h
  have h1 := h.top
  have h2 : w.cell? ⟨V, 124, none⟩ = some (.int .i64 1) := h.bottom
  have hle := h.le
  have f2 := h.free 124
  have f1 := h.free 67
  have f3 := h.free 126
  have h6 := h.clean
  obtain ⟨hp, h3, hR, hGr, hRV, hGV⟩ := h.ring (by omega)
  have hL : 16 ≤ L ∧ L ≤ 512 := by rcases hp with rfl | rfl | rfl | rfl | rfl | rfl <;> omega
  have hPG : gf 0 ≠ G := hP.ne hGr (by decide)
  have HP := hide hP
  have HPW := hide hp
  have HR := hide hR
  have HGr := hide hGr
  clear h hP hp hR hGr
  go_enter Yba.func14, Yba.ntmps14
  go_wp2_with fail
  refine (load64 V 124 _ _ h2).mono ?_
  rintro e w' ⟨rfl, hw'⟩
  rw [hw']
  clear hw' w'
  go_wp2_with fail
  refine (load64 V 67 0 _ h1).mono ?_
  rintro e w' ⟨rfl, hw'⟩
  rw [hw']
  clear hw' w'
  go_wp2_with fail
  refine (store64 V 124 _ _ _ h2 f2).mono ?_
  rintro e w1 ⟨rfl, hw1⟩
  have t1 : w1.cell? ⟨V, 67, none⟩ = some (.int .i64 0) := by rw [hw1]; exact (cell_setCell_ne _ _ _ _ _ (by omega)).trans h1
  have t2 : w1.cell? ⟨V, 124, none⟩ = some (.int .i64 0) := by rw [hw1]; exact World.cell?_setCell_same _ _ _ h2
  have t3 : w1.cell? ⟨V, 125, none⟩ = some (.pointer (some ⟨R, 0, none⟩)) := by rw [hw1]; exact (cell_setCell_ne _ _ _ _ _ (by omega)).trans h3
  have t6 : w1.cell? ⟨V, 126, none⟩ = some (.int .i64 0) := by rw [hw1]; exact (cell_setCell_ne _ _ _ _ _ (by omega)).trans h6
  have u1 : w1.frozen? ⟨V, 67, none⟩ = false := by rw [hw1]; exact (frozen_setCell _ _ _ _ _).trans f1
  have u2 : w1.frozen? ⟨V, 124, none⟩ = false := by rw [hw1]; exact (frozen_setCell _ _ _ _ _).trans f2
  have u3 : w1.frozen? ⟨V, 126, none⟩ = false := by rw [hw1]; exact (frozen_setCell _ _ _ _ _).trans f3
  have tR : w1.heap[R]? = some (.cells #[.slice (some ⟨G, 0, none⟩) L L] 129 (0, 0)) := by rw [hw1]; exact (heap_setCell_other _ _ _ _ (by show R ≠ V; exact hRV)).trans HR.out
  have tG : w1.heap[G]? = some (.cells (fillV L (pv gf) (.pointer none) 1) 83 (0, 0)) := by rw [hw1]; exact (heap_setCell_other _ _ _ _ (by show G ≠ V; exact hGV)).trans HGr.out
  have tP : ProcAt w1 (gf 0) := HP.out.of_block (by rw [hw1]; exact heap_setCell_other _ _ _ _ hPV)
  have tK : Kept (fun k => k = V ∨ k = G) w w1 := by rw [hw1]; exact (Kept.refl (fun k => k = V ∨ k = G) w).setCell V 124 _ (.inl (.inl rfl))
  have TR := hide tR
  have TG := hide tG
  have TP := hide tP
  have TK := hide tK
  clear hw1 tR tG tP tK h1 h2 h3 h6 f1 f2 f3 H HP HR HGr
  go_wp2_with fail
  refine (load64 V 67 0 _ t1).mono ?_
  rintro e w' ⟨rfl, hw'⟩
  rw [hw']
  clear hw' w'
  go_wp2_with fail
  refine (loadRing V 125 R _ t3 (shape_of_row _ _ _ _ _ TR.out)).mono ?_
  rintro e w' ⟨rfl, hw'⟩
  rw [hw']
  clear hw' w'
  go_wp2_with fail
  refine (slot23 R G L 0 _ ?_ HPW.out (by omega)).mono ?_
  · exact cell_of_row _ _ _ _ _ _ TR.out
  rw [Nat.mod_eq_of_lt (by omega : 0 < L)]
  rintro e w' ⟨rfl, qq, hw'⟩
  rw [hw']
  clear hw' w'
  go_wp2_with fail
  refine (loadProc G 0 (gf 0) _ ?_ ?_).mono ?_
  · exact (cell_of_row w1 _ _ _ _ _ TG.out).trans (fillV_get _ _ _ _ _ (by omega) (by omega))
  · exact TP.out.shape
  rintro e w' ⟨rfl, hw'⟩
  rw [hw']
  clear hw' w'
  go_wp2_with fail
  refine (cas64 V 67 0 1 _ ?_ ?_).mono ?_
  · exact t1
  · exact u1
  rintro e w2 ⟨rfl, hw2⟩
  have HW2 := hide hw2
  clear hw2
  go_wp2_with fail
  refine (store64 V 124 1 (.int .i64 0) _ ?_ ?_).mono ?_
  · rw [HW2.out]; exact (cell_setCell_ne w1 _ _ _ _ (by omega)).trans t2
  · rw [HW2.out]; exact (frozen_setCell w1 _ _ _ _).trans u2
  rintro e w3 ⟨rfl, hw3⟩
  have eh : w3.heap = ((w1.setCell ⟨V, 67, none⟩ (.int .i64 1)).setCell ⟨V, 124, none⟩ (.int .i64 1)).heap := by rw [hw3, HW2.out]; rfl
  have hk3 : Kept (fun k => k = V ∨ k = G) w w3 := ((TK.out.setCell V 67 _ (.inl (.inl rfl))).setCell V 124 _ (.inl (.inl rfl))).of_heap eh (by rw [hw3, HW2.out]; rfl) (by rw [hw3, HW2.out]; rfl) (by rw [hw3, HW2.out]; rfl)
  have hb : ∀ k : Nat, w3.heap[k]? = ((w1.setCell ⟨V, 67, none⟩ (.int .i64 1)).setCell ⟨V, 124, none⟩ (.int .i64 1)).heap[k]? := fun k => by rw [eh]
  have y1 : w3.cell? ⟨V, 67, none⟩ = some (.int .i64 1) := (World.cell?_of_block (hb _)).trans ((cell_setCell_ne _ _ _ _ _ (by omega)).trans (World.cell?_setCell_same _ _ _ t1))
  have y2 : w3.cell? ⟨V, 124, none⟩ = some (.int .i64 1) := (World.cell?_of_block (hb _)).trans (World.cell?_setCell_same _ _ _ ((cell_setCell_ne _ _ _ _ _ (by omega)).trans t2))
  have y3 : w3.cell? ⟨V, 125, none⟩ = some (.pointer (some ⟨R, 0, none⟩)) := (World.cell?_of_block (hb _)).trans ((cell_setCell_ne _ _ _ _ _ (by omega)).trans ((cell_setCell_ne _ _ _ _ _ (by omega)).trans t3))
  have y6 : w3.cell? ⟨V, 126, none⟩ = some (.int .i64 0) := (World.cell?_of_block (hb _)).trans ((cell_setCell_ne _ _ _ _ _ (by omega)).trans ((cell_setCell_ne _ _ _ _ _ (by omega)).trans t6))
  have v3 : w3.frozen? ⟨V, 126, none⟩ = false := (World.frozen?_of_block (hb _)).trans ((frozen_setCell _ _ _ _ _).trans ((frozen_setCell _ _ _ _ _).trans u3))
  have yR : w3.heap[R]? = some (.cells #[.slice (some ⟨G, 0, none⟩) L L] 129 (0, 0)) := (hb R).trans ((heap_setCell_other _ _ _ _ (by show R ≠ V; exact hRV)).trans ((heap_setCell_other _ _ _ _ (by show R ≠ V; exact hRV)).trans TR.out))
  have yG : w3.heap[G]? = some (.cells (fillV L (pv gf) (.pointer none) 1) 83 (0, 0)) := (hb G).trans ((heap_setCell_other _ _ _ _ (by show G ≠ V; exact hGV)).trans ((heap_setCell_other _ _ _ _ (by show G ≠ V; exact hGV)).trans TG.out))
  have HK3 := hide hk3
  have YR := hide yR
  have YG := hide yG
  clear hw3 eh hk3 hb yR yG HW2 t1 t2 t3 t6 u1 u2 u3
  go_wp2_with fail
  refine (clear_one V R G L (pv gf 0) _ w3 y6 v3 y3 YR.out YG.out (fillV_get _ _ _ _ _ (by omega) (by omega)) HPW.out hGV).mono ?_
  rintro e w4 ⟨rfl, eh4, k4⟩
  have EH4 := hide eh4
  have K4 := hide k4
  clear eh4 k4
  go_wp2
  go_ret
  have hb : ∀ k : Nat, w4.heap[k]? = ((w3.setCell ⟨G, 0, none⟩ (.pointer none)).setCell ⟨V, 126, none⟩ (.int .i64 1)).heap[k]? := fun k => by rw [EH4.out]
  have cV : ∀ o, (w3.setCell ⟨G, 0, none⟩ (.pointer none)).cell? ⟨V, o, none⟩ = w3.cell? ⟨V, o, none⟩ := fun o => World.cell?_setCell_other _ _ _ _ (fun e => hGV (Addr.mk.inj e).1)
  refine ⟨rfl, ⟨?_, ?_, ?_⟩, HK3.out.trans K4.out⟩
  · exact (World.cell?_of_block (hb _)).trans ((cell_setCell_ne _ _ _ _ _ (by omega)).trans ((cV 67).trans y1))
  · exact (World.cell?_of_block (hb _)).trans ((cell_setCell_ne _ _ _ _ _ (by omega)).trans ((cV 124).trans y2))
  · exact (World.cell?_of_block (hb _)).trans (World.cell?_setCell_same _ _ _ ((cV 126).trans y6))
end Go.Proofs.Ybulkfeoc
