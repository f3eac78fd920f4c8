import Derived.Test.YbulkfeocSf
namespace Go.Proofs.Ybulkfeoc
open Go.RowKit Go.Conc Go.Conc.Locks Go.MuLone
set_option linter.unusedVariables false
set_option linter.unusedSimpArgs false

theorem eqNil74 (a : Addr) (w : World) : (binOp .eql 74 (.pointer (some a)) (.pointer none)).run Yba.prog w = .ok (.bool false) w := by
  have h : ∀ d : Nat, (Op.equalIn (d + 1) 74 (.pointer (some a)) (.pointer none)).run Yba.prog w = .ok false w := fun d => by
    simp [Op.equalIn, run_underlying Yba.underlying74, sizeOf, typeInfo]
  simp only [binOp]
  simp [Op.equal, Op.maxDepth, h 9999]

theorem dpush_fin {w : World} {V R G L m g : Nat} {gf : Nat → Nat} (h : Deq w V R G L m gf) (hm : m < L) (hg : gf m = g) :
    Deq ((w.setCell ⟨G, m, none⟩ (.pointer (some ⟨g, 0, none⟩))).setCell ⟨V, 124, none⟩ (.int .i64 ((m + 1 : Nat) : Int))) V R G L (m + 1) gf ∧
    Kept (fun k => k = V ∨ k = G) w ((w.setCell ⟨G, m, none⟩ (.pointer (some ⟨g, 0, none⟩))).setCell ⟨V, 124, none⟩ (.int .i64 ((m + 1 : Nat) : Int))) ∧
    SideV w ((w.setCell ⟨G, m, none⟩ (.pointer (some ⟨g, 0, none⟩))).setCell ⟨V, 124, none⟩ (.int .i64 ((m + 1 : Nat) : Int))) V := by
  obtain ⟨hp, h1, hR, hG, hRV, hGV⟩ := h.ring (by omega)
  have hRG : R ≠ G := by
    rintro rfl
    rw [hR] at hG
    injection hG with e
    injection e with _ e2 _
    exact absurd e2 (by decide)
  have c : ∀ o, (w.setCell ⟨G, m, none⟩ (.pointer (some ⟨g, 0, none⟩))).cell? ⟨V, o, none⟩ = w.cell? ⟨V, o, none⟩ := fun o => World.cell?_setCell_other _ _ _ _ (fun e => hGV (Addr.mk.inj e).1)
  refine ⟨⟨?_, ?_, ?_, fun o => ?_, hm, fun e => absurd e (by omega), fun _ => ⟨hp, ?_, ?_, ?_, hRV, hGV⟩⟩, ?_, ?_⟩
  · rw [cell_setCell_ne _ _ _ _ _ (by omega), c]; exact h.top
  · exact World.cell?_setCell_same _ _ _ ((c 124).trans h.bottom)
  · rw [cell_setCell_ne _ _ _ _ _ (by omega), c]; exact h.clean
  · rw [frozen_setCell, frozen_setCell]; exact h.free o
  · rw [cell_setCell_ne _ _ _ _ _ (by omega), c]; exact h1
  · rw [heap_setCell_other _ _ _ _ (by show R ≠ V; exact hRV), heap_setCell_other _ _ _ _ (by show R ≠ G; exact hRG)]; exact hR
  · rw [heap_setCell_other _ _ _ _ (by show G ≠ V; exact hGV), heap_setCell_same _ _ _ _ _ _ hG, ← fillV_set, ← hg]
    rfl
  · exact ((Kept.refl (fun k => k = V ∨ k = G) w).setCell G m _ (.inl (.inr rfl))).setCell V 124 _ (.inl (.inl rfl))
  · unfold SideV
    rw [cell_setCell_ne _ _ _ _ _ (by omega), c]

set_option maxRecDepth 10000 in
set_option maxHeartbeats 2000000 in
theorem dpush7 (V R G L m g : Nat) (gf : Nat → Nat) (w : World) (hg : gf m = g) (h : Deq w V R G L m gf) (h64 : L ≠ 0 → 64 ≤ L) (hm : m ≤ 300) (hP : ∀ i, i < m → ProcAt w (gf i) ∧ gf i ≠ V) (hPg : ProcAt w g ∧ g ≠ V) :
    Calls Yba.prog 7 #[.pointer (some ⟨V, 3, none⟩), .pointer (some ⟨g, 0, none⟩)] w fun e w' => e = .returned (.tuple #[]) ∧ ∃ R' G' L', Deq w' V R' G' L' (m + 1) gf ∧ (L' ≠ 0 → 64 ≤ L') ∧ Kept (fun k => k = V ∨ (L ≠ 0 ∧ k = G)) w w' ∧ SideV w w' V ∧
      ((L ≠ 0 ∧ R' = R ∧ G' = G) ∨ (w.heap.size ≤ R' ∧ w.heap.size ≤ G')) := by
  have hV : V < w.heap.size := block_lt_of_cell h.top
  have H := hide h
  have HP := hide hP
  have HPg := hide hPg
  have HG := hide hg
  have h1 := h.top
  have h2 := h.bottom
  have hle := h.le
  clear h hP hPg hg
  go_enter Yba.func7, Yba.ntmps7
  go_wp2_with fail
  refine (load64 V 124 m _ h2).mono ?_
  rintro e w' ⟨rfl, hw'⟩
  rw [hw']
  clear hw' w'
  go_wp2_with fail
  refine (load64 V 67 0 _ h1).mono ?_
  rintro e w' ⟨rfl, hw'⟩
  rw [hw']
  clear hw' w'
  by_cases hL0 : L = 0
  · have hm0 : m = 0 := by omega
    have h3 := H.out.nil hL0
    go_wp2_with fail
    refine (loadRingNil V 125 _ h3).mono ?_
    rintro e w' ⟨rfl, hw'⟩
    rw [hw']
    clear hw' w'
    have hh := H.out
    rw [hL0, hm0] at hh
    have HH := hide hh
    have HL := hide hL0
    subst hm0
    clear hh hL0
    go_wp2_with fail
    refine (dgrow_nil V R G gf w HH.out).mono ?_
    rintro e w1 ⟨R', G', rfl, r1, r2, r3, r4, r5⟩
    obtain ⟨hp, q1, q2, q3, q4, q5⟩ := r1.ring (by omega)
    have b1 := r1.bottom
    have b2 := r1.free 124
    have R1 := hide r1
    have R2 := hide r2
    have R3 := hide r3
    have Q2 := hide q2
    have Q3 := hide q3
    have HPW := hide hp
    clear r1 r2 r3 q1 q2 q3 hp
    go_wp2_with fail
    refine (slot23 R' G' 64 0 _ ?_ HPW.out (by omega)).mono ?_
    · exact cell_of_row _ _ _ _ _ _ Q2.out
    rw [Nat.mod_eq_of_lt (by omega : 0 < 64)]
    rintro e w' ⟨rfl, qq, hw'⟩
    rw [hw']
    clear hw' w'
    go_wp2_with fail
    have hpk : ProcAt w1 g := HPg.out.1.of_block (R2.out.block g HPg.out.1.lt HPg.out.2)
    refine (storeProc G' 0 g (.pointer none) _ ?_ ?_ ?_).mono ?_
    · exact (cell_of_row w1 _ _ _ _ _ Q3.out).trans (fillV_at _ _ _ _ (by omega))
    · exact frozen_of_row w1 _ _ _ _ Q3.out
    · exact hpk.shape
    rintro e w2 ⟨rfl, hw2⟩
    have HW2 := hide hw2
    clear hw2
    go_wp2_with fail
    refine (store64 V 124 _ (.int .i64 0) _ ?_ ?_).mono ?_
    · rw [HW2.out]; exact (World.cell?_setCell_other _ _ _ _ (fun e => q5 (Addr.mk.inj e).1)).trans b1
    · rw [HW2.out]; exact (frozen_setCell _ _ _ _ _).trans b2
    rintro e w3 ⟨rfl, hw3⟩
    have HW3 := hide hw3
    clear hw3
    go_wp2
    go_end0
    obtain ⟨p1, p2, p3⟩ := dpush_fin R1.out (by omega) HG.out
    have eh : w3.heap = ((w1.setCell ⟨G', 0, none⟩ (.pointer (some ⟨g, 0, none⟩))).setCell ⟨V, 124, none⟩ (.int .i64 ((0 + 1 : Nat) : Int))).heap := by rw [HW3.out, HW2.out]; rfl
    have k2 : Kept (fun k => k = V ∨ k = G') w1 w3 := p2.of_heap eh (by rw [HW3.out, HW2.out]; rfl) (by rw [HW3.out, HW2.out]; rfl) (by rw [HW3.out, HW2.out]; rfl)
    refine ⟨rfl, R', G', 64, p1.of_heap eh, fun _ => Nat.le_refl _, ⟨k2.os.trans R2.out.os, k2.tape.trans R2.out.tape, k2.output.trans R2.out.output, Nat.le_trans R2.out.size k2.size, fun k hk hs => ?_⟩, ?_, .inr ⟨r4, r5⟩⟩
    · exact (k2.block k (Nat.lt_of_lt_of_le hk R2.out.size) (fun e => by rcases e with e | e; exact hs (.inl e); omega)).trans (R2.out.block k hk fun e => hs (.inl e))
    · refine Eq.trans ?_ (p3.trans R3.out)
      exact World.cell?_of_block (by rw [eh])
  · obtain ⟨hp, h3, hR, hGr, hRV, hGV⟩ := H.out.ring hL0
    have hL64 := h64 hL0
    have hc : w.cell? ⟨R, 0, none⟩ = some (.slice (some ⟨G, 0, none⟩) L L) := cell_of_row _ _ _ _ _ _ hR
    have hq := fun a w => eqNil74 a w
    go_wp2_with fail
    refine (loadRing V 125 R _ h3 (shape_of_row _ _ _ _ _ hR)).mono ?_
    rintro e w' ⟨rfl, hw'⟩
    rw [hw']
    clear hw' w'
    by_cases hml : m < L
    · have R1 := H
      have Q2 := hide hR
      have Q3 := hide hGr
      have HPW := hide hp
      have b1 := h2
      have b2 := H.out.free 124
      have q5 := hGV
      have hpk := HPg.out.1
      have hsm : ¬ (L : Int) ≤ (m : Int) := by omega
      have HC := hide hc
      clear hR hGr hp hGV
      go_wp2_with fail
      refine (slot23 R G L m _ ?_ HPW.out (by omega)).mono ?_
      · exact cell_of_row _ _ _ _ _ _ Q2.out
      rw [Nat.mod_eq_of_lt (by omega : m < L)]
      rintro e w' ⟨rfl, qq, hw'⟩
      rw [hw']
      clear hw' w'
      go_wp2_with fail
      refine (storeProc G m g (.pointer none) _ ?_ ?_ ?_).mono ?_
      · exact (cell_of_row w _ _ _ _ _ Q3.out).trans (fillV_at _ _ _ _ (by omega))
      · exact frozen_of_row w _ _ _ _ Q3.out
      · exact hpk.shape
      rintro e w2 ⟨rfl, hw2⟩
      have HW2 := hide hw2
      clear hw2
      go_wp2_with fail
      refine (store64 V 124 _ (.int .i64 m) _ ?_ ?_).mono ?_
      · rw [HW2.out]; exact (World.cell?_setCell_other _ _ _ _ (fun e => q5 (Addr.mk.inj e).1)).trans b1
      · rw [HW2.out]; exact (frozen_setCell _ _ _ _ _).trans b2
      rintro e w3 ⟨rfl, hw3⟩
      have HW3 := hide hw3
      clear hw3
      go_wp2
      go_end0
      obtain ⟨p1, p2, p3⟩ := dpush_fin R1.out (by omega) HG.out
      have eh : w3.heap = ((w.setCell ⟨G, m, none⟩ (.pointer (some ⟨g, 0, none⟩))).setCell ⟨V, 124, none⟩ (.int .i64 ((m + 1 : Nat) : Int))).heap := by rw [HW3.out, HW2.out]; rfl
      have k2 : Kept (fun k => k = V ∨ k = G) w w3 := p2.of_heap eh (by rw [HW3.out, HW2.out]; rfl) (by rw [HW3.out, HW2.out]; rfl) (by rw [HW3.out, HW2.out]; rfl)
      refine ⟨rfl, R, G, L, p1.of_heap eh, fun _ => hL64, ⟨k2.os, k2.tape, k2.output, k2.size, fun k hk hs => ?_⟩, ?_, .inl ⟨hL0, rfl, rfl⟩⟩
      · exact k2.block k hk (fun e => by rcases e with e | e; exact hs (.inl e); exact hs (.inr ⟨hL0, e⟩))
      · refine Eq.trans ?_ p3
        exact World.cell?_of_block (by rw [eh])
    · have hmL : m = L := by omega
      have hL256 : L ≤ 256 := by rcases hp with rfl | rfl | rfl | rfl | rfl | rfl <;> omega
      subst hmL
      clear hR hGr hp
      have hz0 : (m : Int) ≤ (m : Int) := Int.le_refl _
      go_wp2_with fail
      refine (dgrow_full V R G m gf w H.out hL64 hL256 HP.out).mono ?_
      rintro e w1 ⟨R', G', rfl, r1, r2, r3, r4, r5⟩
      obtain ⟨hp, q1, q2, q3, q4, q5⟩ := r1.ring (by omega)
      have b1 := r1.bottom
      have b2 := r1.free 124
      have R1 := hide r1
      have R2 := hide r2
      have R3 := hide r3
      have Q2 := hide q2
      have Q3 := hide q3
      have HPW := hide hp
      have hpk : ProcAt w1 g := HPg.out.1.of_block (R2.out.block g HPg.out.1.lt HPg.out.2)
      clear r1 r2 r3 q1 q2 q3 hp hc
      go_wp2_with fail
      refine (slot23 R' G' (2 * m) m _ ?_ HPW.out (by omega)).mono ?_
      · exact cell_of_row _ _ _ _ _ _ Q2.out
      rw [Nat.mod_eq_of_lt (by omega : m < 2 * m)]
      rintro e w' ⟨rfl, qq, hw'⟩
      rw [hw']
      clear hw' w'
      go_wp2_with fail
      refine (storeProc G' m g (.pointer none) _ ?_ ?_ ?_).mono ?_
      · exact (cell_of_row w1 _ _ _ _ _ Q3.out).trans (fillV_at _ _ _ _ (by omega))
      · exact frozen_of_row w1 _ _ _ _ Q3.out
      · exact hpk.shape
      rintro e w2 ⟨rfl, hw2⟩
      have HW2 := hide hw2
      clear hw2
      go_wp2_with fail
      refine (store64 V 124 _ (.int .i64 m) _ ?_ ?_).mono ?_
      · rw [HW2.out]; exact (World.cell?_setCell_other _ _ _ _ (fun e => q5 (Addr.mk.inj e).1)).trans b1
      · rw [HW2.out]; exact (frozen_setCell _ _ _ _ _).trans b2
      rintro e w3 ⟨rfl, hw3⟩
      have HW3 := hide hw3
      clear hw3
      go_wp2
      go_end0
      obtain ⟨p1, p2, p3⟩ := dpush_fin R1.out (by omega) HG.out
      have eh : w3.heap = ((w1.setCell ⟨G', m, none⟩ (.pointer (some ⟨g, 0, none⟩))).setCell ⟨V, 124, none⟩ (.int .i64 ((m + 1 : Nat) : Int))).heap := by rw [HW3.out, HW2.out]; rfl
      have k2 : Kept (fun k => k = V ∨ k = G') w1 w3 := p2.of_heap eh (by rw [HW3.out, HW2.out]; rfl) (by rw [HW3.out, HW2.out]; rfl) (by rw [HW3.out, HW2.out]; rfl)
      refine ⟨rfl, R', G', 2 * m, p1.of_heap eh, fun _ => by omega, ⟨k2.os.trans R2.out.os, k2.tape.trans R2.out.tape, k2.output.trans R2.out.output, Nat.le_trans R2.out.size k2.size, fun k hk hs => ?_⟩, ?_, .inr ⟨r4, r5⟩⟩
      · exact (k2.block k (Nat.lt_of_lt_of_le hk R2.out.size) (fun e => by rcases e with e | e; exact hs (.inl e); omega)).trans (R2.out.block k hk fun e => hs (.inl e))
      · refine Eq.trans ?_ (p3.trans R3.out)
        exact World.cell?_of_block (by rw [eh])
end Go.Proofs.Ybulkfeoc
