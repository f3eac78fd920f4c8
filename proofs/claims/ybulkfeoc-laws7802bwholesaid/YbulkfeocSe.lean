import Derived.Test.YbulkfeocSd
namespace Go.Proofs.Ybulkfeoc
open Go.RowKit Go.Conc Go.Conc.Locks Go.MuLone
set_option linter.unusedVariables false
set_option linter.unusedSimpArgs false

/-- At the head of PopMany's loop: k values have gone over. -/
structure Pop (w wr : World) (B G D L m : Nat) (f : Nat → Value) (k : Nat) : Prop where
  buf : wr.cell? ⟨B, 324, none⟩ = some (.slice (some ⟨G, 0, none⟩) L L)
  head : wr.cell? ⟨B, 325, none⟩ = some (.int .i64 ((k % L : Nat) : Int))
  num : wr.cell? ⟨B, 326, none⟩ = some (.int .i64 m)
  free : ∀ o, wr.frozen? ⟨B, o, none⟩ = false
  dst : wr.heap[D]? = some (.cells (fillV (m + 2) f (.pointer none) k) 80 (0, 0))
  src : ∀ j, k ≤ j → j < m → wr.cell? ⟨G, j, none⟩ = some (f j)
  srcFree : ∀ o, wr.frozen? ⟨G, o, none⟩ = false
  kept : Kept (fun i => i = B ∨ i = G ∨ i = D) w wr

theorem Pop.step {w wr : World} {B G D L m : Nat} {f : Nat → Value} {k : Nat} (h : Pop w wr B G D L m f k) (hGB : G ≠ B) (hDB : D ≠ B) (hDG : D ≠ G) (hk : k < m) :
    Pop w (((wr.setCell ⟨D, k, none⟩ (f k)).setCell ⟨G, k, none⟩ (.pointer none)).setCell ⟨B, 325, none⟩ (.int .i64 (((k + 1) % L : Nat) : Int))) B G D L m f (k + 1) := by
  have cB : ∀ o, ((wr.setCell ⟨D, k, none⟩ (f k)).setCell ⟨G, k, none⟩ (.pointer none)).cell? ⟨B, o, none⟩ = wr.cell? ⟨B, o, none⟩ := fun o =>
    (World.cell?_setCell_other _ _ _ _ (fun e => hGB (Addr.mk.inj e).1)).trans (World.cell?_setCell_other _ _ _ _ (fun e => hDB (Addr.mk.inj e).1))
  refine ⟨?_, ?_, ?_, fun o => ?_, ?_, fun j hj hjm => ?_, fun o => ?_, ?_⟩
  · rw [cell_setCell_ne _ _ _ _ _ (by omega), cB]; exact h.buf
  · exact World.cell?_setCell_same _ _ _ ((cB 325).trans h.head)
  · rw [cell_setCell_ne _ _ _ _ _ (by omega), cB]; exact h.num
  · rw [frozen_setCell, frozen_setCell, frozen_setCell]; exact h.free o
  · rw [heap_setCell_other _ _ _ _ (by show D ≠ B; exact hDB), heap_setCell_other _ _ _ _ (by show D ≠ G; exact hDG), heap_setCell_same _ _ _ _ _ _ h.dst, fillV_set]
  · rw [World.cell?_setCell_other _ _ _ _ (fun e => hGB (Addr.mk.inj e).1.symm), cell_setCell_ne _ _ _ _ _ (by omega), World.cell?_setCell_other _ _ _ _ (fun e => hDG (Addr.mk.inj e).1)]
    exact h.src j (by omega) hjm
  · rw [frozen_setCell, frozen_setCell, frozen_setCell]; exact h.srcFree o
  · exact ((h.kept.setCell D k _ (.inl (.inr (.inr rfl)))).setCell G k _ (.inl (.inr (.inl rfl)))).setCell B 325 _ (.inl (.inl rfl))
theorem Pop.of_heap {w wr w2 : World} {B G D L m : Nat} {f : Nat → Value} {k : Nat} (h : Pop w wr B G D L m f k) (hh : w2.heap = wr.heap) (h1 : w2.os = wr.os) (h2 : w2.tape = wr.tape) (h3 : w2.output = wr.output) : Pop w w2 B G D L m f k := by
  have hb : ∀ k : Nat, w2.heap[k]? = wr.heap[k]? := fun k => by rw [hh]
  exact ⟨(World.cell?_of_block (hb _)).trans h.buf, (World.cell?_of_block (hb _)).trans h.head, (World.cell?_of_block (hb _)).trans h.num, fun o => (World.frozen?_of_block (hb _)).trans (h.free o), (hb _).trans h.dst,
    fun j h1 h2 => (World.cell?_of_block (hb _)).trans (h.src j h1 h2), fun o => (World.frozen?_of_block (hb _)).trans (h.srcFree o), h.kept.of_heap hh h1 h2 h3⟩

set_option maxRecDepth 10000 in
set_option maxHeartbeats 2000000 in
theorem popMany13 (B L m D : Nat) (a : Option Addr) (f : Nat → Value) (w : World) (hf : ∀ i, i < m → ∃ g, f i = .pointer (some ⟨g, 0, none⟩)) (h : Fifo w B L m a f) (hm : m ≤ 301) (hD : w.heap[D]? = some (.cells (fillV (m + 2) f (.pointer none) 0) 80 (0, 0)))
    (hDB : D ≠ B) (hDG : a ≠ some ⟨D, 0, none⟩) :
    Calls Yba.prog 13 #[.pointer (some ⟨B, 324, none⟩), .slice (some ⟨D, 0, none⟩) (m + 2) (m + 2)] w fun e w' => e = .returned (.int .i64 m) ∧ w'.heap[D]? = some (.cells (fillV (m + 2) f (.pointer none) m) 80 (0, 0)) ∧
      Kept (fun k => k = B ∨ a = some ⟨k, 0, none⟩ ∨ k = D) w w' := by
  have H := hide h
  have HF := hide hf
  have HD := hide hD
  have h3 := h.num
  clear h hf hD
  have hmin : min ((m : Int) + 2) (m : Int) = (m : Int) := by omega
  go_enter Yba.func13, Yba.ntmps13
  by_cases hm0 : m = 0
  · subst hm0
    go_wp2_with fail
    refine (load64 B 326 0 _ h3).mono ?_
    rintro e w' ⟨rfl, hw'⟩
    rw [hw']
    clear hw' w'
    go_wp2
    go_ret
    exact ⟨rfl, HD.out, Kept.refl _ _⟩
  · obtain ⟨hp, G, rfl, hGB, hG⟩ := H.out.row (by have := H.out.le; omega)
    have hDG' : D ≠ G := fun e => hDG (by rw [e])
    have hle := H.out.le
    have hst : Pop w w B G D L m f 0 := ⟨H.out.buf, by rw [Nat.zero_mod]; exact H.out.head, H.out.num, H.out.free, HD.out, fun j _ hj => (cell_of_row _ _ _ _ _ _ hG).trans (fillV_get _ _ _ _ _ (by omega) hj), fun o => frozen_of_row _ _ _ _ _ hG, Kept.refl _ _⟩
    have HS := hide hst
    have HP := hide hp
    have hL512 : L ≤ 512 := by rcases hp with rfl | rfl | rfl | rfl | rfl | rfl <;> omega
    have hml : ((m : Int) == 0) = false := by simpa using (by omega : ¬ (m : Int) = 0)
    clear hst hp hG hDG
    go_wp2_with fail
    refine (load64 B 326 m _ h3).mono ?_
    rintro e w' ⟨rfl, hw'⟩
    rw [hw']
    clear hw' w'
    clear h3
    go_wp2
    go_loopg [20] m (fun g s20 wr => ∃ k : Nat, g = m - k ∧ k ≤ m ∧ s20 = .int .i64 k ∧ Pop w wr B G D L m f k)
    case atStart => exact ⟨0, rfl, Nat.zero_le _, rfl, HS.out⟩
    case round =>
      obtain ⟨k, hg, hk, rfl, hpp⟩ := hrel
      have HG := hide hg
      have HPP := hide hpp
      by_cases hlt : k < m
      · obtain ⟨gk, hgk⟩ := HF.out k hlt
        have hkL : k % L = k := Nat.mod_eq_of_lt (by omega)
        have z1 := hpp.buf
        have z2 := hpp.head
        rw [hkL] at z2
        have z3 := hpp.src k (Nat.le_refl _) hlt
        rw [hgk] at z3
        have z4 : wr.cell? ⟨D, k, none⟩ = some (.pointer none) := (cell_of_row _ _ _ _ _ _ hpp.dst).trans (fillV_at _ _ _ _ (by omega))
        have z5 : wr.frozen? ⟨D, k, none⟩ = false := frozen_of_row _ _ _ _ _ hpp.dst
        have z6 := hpp.srcFree k
        have z7 := hpp.free 325
        have k1 : bits .and .i64 ((k : Int) + 1) ((L : Int) - 1) = (((k + 1) % L : Nat) : Int) := mask (k + 1) L HP.out (by omega)
        have k2 : (k : Int) < (L : Int) := by omega
        have k3 : IntKind.i64.wrap ((L : Int) - 1) = (L : Int) - 1 := wrap_in _ (by omega) (by omega)
        have k4 : IntKind.i64.wrap ((k : Int) + 1) = (k : Int) + 1 := wrap_in _ (by omega) (by omega)
        have k5 : (k : Int) < (m : Int) := by omega
        have HGK := hide hgk
        clear hg hpp hgk hkL
        go_wp2_with fail
        go_region
        go_wp2_with fail
        go_region
        go_wp2_with fail
        go_region
        go_wp2_with fail
        go_roundg (m - (k + 1))
        case measure => rw [HG.out]; omega
        case rel =>
          refine ⟨k + 1, rfl, by omega, by go_num, ?_⟩
          have := HPP.out.step hGB hDB hDG' hlt
          rw [HGK.out] at this
          exact this.of_heap rfl rfl rfl rfl
      · obtain rfl : k = m := by omega
        have z7 := hpp.num
        have z8 := hpp.free 326
        clear hpp hg
        go_wp2_with fail
        refine (store64 B 326 _ (.int .i64 k) _ z7 z8).mono ?_
        rintro e w2 ⟨rfl, hw2⟩
        have HW2 := hide hw2
        clear hw2
        go_wp2
        go_ret
        refine ⟨rfl, ?_, ?_⟩
        · rw [HW2.out, heap_setCell_other _ _ _ _ (by show D ≠ B; exact hDB)]
          exact HPP.out.dst
        · rw [HW2.out]
          refine (HPP.out.kept.setCell B 326 _ (.inl (.inl rfl))).mono fun i hi => ?_
          rcases hi with e | e | e
          · exact .inl e
          · exact .inr (.inl (by rw [e]))
          · exact .inr (.inr e)
end Go.Proofs.Ybulkfeoc
