import Derived.Test.YbulkfeocDoorRu
import Derived.Deep.LoopGhost
namespace Go.Proofs.YbulkfeocDoor
open Go.Conc Go.Conc.Locks Go.RowKit Go.MuLone
set_option linter.unusedVariables false
set_option linter.unusedSimpArgs false

/-- What the walks know of the swept processes: the row at gW leads to n of them; each is held or complete. -/
structure Procs (w : World) (gW n : Nat) (Pb : Nat → Nat) (st : Nat → Int) (orp : Nat → Bool) : Prop where
  row : ∀ i, i < n → w.cell? ⟨gW, i, none⟩ = some (.pointer (some ⟨Pb i, 0, none⟩))
  mu : ∀ i, i < n → w.cell? ⟨Pb i, 10, none⟩ = some (.int .i32 0)
  state : ∀ i, i < n → w.cell? ⟨Pb i, 12, none⟩ = some (.int .u8 (st i))
  orph : ∀ i, i < n → w.cell? ⟨Pb i, 4, none⟩ = some (.bool (orp i))
  free : ∀ i, i < n → w.frozen? ⟨Pb i, 10, none⟩ = false
  held : ∀ i, i < n → (st i = 0 ∧ orp i = false) ∨ st i = 3

/-- The six variables that closeRun's closure captures. -/
structure Boxes (w wr : World) (B R bg en k : Nat) : Prop where
  below : Below w.heap.size w wr
  size : w.heap.size + 1 + 1 + 1 + 1 + 1 < wr.heap.size
  sbox : wr.cell? ⟨w.heap.size, 0, none⟩ = some (.pointer (some ⟨B, 0, none⟩))
  rbox : wr.cell? ⟨w.heap.size + 1, 0, none⟩ = some (.pointer (some ⟨R, 0, none⟩))
  begin_ : wr.cell? ⟨w.heap.size + 1 + 1, 0, none⟩ = some (.int .i64 bg)
  end_ : wr.cell? ⟨w.heap.size + 1 + 1 + 1, 0, none⟩ = some (.int .i64 en)
  next : wr.cell? ⟨w.heap.size + 1 + 1 + 1 + 1, 0, none⟩ = some (.int .i64 k)
  closed : wr.cell? ⟨w.heap.size + 1 + 1 + 1 + 1 + 1, 0, none⟩ = some (.int .i64 0)
  free : wr.frozen? ⟨w.heap.size + 1 + 1 + 1 + 1, 0, none⟩ = false
theorem six (w : World) (A B C D E F : Obj) : let W := (((((w.alloc A).alloc B).alloc C).alloc D).alloc E).alloc F
    W.heap[w.heap.size]? = some A ∧ W.heap[w.heap.size + 1]? = some B ∧ W.heap[w.heap.size + 1 + 1]? = some C ∧ W.heap[w.heap.size + 1 + 1 + 1]? = some D ∧ W.heap[w.heap.size + 1 + 1 + 1 + 1]? = some E ∧
    W.heap[w.heap.size + 1 + 1 + 1 + 1 + 1]? = some F ∧ Below w.heap.size w W ∧ w.heap.size + 1 + 1 + 1 + 1 + 1 < W.heap.size := by
  intro W
  have e : W.heap = (((((w.heap.push A).push B).push C).push D).push E).push F := rfl
  rw [e]
  simp only [Array.getElem?_push, Array.size_push]
  refine ⟨?_, ?_, ?_, ?_, ?_, ?_, ?_, by omega⟩
  · rw [if_neg (by omega), if_neg (by omega), if_neg (by omega), if_neg (by omega), if_neg (by omega), if_pos trivial]
  · rw [if_neg (by omega), if_neg (by omega), if_neg (by omega), if_neg (by omega), if_pos trivial]
  · rw [if_neg (by omega), if_neg (by omega), if_neg (by omega), if_pos trivial]
  · rw [if_neg (by omega), if_neg (by omega), if_pos trivial]
  · rw [if_neg (by omega), if_pos trivial]
  · rw [if_pos trivial]
  · exact ((((((Below.refl _ _).alloc (Nat.le_refl _) _).alloc (by simp) _).alloc (by simp; omega) _).alloc (by simp; omega) _).alloc (by simp; omega) _).alloc (by simp; omega) _
theorem boxes_start (w : World) (B R bg en : Nat) : Boxes w ((((((w.alloc (.cells #[.pointer (some ⟨B, 0, none⟩)] 24)).alloc (.cells #[.pointer (some ⟨R, 0, none⟩)] 64)).alloc (.cells #[.int .i64 bg] 2)).alloc (.cells #[.int .i64 en] 2)).alloc (.cells #[.int .i64 bg] 2)).alloc (.cells #[.int .i64 0] 2)) B R bg en bg := by
  obtain ⟨h0, h1, h2, h3, h4, h5, h6, h7⟩ := six w (.cells #[.pointer (some ⟨B, 0, none⟩)] 24) (.cells #[.pointer (some ⟨R, 0, none⟩)] 64) (.cells #[.int .i64 bg] 2) (.cells #[.int .i64 en] 2) (.cells #[.int .i64 bg] 2) (.cells #[.int .i64 0] 2)
  exact ⟨h6, h7, (cell_of_row _ _ _ _ _ _ h0).trans rfl, (cell_of_row _ _ _ _ _ _ h1).trans rfl, (cell_of_row _ _ _ _ _ _ h2).trans rfl, (cell_of_row _ _ _ _ _ _ h3).trans rfl, (cell_of_row _ _ _ _ _ _ h4).trans rfl, (cell_of_row _ _ _ _ _ _ h5).trans rfl, frozen_of_row _ _ _ _ _ h4⟩
theorem Boxes.step {w wr : World} {B R bg en k : Nat} (h : Boxes w wr B R bg en k) (q : Nat) : Boxes w ((wr.setCell ⟨w.heap.size + 1 + 1 + 1 + 1, 0, none⟩ (.int .i64 ((k : Int) + 1))).drewN q) B R bg en (k + 1) := by
  have o : ∀ b, b ≠ w.heap.size + 1 + 1 + 1 + 1 → ((wr.setCell ⟨w.heap.size + 1 + 1 + 1 + 1, 0, none⟩ (.int .i64 ((k : Int) + 1))).drewN q).cell? ⟨b, 0, none⟩ = wr.cell? ⟨b, 0, none⟩ := fun b hb =>
    World.cell?_setCell_other _ _ _ _ (fun e => hb (Addr.mk.inj e).1.symm)
  exact ⟨below_drewN (h.below.setCell (by show _ ≤ w.heap.size + 1 + 1 + 1 + 1; omega) _) _, by simpa [World.setCell] using h.size, (o _ (by omega)).trans h.sbox, (o _ (by omega)).trans h.rbox, (o _ (by omega)).trans h.begin_, (o _ (by omega)).trans h.end_,
    World.cell?_setCell_same _ _ _ h.next, (o _ (by omega)).trans h.closed, by simpa using h.free⟩

set_option maxHeartbeats 4000000 in
theorem closeRun_any (B cd R dn gW n c : Nat) (bg en : Nat) (lv gone : Int) (cl : Bool) (Pb : Nat → Nat) (st : Nat → Int) (orp : Nat → Bool) (w : World)
    (hP : Procs w gW n Pb st orp) (hS : Sch w B cd lv cl) (hlv : -9223372036854775808 ≤ lv ∧ lv ≤ 9223372036854775807) (hcd : w.heap[cd]? = some (.chan 0 #[] false 0 0 false)) (hdn : w.heap[dn]? = some (.chan 0 #[] false 0 0 false))
    (r0 : w.cell? ⟨R, 0, none⟩ = some (.slice (some ⟨gW, 0, none⟩) n c)) (r2 : w.cell? ⟨R, 2, none⟩ = some (.int .i64 gone)) (r3 : w.cell? ⟨R, 3, none⟩ = some (.chan (some dn))) (fR : w.frozen? ⟨R, 2, none⟩ = false)
    (n1 : cd ≠ dn) (n2 : R ≠ cd) (n3 : R ≠ dn) (hbe : bg ≤ en) (hen : en ≤ n) (hn16 : n ≤ 65536) :
    Calls Ybad.prog 6 #[.pointer (some ⟨B, 0, none⟩), .pointer (some ⟨R, 0, none⟩), .int .i64 bg, .int .i64 en] w fun e w' =>
      e = .returned (.tuple #[]) ∧ Kept (fun k => k = cd ∨ k = R ∨ k = dn) w w' ∧ w'.heap[cd]? = some (.chan 0 #[] (decide (lv = 0 ∧ cl = true)) 0 0 false) ∧
        w'.heap[dn]? = some (.chan 0 #[] (decide (wrap64 (gone + ((en : Int) - bg)) = n)) 0 0 false) ∧ w'.heap[R]? = (w.setCell ⟨R, 2, none⟩ (.int .i64 (wrap64 (gone + ((en : Int) - bg))))).heap[R]? := by
  have HP := hide hP
  have HS := hide hS
  have Hcd := hide hcd
  have Hdn := hide hdn
  have H0 := hide r0
  have H2 := hide r2
  have H3 := hide r3
  have HfR := hide fR
  have lR : R < w.heap.size := block_lt_of_cell r0
  clear hP hS hcd hdn r0 r2 r3 fR
  go_enter_defers Ybad.func6, Ybad.ntmps6
  go_wp2_with fail
  go_loopg [10] (en - bg) (fun g _ wr => ∃ k : Nat, g = en - k ∧ bg ≤ k ∧ k ≤ en ∧ Boxes w wr B R bg en k)
  case atStart => exact ⟨bg, rfl, Nat.le_refl _, hbe, boxes_start w B R bg en⟩
  case round =>
    obtain ⟨k, hg, hk1, hk2, hbx⟩ := hrel
    have HG := hide hg
    have HX := hide hbx
    have cE := hbx.end_
    have cN := hbx.next
    have lsz := hbx.size
    clear hg hbx
    by_cases hlt : k < en
    · have cRb := HX.out.rbox
      have fN := HX.out.free
      have c0 : wr.cell? ⟨R, 0, none⟩ = some (.slice (some ⟨gW, 0, none⟩) n c) := (HX.out.below.cell (p := ⟨R, 0, none⟩) lR).trans H0.out
      have hkn : (k : Int) < (n : Int) := by omega
      have lP : Pb k < w.heap.size := block_lt_of_cell (HP.out.mu k (by omega))
      have cW : wr.cell? ⟨gW, k, none⟩ = some (.pointer (some ⟨Pb k, 0, none⟩)) := (HX.out.below.cell (p := ⟨gW, k, none⟩) (block_lt_of_cell (HP.out.row k (by omega)) : gW < w.heap.size)).trans (HP.out.row k (by omega))
      have pM : wr.cell? ⟨Pb k, 10, none⟩ = some (.int .i32 0) := (HX.out.below.cell (p := ⟨Pb k, 10, none⟩) lP).trans (HP.out.mu k (by omega))
      have pS : wr.cell? ⟨Pb k, 12, none⟩ = some (.int .u8 (st k)) := (HX.out.below.cell (p := ⟨Pb k, 12, none⟩) lP).trans (HP.out.state k (by omega))
      have pO : wr.cell? ⟨Pb k, 4, none⟩ = some (.bool (orp k)) := (HX.out.below.cell (p := ⟨Pb k, 4, none⟩) lP).trans (HP.out.orph k (by omega))
      have pF : wr.frozen? ⟨Pb k, 10, none⟩ = false := (HX.out.below.frozen (p := ⟨Pb k, 10, none⟩) lP).trans (HP.out.free k (by omega))
      have ne : ¬ w.heap.size + 1 + 1 + 1 + 1 = Pb k := by omega
      go_wp2
      go_quiet (fail)
      go_wp2_with fail
      refine (finish_not (Pb k) (st k) (orp k) _ ?_ ?_ ?_ (HP.out.held k (by omega))).mono ?_
      · exact (World.cell?_setCell_other _ _ _ _ (fun e => ne (Addr.mk.inj e).1)).trans pM
      · exact (World.cell?_setCell_other _ _ _ _ (fun e => ne (Addr.mk.inj e).1)).trans pS
      · simpa using pF
      rintro e w' ⟨rfl, rfl⟩
      go_wp2
      go_roundg (en - (k + 1))
      case measure => rw [HG.out]; omega
      case rel => exact ⟨k + 1, rfl, by omega, by omega, HX.out.step _⟩
    · obtain rfl : k = en := by omega
      have lB : B < w.heap.size := block_lt_of_cell HS.out.live
      have lcd : cd < w.heap.size := (Array.getElem?_eq_some_iff.1 Hcd.out).1
      have ldn : dn < w.heap.size := (Array.getElem?_eq_some_iff.1 Hdn.out).1
      go_wp2
      refine leaves_cons (f := 13) (args := #[.pointer (some ⟨w.heap.size, 0, none⟩), .pointer (some ⟨w.heap.size + 1 + 1 + 1 + 1 + 1, 0, none⟩), .pointer (some ⟨w.heap.size + 1, 0, none⟩), .pointer (some ⟨w.heap.size + 1 + 1 + 1 + 1, 0, none⟩), .pointer (some ⟨w.heap.size + 1 + 1, 0, none⟩), .pointer (some ⟨w.heap.size + 1 + 1 + 1, 0, none⟩)]) (by simp) (by simp [go_sem]) ?_
      refine (run_end B cd R dn _ _ _ _ _ _ n k bg lv gone cl (some ⟨gW, 0, none⟩) c .returning wr HX.out.sbox HX.out.closed HX.out.rbox HX.out.next HX.out.begin_ HX.out.end_ (HS.out.of_block (HX.out.below.block B lB)) hlv ((HX.out.below.block cd lcd).trans Hcd.out) ((HX.out.below.block dn ldn).trans Hdn.out)
        ((HX.out.below.cell (p := ⟨R, 0, none⟩) lR).trans H0.out) ((HX.out.below.cell (p := ⟨R, 2, none⟩) lR).trans H2.out) ((HX.out.below.cell (p := ⟨R, 3, none⟩) lR).trans H3.out) ((HX.out.below.frozen (p := ⟨R, 2, none⟩) lR).trans HfR.out)
        n1 n2 n3 (by omega) (by omega) (by omega) (by omega) (by omega) hk1 hn16).mono ?_
      rintro e u' w'' ⟨rfl, rfl, kp, hc1, hd1, hr1⟩
      refine ⟨_, results_none rfl _ _ _, rfl, (Kept.ofBelow HX.out.below).trans kp, hc1, hd1, hr1.trans (setCell_block (HX.out.below.block R lR) _ _)⟩
end Go.Proofs.YbulkfeocDoor
