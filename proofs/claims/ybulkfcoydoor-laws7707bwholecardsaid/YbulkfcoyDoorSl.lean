import Derived.Test.YbulkfcoyDoorBe
import Derived.Laws.Cover3
namespace Go.Proofs.YbulkfcoyDoor
open Go.RowKit

theorem bcell {W w1 : World} (hb : Below W.heap.size W w1) : (∀ b o, b < W.heap.size → w1.cell? ⟨b, o, none⟩ = W.cell? ⟨b, o, none⟩) ∧ (∀ b o, b < W.heap.size → w1.frozen? ⟨b, o, none⟩ = W.frozen? ⟨b, o, none⟩) :=
  ⟨fun b o h => hb.cell (p := ⟨b, o, none⟩) h, fun b o h => hb.frozen (p := ⟨b, o, none⟩) h⟩

/-- What AddrFromSlice and the law's own model make of four bytes. -/
def val4 (x : Nat → Int) (p : Option Addr) : Array Value := #[.int .u64 0, .int .u64 (ad4 (x 0) (x 1) (x 2) (x 3)), .pointer p]
def val16 (x : Nat → Int) (p : Option Addr) : Array Value := #[.int .u64 (be64 (x 0) (x 1) (x 2) (x 3) (x 4) (x 5) (x 6) (x 7)), .int .u64 (be64 (x 8) (x 9) (x 10) (x 11) (x 12) (x 13) (x 14) (x 15)), .pointer p]

set_option maxHeartbeats 400000 in
theorem fromSlice4 (b off c : Nat) (x : Nat → Int) (p : Option Addr) (w : World) (hg : w.cell? ⟨0, 0, none⟩ = some (.pointer p))
    (h : ∀ j, j < 4 → w.cell? ⟨b, off + j, none⟩ = some (.int .u8 (x j))) :
    Calls Ybad.prog 10 #[.slice (some ⟨b, off, none⟩) 4 c] w fun e w' => e = .returned (.tuple #[.agg (val4 x p), .bool true]) ∧ Below w.heap.size w w' := by
  have hz : 0 < w.heap.size := block_lt_of_cell hg
  have hbl : b < w.heap.size := block_lt_of_cell (h 0 (by decide))
  have c0 := h 0 (by decide)
  have c1 := h 1 (by decide)
  have c2 := h 2 (by decide)
  have c3 := h 3 (by decide)
  rw [Nat.add_zero] at c0
  clear h
  have hat : ∀ w, (Instr.arrayAt 45 (.slice (some ⟨b, off, none⟩) 4 c)).run Ybad.prog w = .ok (.pointer (some ⟨b, off, none⟩)) w := fun w => run_arrayAt w 45 _ 4 _ 4 c Ybad.underlying45 (by decide)
  go_enter Ybad.func10, Ybad.ntmps10
  go_wp2_with (go_at_call 11; refine (addr4_any _ _ _ _ p _ ?_).mono ?_; (simp [hg, hz, World.cell?_alloc_past]); rintro e w' ⟨rfl, hb⟩; obtain ⟨hc, hf⟩ := bcell hb; have hsz : w.heap.size < w'.heap.size := by have := hb.size; simp at this; omega)
  refine bodyPost_ret (v := .tuple #[.agg (val4 x p), .bool true]) (by simp [results, Ybad.results10, go_sem, val4, hc]) rfl ⟨rfl, ?_⟩
  exact ((((((Below.refl _ _).alloc (Nat.le_refl _) _).trans (hb.mono (by simp))).setCell (by simp) _).setCell (by simp) _).setCell (by simp) _)

set_option maxHeartbeats 1000000 in
theorem fromSlice16 (b off c : Nat) (x : Nat → Int) (p : Option Addr) (w : World) (hg : w.cell? ⟨1, 0, none⟩ = some (.pointer p))
    (h : ∀ j, j < 16 → w.cell? ⟨b, off + j, none⟩ = some (.int .u8 (x j))) :
    Calls Ybad.prog 10 #[.slice (some ⟨b, off, none⟩) 16 c] w fun e w' => e = .returned (.tuple #[.agg (val16 x p), .bool true]) ∧ Below w.heap.size w w' := by
  have hz : 1 < w.heap.size := block_lt_of_cell hg
  have hbl : b < w.heap.size := block_lt_of_cell (h 0 (by decide))
  have c0 := h 0 (by decide)
  have c1 := h 1 (by decide)
  have c2 := h 2 (by decide)
  have c3 := h 3 (by decide)
  have c4 := h 4 (by decide)
  have c5 := h 5 (by decide)
  have c6 := h 6 (by decide)
  have c7 := h 7 (by decide)
  have c8 := h 8 (by decide)
  have c9 := h 9 (by decide)
  have c10 := h 10 (by decide)
  have c11 := h 11 (by decide)
  have c12 := h 12 (by decide)
  have c13 := h 13 (by decide)
  have c14 := h 14 (by decide)
  have c15 := h 15 (by decide)
  rw [Nat.add_zero] at c0
  clear h
  have hat : ∀ w, (Instr.arrayAt 47 (.slice (some ⟨b, off, none⟩) 16 c)).run Ybad.prog w = .ok (.pointer (some ⟨b, off, none⟩)) w := fun w => run_arrayAt w 47 _ 16 _ 16 c Ybad.underlying47 (by decide)
  go_enter Ybad.func10, Ybad.ntmps10
  go_wp2_with (go_at_call 12; refine (addr16_any x p _ ?_).mono ?_; (simp [hg, hz, World.cell?_alloc_past]); rintro e w' ⟨rfl, hb⟩; obtain ⟨hc, hf⟩ := bcell hb; have hsz : w.heap.size < w'.heap.size := by have := hb.size; simp at this; omega)
  refine bodyPost_ret (v := .tuple #[.agg (val16 x p), .bool true]) (by simp [results, Ybad.results10, go_sem, val16, hc]) rfl ⟨rfl, ?_⟩
  exact ((((((Below.refl _ _).alloc (Nat.le_refl _) _).trans (hb.mono (by simp))).setCell (by simp) _).setCell (by simp) _).setCell (by simp) _)
end Go.Proofs.YbulkfcoyDoor
