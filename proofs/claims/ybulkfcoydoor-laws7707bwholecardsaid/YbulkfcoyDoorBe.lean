import Derived.Test.YbulkfcoyDoorProg
import Derived.WalkKit
import Derived.WalkSpells
import Derived.Deep.QuietTactic
import Derived.BigQuiet
import Derived.Deep.RegionHeld2
import Derived.WalkSmall
namespace Go.Proofs.YbulkfcoyDoor
open Go.RowKit

/-- What BEUint64 computes of eight bytes, as the walk writes it. -/
def be64 (x0 x1 x2 x3 x4 x5 x6 x7 : Int) : Int :=
  bits .or .u64 (bits .or .u64 (bits .or .u64 (bits .or .u64 (bits .or .u64 (bits .or .u64 (bits .or .u64 (IntKind.u64.wrap x7)
    (IntKind.u64.wrap (IntKind.u64.wrap x6 * 256))) (IntKind.u64.wrap (IntKind.u64.wrap x5 * 65536))) (IntKind.u64.wrap (IntKind.u64.wrap x4 * 16777216)))
    (IntKind.u64.wrap (IntKind.u64.wrap x3 * 4294967296))) (IntKind.u64.wrap (IntKind.u64.wrap x2 * 1099511627776))) (IntKind.u64.wrap (IntKind.u64.wrap x1 * 281474976710656)))
    (IntKind.u64.wrap (IntKind.u64.wrap x0 * 72057594037927936))

set_option maxHeartbeats 400000 in
theorem be64_any (b off n c : Nat) (x0 x1 x2 x3 x4 x5 x6 x7 : Int) (w : World) (hn : (7 : Int) < (n : Int))
    (h0 : w.cell? ⟨b, off, none⟩ = some (.int .u8 x0)) (h1 : w.cell? ⟨b, off + 1, none⟩ = some (.int .u8 x1))
    (h2 : w.cell? ⟨b, off + 2, none⟩ = some (.int .u8 x2)) (h3 : w.cell? ⟨b, off + 3, none⟩ = some (.int .u8 x3))
    (h4 : w.cell? ⟨b, off + 4, none⟩ = some (.int .u8 x4)) (h5 : w.cell? ⟨b, off + 5, none⟩ = some (.int .u8 x5))
    (h6 : w.cell? ⟨b, off + 6, none⟩ = some (.int .u8 x6)) (h7 : w.cell? ⟨b, off + 7, none⟩ = some (.int .u8 x7)) :
    Calls Ybad.prog 13 #[.slice (some ⟨b, off, none⟩) n c] w fun e w' => e = .returned (.int .u64 (be64 x0 x1 x2 x3 x4 x5 x6 x7)) ∧ ∃ q, w' = w.drewN q := by
  have g6 : (6 : Int) < (n : Int) := by omega
  have g5 : (5 : Int) < (n : Int) := by omega
  have g4 : (4 : Int) < (n : Int) := by omega
  have g3 : (3 : Int) < (n : Int) := by omega
  have g2 : (2 : Int) < (n : Int) := by omega
  have g1 : (1 : Int) < (n : Int) := by omega
  have g0 : (0 : Int) < (n : Int) := by omega
  go_enter Ybad.func13, Ybad.ntmps13
  go_wp2
  go_quiet (fail)
  go_wp2
  go_ret
  exact ⟨rfl, _, rfl⟩

def ad4 (x0 x1 x2 x3 : Int) : Int :=
  bits .or .u64 (bits .or .u64 (bits .or .u64 (bits .or .u64 281470681743360 (IntKind.u64.wrap (IntKind.u64.wrap x0 * 16777216))) (IntKind.u64.wrap (IntKind.u64.wrap x1 * 65536))) (IntKind.u64.wrap (IntKind.u64.wrap x2 * 256))) (IntKind.u64.wrap x3)

set_option maxHeartbeats 400000 in
theorem addr4_any (x0 x1 x2 x3 : Int) (p : Option Addr) (w : World) (hg : w.cell? ⟨0, 0, none⟩ = some (.pointer p)) :
    Calls Ybad.prog 11 #[.agg #[.int .u8 x0, .int .u8 x1, .int .u8 x2, .int .u8 x3]] w fun e w' =>
      e = .returned (.agg #[.int .u64 0, .int .u64 (ad4 x0 x1 x2 x3), .pointer p]) ∧ Below w.heap.size w w' := by
  have hz : 0 < w.heap.size := block_lt_of_cell hg
  go_enter Ybad.func11, Ybad.ntmps11
  go_wp2
  exact bodyPost_ret (v := .agg #[.int .u64 0, .int .u64 (ad4 x0 x1 x2 x3), .pointer p]) (by simp [results, Ybad.results11, go_sem, ad4]) rfl
    ⟨rfl, ((Below.refl _ _).alloc (Nat.le_refl _) _).alloc (by simp) _⟩


/-- Sixteen bytes as an array's value. -/
def arr16 (x : Nat → Int) : Array Value := #[.int .u8 (x 0), .int .u8 (x 1), .int .u8 (x 2), .int .u8 (x 3), .int .u8 (x 4), .int .u8 (x 5), .int .u8 (x 6), .int .u8 (x 7), .int .u8 (x 8), .int .u8 (x 9), .int .u8 (x 10), .int .u8 (x 11), .int .u8 (x 12), .int .u8 (x 13), .int .u8 (x 14), .int .u8 (x 15)]

theorem be64_lo (x : Nat → Int) (B : Nat) (W : World) (h : ∀ j, j < 16 → W.cell? ⟨B, j, none⟩ = some (.int .u8 (x j))) :
    Calls Ybad.prog 13 #[.slice (some ⟨B, 0, none⟩) 8 16] W fun e w' => e = .returned (.int .u64 (be64 (x 0) (x 1) (x 2) (x 3) (x 4) (x 5) (x 6) (x 7))) ∧ ∃ q, w' = W.drewN q :=
  be64_any B 0 8 16 _ _ _ _ _ _ _ _ W (by decide) (h 0 (by decide)) (h 1 (by decide)) (h 2 (by decide)) (h 3 (by decide)) (h 4 (by decide)) (h 5 (by decide)) (h 6 (by decide)) (h 7 (by decide))
theorem be64_hi (x : Nat → Int) (B : Nat) (W : World) (h : ∀ j, j < 16 → W.cell? ⟨B, j, none⟩ = some (.int .u8 (x j))) :
    Calls Ybad.prog 13 #[.slice (some ⟨B, 8, none⟩) 8 8] W fun e w' => e = .returned (.int .u64 (be64 (x 8) (x 9) (x 10) (x 11) (x 12) (x 13) (x 14) (x 15))) ∧ ∃ q, w' = W.drewN q :=
  be64_any B 8 8 8 _ _ _ _ _ _ _ _ W (by decide) (h 8 (by decide)) (h 9 (by decide)) (h 10 (by decide)) (h 11 (by decide)) (h 12 (by decide)) (h 13 (by decide)) (h 14 (by decide)) (h 15 (by decide))
theorem arr16_at (x : Nat → Int) (j : Nat) (h : j < 16) : (arr16 x)[j]? = some (.int .u8 (x j)) := by
  have hj : j = 0 ∨ j = 1 ∨ j = 2 ∨ j = 3 ∨ j = 4 ∨ j = 5 ∨ j = 6 ∨ j = 7 ∨ j = 8 ∨ j = 9 ∨ j = 10 ∨ j = 11 ∨ j = 12 ∨ j = 13 ∨ j = 14 ∨ j = 15 := by omega
  rcases hj with h | h | h | h | h | h | h | h | h | h | h | h | h | h | h | h <;> subst h <;> rfl

set_option maxHeartbeats 1000000 in
theorem addr16_any (x : Nat → Int) (p : Option Addr) (w : World) (hg : w.cell? ⟨1, 0, none⟩ = some (.pointer p)) :
    Calls Ybad.prog 12 #[.agg (arr16 x)] w fun e w' =>
      e = .returned (.agg #[.int .u64 (be64 (x 0) (x 1) (x 2) (x 3) (x 4) (x 5) (x 6) (x 7)), .int .u64 (be64 (x 8) (x 9) (x 10) (x 11) (x 12) (x 13) (x 14) (x 15)), .pointer p]) ∧ Below w.heap.size w w' := by
  have hz : 1 < w.heap.size := block_lt_of_cell hg
  have hne : ¬ w.heap.size = 0 := by omega
  have hB : Hid (∀ j, j < 16 → ((w.alloc (.cells (arr16 x) 47)).alloc (.cells #[.int .u64 0, .int .u64 0, .pointer none] 38)).cell? ⟨w.heap.size, j, none⟩ = some (.int .u8 (x j))) := by
    intro j hj
    rw [World.cell?_alloc_past _ _ _ (by simp), World.cell?_alloc_at _ _ _ _ rfl]
    exact arr16_at x j hj
  unfold arr16 at hB ⊢
  go_enter Ybad.func12, Ybad.ntmps12
  go_wp2
  go_region_held2 (fun w' => w'.cell? ⟨1, 0, none⟩ = some (.pointer p)) (go_keep)
    (first
      | (go_at_call_of 13 (Value.slice (some ⟨w.heap.size, 0, none⟩) 8 16); refine (be64_lo x w.heap.size _ ?_).mono ?_; (intro j hj; simpa using hB.out j hj); rintro e w' ⟨rfl, q, rfl⟩)
      | (go_at_call_of 13 (Value.slice (some ⟨w.heap.size, 8, none⟩) 8 8); refine (be64_hi x w.heap.size _ ?_).mono ?_; (intro j hj; simpa using hB.out j hj); rintro e w' ⟨rfl, q, rfl⟩))
  go_wp2
  refine bodyPost_ret (v := .agg #[.int .u64 (be64 (x 0) (x 1) (x 2) (x 3) (x 4) (x 5) (x 6) (x 7)), .int .u64 (be64 (x 8) (x 9) (x 10) (x 11) (x 12) (x 13) (x 14) (x 15)), .pointer p]) (by simp [results, Ybad.results12, go_sem]) rfl ⟨rfl, ?_⟩
  exact (((below_drewN (((Below.refl _ _).alloc (Nat.le_refl _) _).alloc (by simp) _) _).setCell (by simp) _).setCell (by simp) _).setCell (by simp) _
end Go.Proofs.YbulkfcoyDoor
