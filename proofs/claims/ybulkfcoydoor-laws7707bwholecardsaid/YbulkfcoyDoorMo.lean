import Derived.Test.YbulkfcoyDoorSl
namespace Go.Proofs.YbulkfcoyDoor
open Go.RowKit
set_option linter.unusedVariables false
set_option linter.unusedSimpArgs false

/-- An array of n bytes of which the first k have been filled. -/
def fillA (n : Nat) (x : Nat → Int) (k : Nat) : Array Value := Array.ofFn (fun i : Fin n => if i.val < k then .int .u8 (x i.val) else .int .u8 0)
theorem fillA_at (n : Nat) (x : Nat → Int) (k : Nat) (h : k < n) : (fillA n x k)[k]? = some (.int .u8 0) := by
  simp [fillA, h]
theorem fillA_set (n : Nat) (x : Nat → Int) (k : Nat) (h : k < n) : (fillA n x k).setIfInBounds k (.int .u8 (x k)) = fillA n x (k + 1) := by
  apply Array.ext
  · simp [fillA]
  · intro i h1 h2
    by_cases e : k = i
    · subst e; simp [fillA]
    · have h0 : i < (fillA n x k).size := by simpa [fillA] using h2
      rw [Array.getElem_setIfInBounds_ne h0 e]
      have h3 : (i < k) ↔ (i < k + 1) := by omega
      simp only [fillA, Array.getElem_ofFn, h3]
theorem fillA_4 (x : Nat → Int) : fillA 4 x 4 = #[.int .u8 (x 0), .int .u8 (x 1), .int .u8 (x 2), .int .u8 (x 3)] := rfl
theorem fillA_16 (x : Nat → Int) : fillA 16 x 16 = #[.int .u8 (x 0), .int .u8 (x 1), .int .u8 (x 2), .int .u8 (x 3), .int .u8 (x 4), .int .u8 (x 5), .int .u8 (x 6), .int .u8 (x 7), .int .u8 (x 8), .int .u8 (x 9), .int .u8 (x 10), .int .u8 (x 11), .int .u8 (x 12), .int .u8 (x 13), .int .u8 (x 14), .int .u8 (x 15)] := rfl

set_option maxHeartbeats 1000000 in
theorem model4 (b off c : Nat) (x : Nat → Int) (p : Option Addr) (w : World) (hg : w.cell? ⟨0, 0, none⟩ = some (.pointer p))
    (h : ∀ j, j < 4 → w.cell? ⟨b, off + j, none⟩ = some (.int .u8 (x j))) :
    Calls Ybad.prog 7 #[.slice (some ⟨b, off, none⟩) 4 c] w fun e w' => e = .returned (.agg (val4 x p)) ∧ Below w.heap.size w w' := by
  have hz : 0 < w.heap.size := block_lt_of_cell hg
  have hbl : b < w.heap.size := block_lt_of_cell (h 0 (by decide))
  have H : Hid (∀ j, j < 4 → w.cell? ⟨b, off + j, none⟩ = some (.int .u8 (x j))) := h
  clear h
  go_enter Ybad.func7, Ybad.ntmps7
  go_wp2
  go_loopw [4] (fun j wr => ∃ k : Nat, k ≤ 4 ∧ j = .int .i64 k ∧ wr = (w.alloc (.cells #[.int .u64 0, .int .u64 0, .pointer none] 38)).alloc (.cells (fillA 4 x k) 45))
    (fun j _ => 4 - (intOf j).toNat)
  case atStart => exact ⟨0, Nat.zero_le _, rfl, rfl⟩
  case round =>
    obtain ⟨k, hk, rfl, rfl⟩ := hrel
    by_cases hlt : k < 4
    · have hc := H.out k hlt
      have hfc := fillA_at 4 x k hlt
      have hset := fillA_set 4 x k hlt
      have HS : Hid ((fillA 4 x k).setIfInBounds k (.int .u8 (x k)) = fillA 4 x (k + 1)) := hset
      clear hset
      go_wp2
      go_roundw
      case rel => exact ⟨k + 1, by omega, by go_num, by rw [HS.out]⟩
      case measure => simp [intOf]; omega
    · obtain rfl : k = 4 := by omega
      rw [fillA_4]
      go_wp2_with (go_at_call 11; refine (addr4_any (x 0) (x 1) (x 2) (x 3) p _ ?_).mono ?_; (exact (World.cell?_alloc_past _ _ _ (by simp <;> omega)).trans ((World.cell?_alloc_past _ _ _ hz).trans hg)); rintro e w' ⟨rfl, hb⟩; obtain ⟨hc, hf⟩ := bcell hb; have hsz : w.heap.size + 1 < w'.heap.size := by { have := hb.size; simp at this; omega }; have d0 : w'.cell? ⟨w.heap.size, 0, none⟩ = some (.int .u64 0) := (hc _ _ (by simp <;> omega)).trans (by simp [go_sem]); have d1 : w'.cell? ⟨w.heap.size, 1, none⟩ = some (.int .u64 0) := (hc _ _ (by simp <;> omega)).trans (by simp [go_sem]); have d2 : w'.cell? ⟨w.heap.size, 2, none⟩ = some (.pointer none) := (hc _ _ (by simp <;> omega)).trans (by simp [go_sem]))
      refine bodyPost_ret (v := .agg (val4 x p)) (by simp [results, Ybad.results7, go_sem, val4, d0, d1, d2]) rfl ⟨rfl, ?_⟩
      exact (((((((Below.refl _ _).alloc (Nat.le_refl _) _).alloc (by simp) _).trans (hb.mono (by simp; omega))).setCell (by simp) _).setCell (by simp) _).setCell (by simp) _)

set_option maxHeartbeats 1000000 in
theorem model16 (b off c : Nat) (x : Nat → Int) (p : Option Addr) (w : World) (hg : w.cell? ⟨1, 0, none⟩ = some (.pointer p))
    (h : ∀ j, j < 16 → w.cell? ⟨b, off + j, none⟩ = some (.int .u8 (x j))) :
    Calls Ybad.prog 7 #[.slice (some ⟨b, off, none⟩) 16 c] w fun e w' => e = .returned (.agg (val16 x p)) ∧ Below w.heap.size w w' := by
  have hz : 1 < w.heap.size := block_lt_of_cell hg
  have hbl : b < w.heap.size := block_lt_of_cell (h 0 (by decide))
  have H : Hid (∀ j, j < 16 → w.cell? ⟨b, off + j, none⟩ = some (.int .u8 (x j))) := h
  clear h
  go_enter Ybad.func7, Ybad.ntmps7
  go_wp2
  go_loopw [6] (fun j wr => ∃ k : Nat, k ≤ 16 ∧ j = .int .i64 k ∧ wr = (w.alloc (.cells #[.int .u64 0, .int .u64 0, .pointer none] 38)).alloc (.cells (fillA 16 x k) 47))
    (fun j _ => 16 - (intOf j).toNat)
  case atStart => exact ⟨0, Nat.zero_le _, rfl, rfl⟩
  case round =>
    obtain ⟨k, hk, rfl, rfl⟩ := hrel
    by_cases hlt : k < 16
    · have hc := H.out k hlt
      have hfc := fillA_at 16 x k hlt
      have hset := fillA_set 16 x k hlt
      have HS : Hid ((fillA 16 x k).setIfInBounds k (.int .u8 (x k)) = fillA 16 x (k + 1)) := hset
      clear hset
      go_wp2
      go_roundw
      case rel => exact ⟨k + 1, by omega, by go_num, by rw [HS.out]⟩
      case measure => simp [intOf]; omega
    · obtain rfl : k = 16 := by omega
      rw [fillA_16]
      go_wp2_with (go_at_call 12; refine (addr16_any x p _ ?_).mono ?_; (exact (World.cell?_alloc_past _ _ _ (by simp <;> omega)).trans ((World.cell?_alloc_past _ _ _ hz).trans hg)); rintro e w' ⟨rfl, hb⟩; obtain ⟨hc, hf⟩ := bcell hb; have hsz : w.heap.size + 1 < w'.heap.size := by { have := hb.size; simp at this; omega }; have d0 : w'.cell? ⟨w.heap.size, 0, none⟩ = some (.int .u64 0) := (hc _ _ (by simp <;> omega)).trans (by simp [go_sem]); have d1 : w'.cell? ⟨w.heap.size, 1, none⟩ = some (.int .u64 0) := (hc _ _ (by simp <;> omega)).trans (by simp [go_sem]); have d2 : w'.cell? ⟨w.heap.size, 2, none⟩ = some (.pointer none) := (hc _ _ (by simp <;> omega)).trans (by simp [go_sem]))
      refine bodyPost_ret (v := .agg (val16 x p)) (by simp [results, Ybad.results7, go_sem, val16, d0, d1, d2]) rfl ⟨rfl, ?_⟩
      exact (((((((Below.refl _ _).alloc (Nat.le_refl _) _).alloc (by simp) _).trans (hb.mono (by simp; omega))).setCell (by simp) _).setCell (by simp) _).setCell (by simp) _)
end Go.Proofs.YbulkfcoyDoor
