import Derived.Test.YbulkfcoyDoorSl
import Derived.Deep.LoopGhost
import Derived.Laws.AppendOwnNone
namespace Go.Proofs.YbulkfcoyDoor
open Go.RowKit
set_option linter.unusedVariables false
set_option linter.unusedSimpArgs false

/-- slices.Equal over two byte slices that hold the same bytes. -/
theorem equal_same (b1 o1 b2 o2 n c1 c2 : Nat) (x : Nat → Int) (w : World) (hn : n ≤ maxLen)
    (h1 : ∀ j, j < n → w.cell? ⟨b1, o1 + j, none⟩ = some (.int .u8 (x j))) (h2 : ∀ j, j < n → w.cell? ⟨b2, o2 + j, none⟩ = some (.int .u8 (x j))) :
    Calls Ybad.prog 8 #[.slice (some ⟨b1, o1, none⟩) n c1, .slice (some ⟨b2, o2, none⟩) n c2] w fun e w' => e = .returned (.bool true) ∧ ∃ q, w' = w.drewN q := by
  unfold maxLen at hn
  have H1 : Hid (∀ j, j < n → w.cell? ⟨b1, o1 + j, none⟩ = some (.int .u8 (x j))) := h1
  have H2 : Hid (∀ j, j < n → w.cell? ⟨b2, o2 + j, none⟩ = some (.int .u8 (x j))) := h2
  clear h1 h2
  go_enter Ybad.func8, Ybad.ntmps8
  go_wp2
  go_loopw [5, 13] (fun _ j wr => ∃ k q : Nat, k ≤ n ∧ j = .int .i64 k ∧ wr = w.drewN q) (fun _ j _ => n - (intOf j).toNat)
  case atStart => exact ⟨0, 0, Nat.zero_le _, rfl, rfl⟩
  case round =>
    obtain ⟨k, q, hk, rfl, rfl⟩ := hrel
    by_cases hlt : k < n
    · have g1 := H1.out k hlt
      have g2 := H2.out k hlt
      go_wp2
      go_quiet (fail)
      go_wp2
      go_roundw
      case rel => exact ⟨k + 1, _, by omega, by go_num, rfl⟩
      case measure => simp [intOf]; omega
    · go_wp2
      go_ret
      exact ⟨rfl, _, rfl⟩

/-- .. over two slices without elements, of whatever make. -/
theorem equal_none (a1 a2 : Option Addr) (c1 c2 : Nat) (w : World) :
    Calls Ybad.prog 8 #[.slice a1 0 c1, .slice a2 0 c2] w fun e w' => e = .returned (.bool true) ∧ ∃ q, w' = w.drewN q := by
  go_enter Ybad.func8, Ybad.ntmps8
  go_wp2
  go_loopw [5, 13] (fun _ j wr => j = .int .i64 0 ∧ wr = w) (fun _ j _ => 0)
  case atStart => exact ⟨rfl, rfl⟩
  case round =>
    obtain ⟨rfl, rfl⟩ := hrel
    go_wp2
    go_ret
    exact ⟨rfl, 0, rfl⟩
end Go.Proofs.YbulkfcoyDoor
