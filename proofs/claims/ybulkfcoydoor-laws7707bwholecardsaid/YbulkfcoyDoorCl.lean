import Derived.Test.YbulkfcoyDoorEq
import Derived.Test.YbulkfcoyDoorIt
namespace Go.Proofs.YbulkfcoyDoor
open Go.RowKit
set_option linter.unusedVariables false
set_option linter.unusedSimpArgs false

/-- A list of bytes as values. -/
def bs (x : Nat → Int) (n : Nat) : List Value := (List.range n).map (fun j => .int .u8 (x j))
theorem bs_length (x : Nat → Int) (n : Nat) : (bs x n).length = n := by simp [bs]
theorem bs_get (x : Nat → Int) (n j : Nat) (h : j < n) : (bs x n)[j]? = some (.int .u8 (x j)) := by
  simp [bs, h]
theorem bs_at (x : Nat → Int) (n j : Nat) (u : Value) (h : (bs x n)[j]? = some u) : j < n ∧ u = .int .u8 (x j) := by
  have hj : j < n := by
    have := (List.getElem?_eq_some_iff.1 h).1
    rwa [bs_length] at this
  rw [bs_get x n j hj] at h
  exact ⟨hj, (Option.some.inj h).symm⟩
theorem bs_one (x : Nat → Int) (n : Nat) : ∀ u ∈ bs x n, u.oneCell' = true := by
  intro u hu
  simp [bs] at hu
  obtain ⟨j, _, rfl⟩ := hu
  rfl

/-- WHAT THE WALK IS TOLD OF A BYTE SLICE THAT CAME IN. -/
structure IsB (w : World) (a : Option Addr) (n c : Nat) (x : Nat → Int) : Prop where
  le : n ≤ c
  cap : c ≤ maxLen
  nil : a = none → n = 0 ∧ c = 0
  some : n ≠ 0 → ∃ b off, a = some ⟨b, off, none⟩ ∧ b < w.heap.size ∧ ∀ j, j < n → w.cell? ⟨b, off + j, none⟩ = .some (.int .u8 (x j))

theorem IsB.below {w w' : World} {a : Option Addr} {n c : Nat} {x : Nat → Int} (h : IsB w a n c x) (hb : Below w.heap.size w w') : IsB w' a n c x :=
  ⟨h.le, h.cap, h.nil, fun hn => by
    obtain ⟨b, off, rfl, hlt, hc⟩ := h.some hn
    exact ⟨b, off, rfl, Nat.lt_of_lt_of_le hlt hb.size, fun j hj => (hb.cell (p := ⟨b, off + j, none⟩) hlt).trans (hc j hj)⟩⟩

theorem q22 (w : World) (a : Option Addr) (n c n' c' : Nat) : (binOp .eql 22 (.slice a n c) (.slice none n' c')).run Ybad.prog w = .ok (.bool a.isNone) w := Lib.run_eql_slice_nil w _ _ a n c n' c' Ybad.underlying22

set_option maxHeartbeats 1000000 in
theorem clone_any (a : Option Addr) (n c : Nat) (x : Nat → Int) (w : World) (h : IsB w a n c x) (hn : n ≤ 1048576) :
    Calls Ybad.prog 4 #[.slice a n c] w fun e w' => ∃ v', e = .returned v' ∧ w'.ownsRow w.heap.size 5 1 v' n (bs x n) ∧ Below w.heap.size w w' := by
  have hq := q22
  cases a with
  | none =>
    obtain ⟨rfl, rfl⟩ := h.nil rfl
    go_enter Ybad.func4, Ybad.ntmps4
    go_wp2
    go_ret
    exact ⟨_, rfl, World.ownsRow_nil _ _ _ _, Below.refl _ _⟩
  | some a =>
    obtain ⟨i0, hi, hz0, hz1, hz2⟩ := info_parts Ybad.info5
    have HC : Hid (∀ j u, (bs x n)[j]? = some u → w.cell? (a.add j) = some u) := by
      intro j u hj
      obtain ⟨hjn, rfl⟩ := bs_at x n j u hj
      obtain ⟨b, off, e, hlt, hc⟩ := h.some (by omega)
      obtain rfl := Option.some.inj e
      rw [Addr.add_lit]
      exact hc j hjn
    clear h
    go_enter Ybad.func4, Ybad.ntmps4
    go_wp2_with (at_builtin; refine wpList_append_own _ rfl _ _ 22 rfl w.heap.size 5 i0 (.int .u8 0) 1 1 Ybad.underlying22 hi hz0 hz1 hz2 rfl (by decide) _ _ _ rfl (World.ownsRow_made w #[] 0 (Nat.le_refl _) (Nat.zero_le _) (by simp)) a n c (bs x n) rfl ?qc1 ?qc2 ?qc3 ?qc4 ?qc5 ?qc6 ?_)
    case qc1 => rw [bs_length]; omega
    case qc2 =>
      intro j u hj
      exact Lib.cell?_alloc_some _ (HC.out j u hj)
    case qc3 => exact bs_one x n
    case qc4 => unfold maxLen; omega
    case qc5 => omega
    case qc6 => simp
    intro v' w1 hown hgrow hnil
    go_wp2
    go_ret
    refine ⟨v', rfl, by simpa using hown, ?_⟩
    exact ((Below.refl _ w).alloc (Nat.le_refl _) _).grown hgrow (by simp) (by intro k hk; simp [Value.ownBlock] at hk; omega)

/-- slices.Equal of a row of the call's own and a slice that came in, of the same bytes. -/
theorem equal_own (base : Nat) (v : Value) (a : Option Addr) (n c : Nat) (x : Nat → Int) (w : World) (ho : w.ownsRow base 5 1 v n (bs x n)) (h : IsB w a n c x) :
    Calls Ybad.prog 8 #[v, .slice a n c] w fun e w' => e = .returned (.bool true) ∧ ∃ q, w' = w.drewN q := by
  have hmx : n ≤ maxLen := Nat.le_trans h.le h.cap
  rcases ho.2 with ⟨rfl, rfl⟩ | ⟨g, cap, cur, rfl, _, hg, _, _, _, _⟩
  · exact equal_none _ _ _ _ w
  · by_cases hn : n = 0
    · subst hn; exact equal_none _ _ _ _ w
    · obtain ⟨b, off, rfl, hlt, hc⟩ := h.some hn
      refine equal_same g 0 b off n cap c x w hmx (fun j hj => ?_) hc
      have := ho.cells (g := g) rfl j _ (bs_get x n j hj)
      rwa [Addr.add_lit] at this

/-- slices.Equal of two rows of the call's own. -/
theorem equal_owns (base base' : Nat) (v v' : Value) (n : Nat) (x : Nat → Int) (w : World) (hm : n ≤ maxLen) (ho : w.ownsRow base 5 1 v n (bs x n)) (ho' : w.ownsRow base' 5 1 v' n (bs x n)) :
    Calls Ybad.prog 8 #[v, v'] w fun e w' => e = .returned (.bool true) ∧ ∃ q, w' = w.drewN q := by
  rcases ho'.2 with ⟨rfl, rfl⟩ | ⟨g, cap, cur, rfl, _, hg, hcap, hcm, _, _⟩
  · exact equal_own base v none 0 0 x w ho ⟨Nat.le_refl _, Nat.zero_le _, fun _ => ⟨rfl, rfl⟩, fun h => absurd rfl h⟩
  · refine equal_own base v (some ⟨g, 0, none⟩) n cap x w ho ⟨hcap, hcm, by simp, fun _ => ⟨g, 0, rfl, (Array.getElem?_eq_some_iff.1 hg).1, fun j hj => ?_⟩⟩
    have := ho'.cells (g := g) rfl j _ (bs_get x n j hj)
    rwa [Addr.add_lit] at this
end Go.Proofs.YbulkfcoyDoor
