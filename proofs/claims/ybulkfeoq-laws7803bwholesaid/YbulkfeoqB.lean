import Derived.Test.YbulkfeoqA
import Derived.OwnWalk
import Derived.Laws.Rows
namespace Go.Proofs.Ybulkfeoq
open Go.RowKit
set_option linter.unusedVariables false
set_option linter.unusedSimpArgs false

/-- A slice of strings that the walk may read. -/
structure IsS (w : World) (a : Option Addr) (n : Nat) (x : Nat → ByteArray) : Prop where
  nil : a = none → n = 0
  read : n ≠ 0 → ∃ b off, a = some ⟨b, off, none⟩ ∧ b < w.heap.size ∧ ∀ j, j < n → w.cell? ⟨b, off + j, none⟩ = some (.string (x j))

theorem IsS.below {w w' : World} {a : Option Addr} {n : Nat} {x : Nat → ByteArray} (h : IsS w a n x) {B : Nat} (hB : w.heap.size ≤ B) (hb : Below B w w') : IsS w' a n x := by
  refine ⟨h.nil, fun hn => ?_⟩
  obtain ⟨b, off, rfl, hl, hc⟩ := h.read hn
  exact ⟨b, off, rfl, Nat.lt_of_lt_of_le hl hb.size, fun j hj => (hb.cell (p := ⟨b, off + j, none⟩) (Nat.lt_of_lt_of_le hl hB)).trans (hc j hj)⟩

theorem IsS.drew {w : World} {a : Option Addr} {n : Nat} {x : Nat → ByteArray} (h : IsS w a n x) (q : Nat) : IsS (w.drewN q) a n x := by
  refine ⟨h.nil, fun hn => ?_⟩
  obtain ⟨b, off, rfl, hl, hc⟩ := h.read hn
  exact ⟨b, off, rfl, hl, fun j hj => (hc j hj)⟩

theorem own_full {w : World} {base g n : Nat} {e : TypeId} {xs : List Value} (h : w.ownsRow base e 1 (.slice (some ⟨g, 0, none⟩) n n) n xs) : w.heap[g]? = some (.cells xs.toArray e (0, 0)) := by
  rcases h.2 with ⟨h1, _⟩ | ⟨g', cap, cur, h1, _, hg, _, _, h5, h6⟩
  · cases h1
  · obtain ⟨rfl, rfl⟩ : g = g' ∧ n = cap := by injection h1 with e1 e2 e3; injection e1 with e1; exact ⟨(Addr.mk.inj e1).1, e3⟩
    rw [hg, ← h6, List.take_of_length_le (by simp; omega)]
theorem below_of_grown {w w' : World} (h : w.grownBy w' none) : Below w.heap.size w w' := ⟨h.os, h.tape, h.output, h.size, fun k hk => h.block k hk (by simp)⟩
/-- A row of n values of which the first k are told by f, the others z. -/
def fillV (n : Nat) (f : Nat → Value) (z : Value) (k : Nat) : Array Value := Array.ofFn (fun i : Fin n => if i.val < k then f i.val else z)
theorem fillV_at (n : Nat) (f : Nat → Value) (z : Value) (k : Nat) (h : k < n) : (fillV n f z k)[k]? = some z := by simp [fillV, h]
theorem fillV_get (n : Nat) (f : Nat → Value) (z : Value) (k i : Nat) (h : i < n) (hk : i < k) : (fillV n f z k)[i]? = some (f i) := by simp [fillV, h, hk]
theorem fillV_size (n : Nat) (f : Nat → Value) (z : Value) (k : Nat) : (fillV n f z k).size = n := by simp [fillV]
theorem fillV_set (n : Nat) (f : Nat → Value) (z : Value) (k : Nat) : (fillV n f z k).setIfInBounds k (f k) = fillV n f z (k + 1) := by
  apply Array.ext
  · simp [fillV]
  · intro i h1 h2
    by_cases e : k = i
    · subst e; simp [fillV]
    · have h0 : i < (fillV n f z k).size := by simpa [fillV] using h2
      rw [Array.getElem_setIfInBounds_ne h0 e]
      have h3 : (i < k) ↔ (i < k + 1) := by omega
      simp only [fillV, Array.getElem_ofFn, h3]
theorem fillV_made (n : Nat) (f : Nat → Value) (z : Value) : (madeCells #[z] (n * 1)).toList.toArray = fillV n f z 0 := by
  rw [Nat.mul_one, Array.toArray_toList]
  apply Array.ext
  · simp [fillV, size_madeCells]
  · intro i h1 h2
    simp [fillV, madeCells, Nat.mod_one]
theorem Yba.info9 : (Yba.prog.info? 9).map (fun i => (i.zero, i.size, i.bytes)) = some (some (.string ⟨#[]⟩), 1, 16) := by kernel_rfl
theorem info_parts {P : Program} {t : TypeId} {z : Value} {s b : Nat} (h : (P.info? t).map (fun i => (i.zero, i.size, i.bytes)) = some (some z, s, b)) : ∃ i, P.info? t = some i ∧ i.zero = some z ∧ i.size = s ∧ i.bytes = b := by
  obtain ⟨i, hi, he⟩ := Option.map_eq_some_iff.1 h
  simp only [Prod.mk.injEq] at he
  exact ⟨i, hi, he.1, he.2.1, he.2.2⟩

theorem q34 (w : World) (a : Option Addr) (n c n' c' : Nat) : (binOp .eql 34 (.slice a n c) (.slice none n' c')).run Yba.prog w = .ok (.bool a.isNone) w := Lib.run_eql_slice_nil w _ _ a n c n' c' Yba.underlying34

set_option maxRecDepth 100000 in
/-- zzs7803bcopy. -/
theorem copy9 (a : Option Addr) (n c : Nat) (x : Nat → ByteArray) (w : World) (h : IsS w a n x) (hn : n ≤ 1048576) :
    Calls Yba.prog 9 #[.slice a n c] w fun e w' => ∃ a' c', e = .returned (.slice a' n c') ∧ a'.isNone = a.isNone ∧ Below w.heap.size w w' ∧ IsS w' a' n x := by
  cases a with
  | none =>
    obtain rfl := h.nil rfl
    have HH := hide h
    clear h
    have hq := q34
    go_enter Yba.func9, Yba.ntmps9
    go_wp2
    go_ret
    exact ⟨_, _, rfl, rfl, Below.refl _ _, HH.out⟩
  | some ad =>
    have HH := hide h
    clear h
    obtain ⟨i0, hi, hz0, hz1, hz2⟩ := info_parts Yba.info9
    have hq := q34
    go_enter Yba.func9, Yba.ntmps9
    go_wp2_with (first
      | (at_make; refine wpList_make_full _ rfl (.tmp 8) (.tmp 8) 34 rfl w.heap.size 9 i0 (.string ⟨#[]⟩) 1 Yba.underlying34 hi hz0 hz1 _ _ _ _ n rfl rfl rfl rfl (by rw [hz2]; omega) (by unfold maxLen; omega) (Nat.le_refl _) ?_; intro w1 own1 gr1; have HG1 := hide (own_full own1); have HB1 := hide (below_of_grown gr1); clear own1 gr1))
    clear hi hz0 hz1 hz2
    have l1 : w.heap.size < w1.heap.size := (Array.getElem?_eq_some_iff.1 HG1.out).1
    go_loopg [4] n (fun g j wr => ∃ k : Nat, g = n - k ∧ k ≤ n ∧ j = .int .i64 k ∧ Below w.heap.size w wr ∧ w.heap.size < wr.heap.size ∧ wr.heap[w.heap.size]? = some (.cells (fillV n (fun i => .string (x i)) (.string ⟨#[]⟩) k) 9 (0, 0)))
    case atStart => exact ⟨0, rfl, Nat.zero_le _, rfl, HB1.out, l1, by rw [← fillV_made]; exact HG1.out⟩
    case round =>
      obtain ⟨k, hg, hk, rfl, hb, hs, hrow⟩ := hrel
      have HR := hide hrow
      have HB := hide hb
      have HG := hide hg
      clear hrow hb hg
      by_cases hlt : k < n
      · obtain ⟨b, off, e, hl, hc⟩ := HH.out.read (by omega)
        obtain rfl := Option.some.inj e
        clear e
        have c1 : wr.cell? ⟨b, off + k, none⟩ = some (.string (x k)) := (HB.out.cell (p := ⟨b, off + k, none⟩) hl).trans (hc k hlt)
        have c2 : wr.cell? ⟨w.heap.size, k, none⟩ = some (.string ⟨#[]⟩) := (cell_of_row _ _ _ _ _ _ HR.out).trans (fillV_at _ _ _ _ hlt)
        have f2 : wr.frozen? ⟨w.heap.size, k, none⟩ = false := frozen_of_row _ _ _ _ _ HR.out
        clear hc
        go_wp2
        go_roundg (n - (k + 1))
        case measure => rw [HG.out]; omega
        case rel =>
          refine ⟨k + 1, rfl, by omega, by go_num, HB.out.setCell (p := ⟨w.heap.size, k, none⟩) (Nat.le_refl _) _, by simpa [World.setCell] using hs, ?_⟩
          rw [heap_setCell_same _ _ _ _ _ _ HR.out, fillV_set n (fun i => .string (x i))]
      · obtain rfl : k = n := by omega
        go_wp2
        go_ret
        refine ⟨some ⟨w.heap.size, 0, none⟩, k, rfl, rfl, HB.out, fun h => (by cases h), fun hn => ⟨_, _, rfl, hs, fun j hj => ?_⟩⟩
        rw [cell_of_row _ _ _ _ _ _ HR.out, Nat.zero_add]
        exact fillV_get _ _ _ _ _ hj hj

set_option maxRecDepth 100000 in
/-- zzs7803bsame of two slices that hold the same. -/
theorem same14 (a b : Option Addr) (n c d : Nat) (x : Nat → ByteArray) (w : World) (ha : IsS w a n x) (hb : IsS w b n x) (hab : b.isNone = a.isNone) (hn : n ≤ 1048576) :
    Calls Yba.prog 14 #[.slice a n c, .slice b n d] w fun e w' => e = .returned (.bool true) ∧ ∃ q, w' = w.drewN q := by
  have HA := hide ha
  have HB := hide hb
  clear ha hb
  cases a with
  | none =>
    cases b with
    | some b => cases hab
    | none =>
      obtain rfl := HA.out.nil rfl
      have hq := q34
      go_enter Yba.func14, Yba.ntmps14
      go_wp2
      go_loopg [5] 1 (fun g j wr => j = .int .i64 0 ∧ wr = w)
      case atStart => exact ⟨rfl, rfl⟩
      case round =>
        obtain ⟨rfl, rfl⟩ := hrel
        go_wp2
        go_ret
        exact ⟨rfl, 0, rfl⟩
  | some a =>
    cases b with
    | none => cases hab
    | some b =>
      have hq := q34
      go_enter Yba.func14, Yba.ntmps14
      go_wp2
      go_loopg [5] n (fun g j wr => ∃ k q : Nat, g = n - k ∧ k ≤ n ∧ j = .int .i64 k ∧ wr = w.drewN q)
      case atStart => exact ⟨0, 0, rfl, Nat.zero_le _, rfl, rfl⟩
      case round =>
        obtain ⟨k, q, hg, hk, rfl, rfl⟩ := hrel
        by_cases hlt : k < n
        · obtain ⟨b1, o1, e1, hl1, hc1⟩ := HA.out.read (by omega)
          obtain rfl := Option.some.inj e1
          obtain ⟨b2, o2, e2, hl2, hc2⟩ := HB.out.read (by omega)
          obtain rfl := Option.some.inj e2
          have g1 := hc1 k hlt
          have g2 := hc2 k hlt
          clear e1 e2 hc1 hc2
          go_wp2
          go_quiet (fail)
          go_wp2
          go_roundg (n - (k + 1))
          case measure => omega
          case rel => exact ⟨k + 1, _, rfl, by omega, by go_num, rfl⟩
        · go_wp2
          go_ret
          exact ⟨rfl, _, rfl⟩
end Go.Proofs.Ybulkfeoq
