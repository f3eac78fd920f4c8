import Derived.Test.YbulkfeocSb
import Derived.OwnWalk
import Derived.Laws.Rows
import Derived.Laws.CopyOwn
import Derived.Laws.IdiomCopy
import Derived.BigRegion
namespace Go.Proofs.Ybulkfeoc
open Go.RowKit Go.Conc Go.Conc.Locks Go.MuLone
set_option linter.unusedVariables false
set_option linter.unusedSimpArgs false

/-- Of what was there, only blocks of S have turned. -/
structure Kept (S : Nat → Prop) (w w' : World) : Prop where
  os : w'.os = w.os
  tape : w'.tape = w.tape
  output : w'.output = w.output
  size : w.heap.size ≤ w'.heap.size
  block : ∀ k, k < w.heap.size → ¬ S k → w'.heap[k]? = w.heap[k]?
theorem Kept.refl (S : Nat → Prop) (w : World) : Kept S w w := ⟨rfl, rfl, rfl, Nat.le_refl _, fun _ _ _ => rfl⟩
theorem Kept.trans {S : Nat → Prop} {a b c : World} (h : Kept S a b) (k : Kept S b c) : Kept S a c :=
  ⟨k.os.trans h.os, k.tape.trans h.tape, k.output.trans h.output, Nat.le_trans h.size k.size, fun i hi hs => (k.block i (Nat.lt_of_lt_of_le hi h.size) hs).trans (h.block i hi hs)⟩
theorem Kept.mono {S T : Nat → Prop} {a b : World} (h : Kept S a b) (hst : ∀ k, S k → T k) : Kept T a b := ⟨h.os, h.tape, h.output, h.size, fun k hk ht => h.block k hk (fun hs => ht (hst k hs))⟩
theorem Kept.ofBelow {S : Nat → Prop} {a b : World} (h : Below a.heap.size a b) : Kept S a b := ⟨h.os, h.tape, h.output, h.size, fun k hk _ => h.block k hk⟩
theorem Kept.cell {S : Nat → Prop} {w w' : World} (h : Kept S w w') {p : Addr} (h1 : p.block < w.heap.size) (h2 : ¬ S p.block) : w'.cell? p = w.cell? p := World.cell?_of_block (h.block p.block h1 h2)
theorem Kept.frozen {S : Nat → Prop} {w w' : World} (h : Kept S w w') {p : Addr} (h1 : p.block < w.heap.size) (h2 : ¬ S p.block) : w'.frozen? p = w.frozen? p := World.frozen?_of_block (h.block p.block h1 h2)
theorem Kept.setCell {S : Nat → Prop} {a w : World} (h : Kept S a w) (b o : Nat) (v : Value) (hb : S b ∨ a.heap.size ≤ b) : Kept S a (w.setCell ⟨b, o, none⟩ v) :=
  ⟨h.os, h.tape, h.output, by rw [show (w.setCell ⟨b, o, none⟩ v).heap.size = w.heap.size by simp [World.setCell]]; exact h.size, fun k hk hs => by
    have : k ≠ b := fun e => by subst e; rcases hb with h1 | h1; exact hs h1; omega
    exact (heap_setCell_other _ _ _ _ this).trans (h.block k hk hs)⟩
theorem Kept.alloc {S : Nat → Prop} {a w : World} (h : Kept S a w) (o : Obj) : Kept S a (w.alloc o) :=
  ⟨h.os, h.tape, h.output, by simp; exact Nat.le_succ_of_le h.size, fun k hk hs => (Below.heap_alloc _ _ _ (Nat.lt_of_lt_of_le hk h.size)).trans (h.block k hk hs)⟩
theorem Kept.drew {S : Nat → Prop} {a w : World} (h : Kept S a w) : Kept S a w.drew := ⟨h.os, h.tape, h.output, h.size, h.block⟩
theorem Kept.drewN {S : Nat → Prop} {a w : World} (h : Kept S a w) (q : Nat) : Kept S a (w.drewN q) := ⟨h.os, h.tape, h.output, h.size, h.block⟩

theorem own_full {w : World} {base g n : Nat} {e : TypeId} {xs : List Value} (h : w.ownsRow base e 1 (.slice (some ⟨g, 0, none⟩) n n) n xs) : w.heap[g]? = some (.cells xs.toArray e (0, 0)) := by
  rcases h.2 with ⟨h1, _⟩ | ⟨g', cap, cur, h1, _, hg, _, _, h5, h6⟩
  · cases h1
  · obtain ⟨rfl, rfl⟩ : g = g' ∧ n = cap := by injection h1 with e1 e2 e3; injection e1 with e1; exact ⟨(Addr.mk.inj e1).1, e3⟩
    rw [hg, ← h6, List.take_of_length_le (by simp; omega)]
theorem below_of_grown {w w' : World} (h : w.grownBy w' none) : Below w.heap.size w w' := ⟨h.os, h.tape, h.output, h.size, fun k hk => h.block k hk (by simp)⟩
/-- A row of n values of which the first k are told by f, the others z. -/
def fillV (n : Nat) (f : Nat → Value) (z : Value) (k : Nat) : Array Value := Array.ofFn (fun i : Fin n => if i.val < k then f i.val else z)
theorem fillV_at (n : Nat) (f : Nat → Value) (z : Value) (k : Nat) (h : k < n) : (fillV n f z k)[k]? = some z := by simp [fillV, h]
theorem fillV_get (n : Nat) (f : Nat → Value) (z : Value) (k i : Nat) (h : i < n) (hk : i < k) : (fillV n f z k)[i]? = some (f i) := by simp [fillV, h, hk]
theorem fillV_size (n : Nat) (f : Nat → Value) (z : Value) (k : Nat) : (fillV n f z k).size = n := by simp [fillV]
theorem fillV_set (n : Nat) (f : Nat → Value) (z : Value) (k : Nat) : (fillV n f z k).setIfInBounds k (f k) = fillV n f z (k + 1) := by
  apply Array.ext
  · simp [fillV]
  · intro i h1 h2
    by_cases e : k = i
    · subst e; simp [fillV]
    · have h0 : i < (fillV n f z k).size := by simpa [fillV] using h2
      rw [Array.getElem_setIfInBounds_ne h0 e]
      have h3 : (i < k) ↔ (i < k + 1) := by omega
      simp only [fillV, Array.getElem_ofFn, h3]
theorem fillV_made (n : Nat) (f : Nat → Value) (z : Value) : (madeCells #[z] (n * 1)).toList.toArray = fillV n f z 0 := by
  rw [Nat.mul_one, Array.toArray_toList]
  apply Array.ext
  · simp [fillV, size_madeCells]
  · intro i h1 h2
    simp [fillV, madeCells, Nat.mod_one]
theorem info_parts {P : Program} {t : TypeId} {z : Value} {s b : Nat} (h : (P.info? t).map (fun i => (i.zero, i.size, i.bytes)) = some (some z, s, b)) : ∃ i, P.info? t = some i ∧ i.zero = some z ∧ i.size = s ∧ i.bytes = b := by
  obtain ⟨i, hi, he⟩ := Option.map_eq_some_iff.1 h
  simp only [Prod.mk.injEq] at he
  exact ⟨i, hi, he.1, he.2.1, he.2.2⟩

theorem Yba.info80 : (Yba.prog.info? 80).map (fun i => (i.zero, i.size, i.bytes)) = some (some (.pointer none), 1, 8) := by kernel_rfl
theorem Yba.size80 : (Yba.prog.info? 80).map (·.size) = some 1 := by kernel_rfl
theorem bits_and_i64_nat (a b : Nat) (ha : a < 9223372036854775808) (hb : b < 9223372036854775808) :
    bits .and .i64 (a : Int) (b : Int) = ((a &&& b : Nat) : Int) := by
  have hx : a &&& b < 2 ^ 63 := Nat.and_lt_two_pow _ (by omega)
  have h1 : (BitVec.ofInt 64 (a : Int)).toNat = a := by
    rw [BitVec.ofInt_natCast, BitVec.toNat_ofNat]; exact Nat.mod_eq_of_lt (by omega)
  have h2 : (BitVec.ofInt 64 (b : Int)).toNat = b := by
    rw [BitVec.ofInt_natCast, BitVec.toNat_ofNat]; exact Nat.mod_eq_of_lt (by omega)
  show IntKind.i64.wrap ((BitVec.ofInt 64 (a : Int) &&& BitVec.ofInt 64 (b : Int)).toNat : Int) = _
  rw [BitVec.toNat_and, h1, h2, IntKind.wrap_i64]
  omega
/-- The lengths that the two rings have. -/
def Pow (L : Nat) : Prop := L = 16 ∨ L = 32 ∨ L = 64 ∨ L = 128 ∨ L = 256 ∨ L = 512
theorem mask (n L : Nat) (hL : Pow L) (hn : n < 4611686018427387904) : bits .and .i64 (n : Int) ((L : Int) - 1) = ((n % L : Nat) : Int) := by
  have e : ((L : Int) - 1) = ((L - 1 : Nat) : Int) := by rcases hL with rfl | rfl | rfl | rfl | rfl | rfl <;> rfl
  rw [e, bits_and_i64_nat n (L - 1) (by omega) (by rcases hL with rfl | rfl | rfl | rfl | rfl | rfl <;> omega)]
  congr 1
  rcases hL with rfl | rfl | rfl | rfl | rfl | rfl
  · exact Nat.and_two_pow_sub_one_eq_mod n 4
  · exact Nat.and_two_pow_sub_one_eq_mod n 5
  · exact Nat.and_two_pow_sub_one_eq_mod n 6
  · exact Nat.and_two_pow_sub_one_eq_mod n 7
  · exact Nat.and_two_pow_sub_one_eq_mod n 8
  · exact Nat.and_two_pow_sub_one_eq_mod n 9

/-- The run queue: m values, told by f, from the buffer's start on. -/
structure Fifo (w : World) (B L m : Nat) (a : Option Addr) (f : Nat → Value) : Prop where
  buf : w.cell? ⟨B, 324, none⟩ = some (.slice a L L)
  head : w.cell? ⟨B, 325, none⟩ = some (.int .i64 0)
  num : w.cell? ⟨B, 326, none⟩ = some (.int .i64 m)
  le : m ≤ L
  nil : L = 0 → a = none
  row : L ≠ 0 → Pow L ∧ ∃ G, a = some ⟨G, 0, none⟩ ∧ G ≠ B ∧ w.heap[G]? = some (.cells (fillV L f (.pointer none) m) 80 (0, 0))
  free : ∀ o, w.frozen? ⟨B, o, none⟩ = false
def Side (w w' : World) (B : Nat) : Prop := ∀ o, (o < 324 ∨ 326 < o) → w'.cell? ⟨B, o, none⟩ = w.cell? ⟨B, o, none⟩

theorem Fifo.of_heap {w w' : World} {B L m : Nat} {a : Option Addr} {f : Nat → Value} (h : Fifo w B L m a f) (hh : w'.heap = w.heap) : Fifo w' B L m a f := by
  have hb : ∀ k : Nat, w'.heap[k]? = w.heap[k]? := fun k => by rw [hh]
  exact ⟨(World.cell?_of_block (hb _)).trans h.buf, (World.cell?_of_block (hb _)).trans h.head, (World.cell?_of_block (hb _)).trans h.num, h.le, h.nil, fun hL => by
    obtain ⟨p, G, e, hn, hr⟩ := h.row hL
    exact ⟨p, G, e, hn, (hb G).trans hr⟩, fun o => (World.frozen?_of_block (hb _)).trans (h.free o)⟩
theorem Side.of_heap {w w' w2 : World} {B : Nat} (h : Side w w' B) (hh : w2.heap = w'.heap) : Side w w2 B := fun o ho => (World.cell?_of_block (by rw [hh])).trans (h o ho)
theorem Kept.of_heap {S : Nat → Prop} {w w' w2 : World} (h : Kept S w w') (hh : w2.heap = w'.heap) (h1 : w2.os = w'.os) (h2 : w2.tape = w'.tape) (h3 : w2.output = w'.output) : Kept S w w2 :=
  ⟨h1.trans h.os, h2.trans h.tape, h3.trans h.output, by rw [hh]; exact h.size, fun k hk hs => by rw [hh]; exact h.block k hk hs⟩
theorem size_setCell (w : World) (a : Addr) (v : Value) : (w.setCell a v).heap.size = w.heap.size := by simp [World.setCell]
theorem frozen_setCell (w : World) (b o : Nat) (v : Value) (a : Addr) : (w.setCell ⟨b, o, none⟩ v).frozen? a = w.frozen? a := by simp
theorem cell_setCell_ne (w : World) (b o o' : Nat) (v : Value) (h : o ≠ o') : (w.setCell ⟨b, o, none⟩ v).cell? ⟨b, o', none⟩ = w.cell? ⟨b, o', none⟩ := World.cell?_setCell_other _ _ _ _ (fun e => h (Addr.mk.inj e).2.1)

theorem grow_fin {w W2 : World} {B L m L' : Nat} {a : Option Addr} {f : Nat → Value} (h : Fifo w B L m a f) (hb : Below w.heap.size w W2) (row : W2.heap[w.heap.size]? = some (.cells (fillV L' f (.pointer none) m) 80 (0, 0))) (hp : Pow L') (hm : m ≤ L') :
    Fifo ((W2.setCell ⟨B, 324, none⟩ (.slice (some ⟨w.heap.size, 0, none⟩) L' L')).setCell ⟨B, 325, none⟩ (.int .i64 0)) B L' m (some ⟨w.heap.size, 0, none⟩) f ∧
    Kept (fun k => k = B) w ((W2.setCell ⟨B, 324, none⟩ (.slice (some ⟨w.heap.size, 0, none⟩) L' L')).setCell ⟨B, 325, none⟩ (.int .i64 0)) ∧
    Side w ((W2.setCell ⟨B, 324, none⟩ (.slice (some ⟨w.heap.size, 0, none⟩) L' L')).setCell ⟨B, 325, none⟩ (.int .i64 0)) B := by
  have hB : B < w.heap.size := block_lt_of_cell h.buf
  have c : ∀ o, W2.cell? ⟨B, o, none⟩ = w.cell? ⟨B, o, none⟩ := fun o => hb.cell (p := ⟨B, o, none⟩) hB
  have fz : ∀ o, W2.frozen? ⟨B, o, none⟩ = false := fun o => (World.frozen?_of_block (hb.block B hB)).trans (h.free o)
  refine ⟨⟨?_, ?_, ?_, hm, fun e => absurd e (by rcases hp with rfl | rfl | rfl | rfl | rfl | rfl <;> omega), fun _ => ⟨hp, w.heap.size, rfl, by omega, ?_⟩, fun o => ?_⟩, ?_, ?_⟩
  · rw [cell_setCell_ne _ _ _ _ _ (by omega)]
    exact World.cell?_setCell_same _ _ _ ((c 324).trans h.buf)
  · refine World.cell?_setCell_same _ _ _ (u := .int .i64 0) ?_
    rw [cell_setCell_ne _ _ _ _ _ (by omega), c]
    exact h.head
  · rw [cell_setCell_ne _ _ _ _ _ (by omega), cell_setCell_ne _ _ _ _ _ (by omega), c]
    exact h.num
  · rw [heap_setCell_other _ _ _ _ (by show w.heap.size ≠ B; omega), heap_setCell_other _ _ _ _ (by show w.heap.size ≠ B; omega)]
    exact row
  · rw [frozen_setCell, frozen_setCell]; exact fz o
  · exact ((Kept.ofBelow (S := fun k => k = B) hb).setCell B 324 _ (.inl rfl)).setCell B 325 _ (.inl rfl)
  · intro o ho
    rw [cell_setCell_ne _ _ _ _ _ (by omega), cell_setCell_ne _ _ _ _ _ (by omega), c]

theorem copy0 (W : World) (ty : TypeId) (d a : Option Addr) (dLen dCap sCap : Nat) : (Builtin.copy_ #[60, 60] ty #[.slice d dLen dCap, .slice a 0 sCap]).run Yba.prog W = .ok (goInt 0) W :=
  run_copy_none W 60 60 ty 80 d a dLen dCap 0 sCap Yba.underlying60 Yba.size80 (by simp [Nat.min_def])

set_option maxRecDepth 10000 in
set_option maxHeartbeats 1000000 in
theorem grow_nil (B : Nat) (f : Nat → Value) (w : World) (h : Fifo w B 0 0 none f) :
    Calls Yba.prog 19 #[.pointer (some ⟨B, 324, none⟩)] w fun e w' => e = .returned (.tuple #[]) ∧ Fifo w' B 16 0 (some ⟨w.heap.size, 0, none⟩) f ∧ Kept (fun k => k = B) w w' ∧ Side w w' B := by
  have hB : B < w.heap.size := block_lt_of_cell h.buf
  have H := hide h
  have h1 := h.buf
  have h2 := h.head
  have f1 := h.free 324
  have f2 := h.free 325
  clear h
  obtain ⟨i0, hi, hz0, hz1, hz2⟩ := info_parts Yba.info80
  have hc := copy0
  go_enter Yba.func19, Yba.ntmps19
  go_wp2_with (first
    | (at_make; refine wpList_make_full _ rfl (.tmp 10) (.tmp 10) 60 rfl w.heap.size 80 i0 (.pointer none) 1 Yba.underlying60 hi hz0 hz1 _ _ _ _ 16 rfl rfl rfl rfl (by rw [hz2]; omega) (by unfold maxLen; omega) (Nat.le_refl _) ?_; intro w1 own1 gr1; have HG1 := hide (own_full own1); have HB1 := hide (below_of_grown gr1); clear own1 gr1))
  have c1 : w1.cell? ⟨B, 324, none⟩ = some (.slice none 0 0) := (HB1.out.cell (p := ⟨B, 324, none⟩) hB).trans h1
  have c2 : w1.cell? ⟨B, 325, none⟩ = some (.int .i64 0) := (HB1.out.cell (p := ⟨B, 325, none⟩) hB).trans h2
  have g1 : w1.frozen? ⟨B, 324, none⟩ = false := (World.frozen?_of_block (HB1.out.block B hB)).trans f1
  have g2 : w1.frozen? ⟨B, 325, none⟩ = false := (World.frozen?_of_block (HB1.out.block B hB)).trans f2
  clear h1 h2 f1 f2 hi hz0 hz1 hz2
  go_region
  go_wp2
  go_region
  go_wp2
  go_end0
  obtain ⟨r1, r2, r3⟩ := grow_fin (L' := 16) H.out HB1.out (HG1.out.trans (by rw [← fillV_made 16 f]; rfl)) (.inl rfl) (by omega)
  exact ⟨rfl, r1.of_heap rfl, r2.of_heap rfl rfl rfl rfl, r3.of_heap rfl⟩

/-- The values as a list. -/
def vals (f : Nat → Value) (k : Nat) : List Value := (List.range k).map f
theorem vals_length (f : Nat → Value) (k : Nat) : (vals f k).length = k := by simp [vals]
theorem vals_get (f : Nat → Value) (k i : Nat) (h : i < k) : (vals f k)[i]? = some (f i) := by simp [vals, h]
theorem made_length (z : Array Value) (n : Nat) : (madeCells z n).toList.length = n := by rw [Array.length_toList, size_madeCells]
theorem vals_fill (f : Nat → Value) (z : Value) (L L' : Nat) (h : L ≤ L') : ((madeCells #[z] (L' * 1)).toList.take 0 ++ vals f L ++ (madeCells #[z] (L' * 1)).toList.drop (0 + (vals f L).length)).toArray = fillV L' f z L := by
  apply Array.ext
  · simp [fillV, vals, size_madeCells]; omega
  · intro i h1 h2
    simp only [fillV, List.take_zero, List.nil_append, List.getElem_toArray, Array.getElem_ofFn, Nat.zero_add, vals_length]
    have hi : i < L' := by simpa [fillV] using h2
    by_cases e : i < L
    · rw [List.getElem_append_left (by rw [vals_length]; exact e), if_pos e]
      simp [vals]
    · rw [List.getElem_append_right (by rw [vals_length]; omega), if_neg e]
      simp [madeCells, Nat.mod_one]

set_option maxRecDepth 10000 in
set_option maxHeartbeats 1000000 in
theorem grow_full (B G L : Nat) (f : Nat → Value) (w : World) (hf : ∀ i, (f i).oneCell' = true) (h : Fifo w B L L (some ⟨G, 0, none⟩) f) (hL : Pow L) (hle : L ≤ 256) :
    Calls Yba.prog 19 #[.pointer (some ⟨B, 324, none⟩)] w fun e w' => e = .returned (.tuple #[]) ∧ Fifo w' B (2 * L) L (some ⟨w.heap.size, 0, none⟩) f ∧ Kept (fun k => k = B) w w' ∧ Side w w' B := by
  have hB : B < w.heap.size := block_lt_of_cell h.buf
  have hp2 : Hid (Pow (2 * L)) := by rcases hL with rfl | rfl | rfl | rfl | rfl | rfl <;> simp [Hid, Pow] <;> omega
  have hge : 16 ≤ L := by rcases hL with rfl | rfl | rfl | rfl | rfl | rfl <;> omega
  have H := hide h
  have h1 := h.buf
  have h2 := h.head
  have f1 := h.free 324
  have f2 := h.free 325
  obtain ⟨_, G', e, hGB, hrow⟩ := h.row (by omega)
  obtain rfl : G = G' := (Addr.mk.inj (Option.some.inj e)).1
  have HR := hide hrow
  have HP := hide hL
  clear h hrow e hL
  obtain ⟨i0, hi, hz0, hz1, hz2⟩ := info_parts Yba.info80
  have hc := copy0
  have hmx : max (16 : Int) (2 * (L : Int)) = 2 * (L : Int) := by omega
  go_enter Yba.func19, Yba.ntmps19
  go_wp2_with (first
    | (at_make; refine wpList_make_full _ rfl (.tmp 10) (.tmp 10) 60 rfl w.heap.size 80 i0 (.pointer none) 1 Yba.underlying60 hi hz0 hz1 _ _ _ _ (2 * L) rfl rfl (by omega) (by omega) (by rw [hz2]; omega) (by unfold maxLen; omega) (Nat.le_refl _) ?_; intro w1 own1 gr1; have HG1 := hide (own_full own1); have HB1 := hide (below_of_grown gr1); clear own1 gr1))
  have c1 : w1.cell? ⟨B, 324, none⟩ = some (.slice (some ⟨G, 0, none⟩) L L) := (HB1.out.cell (p := ⟨B, 324, none⟩) hB).trans h1
  have c2 : w1.cell? ⟨B, 325, none⟩ = some (.int .i64 0) := (HB1.out.cell (p := ⟨B, 325, none⟩) hB).trans h2
  have g1 : w1.frozen? ⟨B, 324, none⟩ = false := (World.frozen?_of_block (HB1.out.block B hB)).trans f1
  have g2 : w1.frozen? ⟨B, 325, none⟩ = false := (World.frozen?_of_block (HB1.out.block B hB)).trans f2
  have hGl : G < w.heap.size := (Array.getElem?_eq_some_iff.1 HR.out).1
  have hrow1 : w1.heap[G]? = some (.cells (fillV L f (.pointer none) L) 80 (0, 0)) := (HB1.out.block G hGl).trans HR.out
  obtain ⟨W2, q1, q2, q3⟩ : ∃ W2, (∀ ty, (Builtin.copy_ #[60, 60] ty #[.slice (some ⟨w.heap.size, 0, none⟩) (2 * L) (2 * L), .slice (some ⟨G, 0, none⟩) L L]).run Yba.prog w1.drew = .ok (.int .i64 L) W2) ∧
      W2.heap[w.heap.size]? = some (.cells (fillV (2 * L) f (.pointer none) L) 80 (0, 0)) ∧ Below w.heap.size w W2 := by
    refine ⟨w1.drew.setRow w.heap.size ((madeCells #[.pointer none] (2 * L * 1)).toList.toArray.toList.take 0 ++ vals f L ++ (madeCells #[.pointer none] (2 * L * 1)).toList.toArray.toList.drop (0 + (vals f L).length)).toArray, fun ty => ?_, ?_, ?_⟩
    · have := run_copy_row (P := Yba.prog) w1.drew 60 60 ty 80 w.heap.size 0 (2 * L) (2 * L) ⟨G, 0, none⟩ L L (madeCells #[.pointer none] (2 * L * 1)).toList.toArray 80 (vals f L) Yba.underlying60 Yba.size80 HG1.out
        (by rw [vals_length]; simp [Nat.min_def]; omega)
        (fun j v hj => by
          have hjL : j < L := by have := (List.getElem?_eq_some_iff.1 hj).1; rwa [vals_length] at this
          rw [vals_get f L j hjL] at hj
          obtain rfl := Option.some.inj hj
          rw [Addr.add_lit, Nat.zero_add]
          show w1.cell? ⟨G, j, none⟩ = _
          rw [cell_of_row _ _ _ _ _ _ hrow1]
          exact fillV_get _ _ _ _ _ hjL hjL)
        (by rw [vals_length]; simp [size_madeCells]; omega)
        (fun v hv => by
          simp [vals] at hv
          obtain ⟨j, _, rfl⟩ := hv
          exact hf j)
      rw [vals_length] at this ⊢
      exact this
    · rw [setRow_heap w1.drew _ _ _ _ _ HG1.out]
      congr 2
      exact vals_fill f (.pointer none) L (2 * L) (by omega)
    · exact below_setRow (B := w.heap.size) (w0 := w) (HB1.out.drew) (Nat.le_refl _) _
  have d1 : W2.cell? ⟨B, 324, none⟩ = some (.slice (some ⟨G, 0, none⟩) L L) := (q3.cell (p := ⟨B, 324, none⟩) hB).trans h1
  have d2 : W2.cell? ⟨B, 325, none⟩ = some (.int .i64 0) := (q3.cell (p := ⟨B, 325, none⟩) hB).trans h2
  have e1 : W2.frozen? ⟨B, 324, none⟩ = false := (World.frozen?_of_block (q3.block B hB)).trans f1
  have e2 : W2.frozen? ⟨B, 325, none⟩ = false := (World.frozen?_of_block (q3.block B hB)).trans f2
  have Q2 := hide q2
  have Q3 := hide q3
  clear q2 q3 h1 h2 f1 f2 hi hz0 hz1 hz2 hrow1
  go_region
  go_wp2
  go_region
  go_wp2
  go_end0
  obtain ⟨r1, r2, r3⟩ := grow_fin (L' := 2 * L) H.out Q3.out Q2.out hp2.out (by omega)
  exact ⟨rfl, r1.of_heap rfl, r2.of_heap rfl rfl rfl rfl, r3.of_heap rfl⟩
end Go.Proofs.Ybulkfeoc
