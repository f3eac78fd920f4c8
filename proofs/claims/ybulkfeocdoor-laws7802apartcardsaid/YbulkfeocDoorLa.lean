import Derived.Test.YbulkfeocDoorCr
import Derived.Deep.DeepCutAuto
import Derived.Laws.CopyOwn
import Derived.Laws.IdiomCopy
import Derived.LaidEqlPtr
namespace Go.Proofs.YbulkfeocDoor
open Go.Conc Go.Conc.Locks Go.RowKit Go.MuLone
set_option linter.unusedVariables false
set_option linter.unusedSimpArgs false

theorem bytes31 : ∃ i, Ybad.prog.info? 31 = some i ∧ i.bytes = 0 := by
  have h : (Ybad.prog.info? 31).map (·.bytes) = some 0 := by kernel_rfl
  obtain ⟨i, hi, hb⟩ := Option.map_eq_some_iff.1 h
  exact ⟨i, hi, hb⟩
theorem mkChan (w : World) : (Instr.makeChan 25 (.int .i64 0)).run Ybad.prog w = .ok (.chan (some w.heap.size)) (w.alloc (.chan 0 #[] false 0 0 false)) := by
  obtain ⟨i, hi, hb⟩ := bytes31
  simpa using run_makeChan (P := Ybad.prog) (w := w) Ybad.underlying25 hi .i64 0 (by omega) (by rw [hb]; omega)

/-- The scheduler as the law's literal lays it. -/
structure New (w wc : World) (B cd : Nat) : Prop where
  below : Below w.heap.size w wc
  bB : w.heap.size ≤ B
  bc : w.heap.size ≤ cd
  sB : B < wc.heap.size
  ne : B ≠ cd
  chan : wc.heap[cd]? = some (.chan 0 #[] false 0 0 false)
  live : wc.cell? ⟨B, 193, none⟩ = some (.int .i64 0)
  closed : wc.cell? ⟨B, 128, none⟩ = some (.int .u32 0)
  mu : wc.cell? ⟨B, 315, none⟩ = some (.int .i32 0)
  lock : wc.cell? ⟨B, 317, none⟩ = some .nilIface
  drained : wc.cell? ⟨B, 328, none⟩ = some (.chan (some cd))
  free : ∀ o, wc.frozen? ⟨B, o, none⟩ = false

theorem zc193 (c1 c2 : Nat) : ((Ybad.zeroCells69.setIfInBounds 328 (.chan (some c1))).setIfInBounds 329 (.chan (some c2)))[193]? = some (.int .i64 0) := by kernel_rfl
theorem zc128 (c1 c2 : Nat) : ((Ybad.zeroCells69.setIfInBounds 328 (.chan (some c1))).setIfInBounds 329 (.chan (some c2)))[128]? = some (.int .u32 0) := by kernel_rfl
theorem zc315 (c1 c2 : Nat) : ((Ybad.zeroCells69.setIfInBounds 328 (.chan (some c1))).setIfInBounds 329 (.chan (some c2)))[315]? = some (.int .i32 0) := by kernel_rfl
theorem zc317 (c1 c2 : Nat) : ((Ybad.zeroCells69.setIfInBounds 328 (.chan (some c1))).setIfInBounds 329 (.chan (some c2)))[317]? = some .nilIface := by kernel_rfl
theorem zc328 (c1 c2 : Nat) : ((Ybad.zeroCells69.setIfInBounds 328 (.chan (some c1))).setIfInBounds 329 (.chan (some c2)))[328]? = some (.chan (some c1)) := by kernel_rfl
theorem new_of (w : World) (c1 c2 : Nat) (h : c1 = w.heap.size ∨ c1 = w.heap.size + 1) :
    New w (((w.alloc (.chan 0 #[] false 0 0 false)).alloc (.chan 0 #[] false 0 0 false)).alloc (.cells ((Ybad.zeroCells69.setIfInBounds 328 (.chan (some c1))).setIfInBounds 329 (.chan (some c2))) 69)).drew (w.heap.size + 1 + 1) c1 := by
  have e : (((w.alloc (.chan 0 #[] false 0 0 false)).alloc (.chan 0 #[] false 0 0 false)).alloc (.cells ((Ybad.zeroCells69.setIfInBounds 328 (.chan (some c1))).setIfInBounds 329 (.chan (some c2))) 69)).drew.heap =
    ((w.heap.push (.chan 0 #[] false 0 0 false)).push (.chan 0 #[] false 0 0 false)).push (.cells ((Ybad.zeroCells69.setIfInBounds 328 (.chan (some c1))).setIfInBounds 329 (.chan (some c2))) 69) := rfl
  have hB : (((w.alloc (.chan 0 #[] false 0 0 false)).alloc (.chan 0 #[] false 0 0 false)).alloc (.cells ((Ybad.zeroCells69.setIfInBounds 328 (.chan (some c1))).setIfInBounds 329 (.chan (some c2))) 69)).drew.heap[w.heap.size + 1 + 1]? =
      some (.cells ((Ybad.zeroCells69.setIfInBounds 328 (.chan (some c1))).setIfInBounds 329 (.chan (some c2))) 69 (0, 0)) := by
    rw [e]
    simp only [Array.getElem?_push, Array.size_push]
    rw [if_pos trivial]
  refine ⟨((((Below.refl _ _).alloc (Nat.le_refl _) _).alloc (by simp) _).alloc (by simp; omega) _).drew, by omega, by omega, ?_, by omega, ?_, (cell_of_row _ _ _ _ _ _ hB).trans (zc193 c1 c2), (cell_of_row _ _ _ _ _ _ hB).trans (zc128 c1 c2), (cell_of_row _ _ _ _ _ _ hB).trans (zc315 c1 c2),
    (cell_of_row _ _ _ _ _ _ hB).trans (zc317 c1 c2), (cell_of_row _ _ _ _ _ _ hB).trans (zc328 c1 c2), fun o => frozen_of_row _ _ _ _ _ hB⟩
  · rw [e]; simp only [Array.size_push]; omega
  · rw [e]
    simp only [Array.getElem?_push, Array.size_push]
    rcases h with rfl | rfl
    · rw [if_neg (by omega), if_neg (by omega), if_pos rfl]
    · rw [if_neg (by omega), if_pos rfl]

theorem nat_of_int (x : Int) (h : 0 ≤ x) : ∃ k : Nat, x = (k : Int) := ⟨x.toNat, by omega⟩

theorem Ybad.info75 : (Ybad.prog.info? 75).map (fun i => (i.zero, i.size, i.bytes)) = some (some (.pointer none), 1, 8) := by kernel_rfl
theorem Ybad.info84 : (Ybad.prog.info? 84).map (fun i => (i.zero, i.size, i.bytes)) = some (some (.int .u8 0), 1, 1) := by kernel_rfl
theorem Ybad.info4 : (Ybad.prog.info? 4).map (fun i => (i.zero, i.size, i.bytes)) = some (some (.bool false), 1, 1) := by kernel_rfl
theorem own_full {w : World} {base g n : Nat} {e : TypeId} {xs : List Value} (h : w.ownsRow base e 1 (.slice (some ⟨g, 0, none⟩) n n) n xs) : w.heap[g]? = some (.cells xs.toArray e (0, 0)) := by
  rcases h.2 with ⟨h1, _⟩ | ⟨g', cap, cur, h1, _, hg, _, _, h5, h6⟩
  · cases h1
  · obtain ⟨rfl, rfl⟩ : g = g' ∧ n = cap := by injection h1 with e1 e2 e3; injection e1 with e1; exact ⟨(Addr.mk.inj e1).1, e3⟩
    rw [hg, ← h6, List.take_of_length_le (by simp; omega)]
theorem below_of_grown {w w' : World} (h : w.grownBy w' none) : Below w.heap.size w w' := ⟨h.os, h.tape, h.output, h.size, fun k hk => h.block k hk (by simp)⟩
/-- A row of n values of which the first k are told by f, the others z. -/
def fillV (n : Nat) (f : Nat → Value) (z : Value) (k : Nat) : Array Value := Array.ofFn (fun i : Fin n => if i.val < k then f i.val else z)
theorem fillV_at (n : Nat) (f : Nat → Value) (z : Value) (k : Nat) (h : k < n) : (fillV n f z k)[k]? = some z := by simp [fillV, h]
theorem fillV_get (n : Nat) (f : Nat → Value) (z : Value) (k i : Nat) (h : i < n) (hk : i < k) : (fillV n f z k)[i]? = some (f i) := by simp [fillV, h, hk]
theorem fillV_size (n : Nat) (f : Nat → Value) (z : Value) (k : Nat) : (fillV n f z k).size = n := by simp [fillV]
theorem fillV_set (n : Nat) (f : Nat → Value) (z : Value) (k : Nat) : (fillV n f z k).setIfInBounds k (f k) = fillV n f z (k + 1) := by
  apply Array.ext
  · simp [fillV]
  · intro i h1 h2
    by_cases e : k = i
    · subst e; simp [fillV]
    · have h0 : i < (fillV n f z k).size := by simpa [fillV] using h2
      rw [Array.getElem_setIfInBounds_ne h0 e]
      have h3 : (i < k) ↔ (i < k + 1) := by omega
      simp only [fillV, Array.getElem_ofFn, h3]
theorem fillV_made (n : Nat) (f : Nat → Value) (z : Value) : (madeCells #[z] (n * 1)).toList.toArray = fillV n f z 0 := by
  rw [Nat.mul_one, Array.toArray_toList]
  apply Array.ext
  · simp [fillV, size_madeCells]
  · intro i h1 h2
    simp [fillV, madeCells, Nat.mod_one]

/-- One process that the law's loop has laid. -/
def Proc (wr : World) (b : Nat) (st : Int) (orp : Bool) : Prop :=
  ∃ CS : Array Value, wr.heap[b]? = some (.cells CS 88 (0, 0)) ∧ CS[1]? = some .nilIface ∧ CS[4]? = some (.bool orp) ∧ CS[10]? = some (.int .i32 0) ∧ CS[12]? = some (.int .u8 st) ∧ CS[17]? = some (.bool false) ∧ CS[19]? = some .nilIface ∧ CS[20]? = some .nilIface
def stOf (x : Int) : Int := if x % 3 = 0 then 0 else 3
def orOf (x : Int) : Bool := if x % 3 = 0 then false else if x % 3 = 1 then false else true
/-- What holds at the head of the law's first loop: k processes have been laid. -/
structure Laid (w4 wr : World) (gW gS gO n : Nat) (x : Nat → Int) (k : Nat) : Prop where
  below : Below gW w4 wr
  size : wr.heap.size = w4.heap.size + k
  rowW : wr.heap[gW]? = some (.cells (fillV n (fun i => .pointer (some ⟨w4.heap.size + i, 0, none⟩)) (.pointer none) k) 75 (0, 0))
  rowS : wr.heap[gS]? = some (.cells (fillV n (fun i => .int .u8 (stOf (x i))) (.int .u8 0) k) 84 (0, 0))
  rowO : wr.heap[gO]? = some (.cells (fillV n (fun i => .bool (orOf (x i))) (.bool false) k) 4 (0, 0))
  procs : ∀ i, i < k → Proc wr (w4.heap.size + i) (stOf (x i)) (orOf (x i))
theorem Proc.of_block {wr wr' : World} {b : Nat} {st : Int} {orp : Bool} (h : Proc wr b st orp) (hb : wr'.heap[b]? = wr.heap[b]?) : Proc wr' b st orp := by
  obtain ⟨CS, h1, h2⟩ := h
  exact ⟨CS, hb.trans h1, h2⟩
theorem Laid.step {w4 wr : World} {gW gS gO n : Nat} {x : Nat → Int} {k : Nat} (h : Laid w4 wr gW gS gO n x k) (hk : k < n) (h1 : gW < gS) (h2 : gS < gO) (h3 : gO < w4.heap.size) {s : Int} {o : Bool} (hs : stOf (x k) = s) (ho : orOf (x k) = o)
    (CS : Array Value) (hCS : CS[1]? = some .nilIface ∧ CS[4]? = some (.bool o) ∧ CS[10]? = some (.int .i32 0) ∧ CS[12]? = some (.int .u8 s) ∧ CS[17]? = some (.bool false) ∧ CS[19]? = some .nilIface ∧ CS[20]? = some .nilIface) :
    Laid w4 ((((wr.setCell ⟨gS, k, none⟩ (.int .u8 s)).setCell ⟨gO, k, none⟩ (.bool o)).setCell ⟨gW, k, none⟩ (.pointer (some ⟨wr.heap.size, 0, none⟩))).alloc (.cells CS 88)) gW gS gO n x (k + 1) := by
  have hsz := h.size
  have zs : (((wr.setCell ⟨gS, k, none⟩ (.int .u8 s)).setCell ⟨gO, k, none⟩ (.bool o)).setCell ⟨gW, k, none⟩ (.pointer (some ⟨wr.heap.size, 0, none⟩))).heap.size = wr.heap.size := by simp [World.setCell]
  have old : ∀ b, b < wr.heap.size → b ≠ gS → b ≠ gO → b ≠ gW → ((((wr.setCell ⟨gS, k, none⟩ (.int .u8 s)).setCell ⟨gO, k, none⟩ (.bool o)).setCell ⟨gW, k, none⟩ (.pointer (some ⟨wr.heap.size, 0, none⟩))).alloc (.cells CS 88)).heap[b]? = wr.heap[b]? := fun b hb e1 e2 e3 =>
    (Below.heap_alloc _ _ _ (by omega)).trans ((heap_setCell_other _ _ _ _ e3).trans ((heap_setCell_other _ _ _ _ e2).trans (heap_setCell_other _ _ _ _ e1)))
  refine ⟨h.below.trans ⟨rfl, rfl, rfl, by simp [World.setCell], fun b hb => old b (by omega) (by omega) (by omega) (by omega)⟩, ?_, ?_, ?_, ?_, ?_⟩
  · simp [World.setCell]; omega
  · rw [Below.heap_alloc _ _ _ (by omega), heap_setCell_same _ _ _ _ _ _ ((heap_setCell_other _ _ _ _ (by show gW ≠ gO; omega)).trans ((heap_setCell_other _ _ _ _ (by show gW ≠ gS; omega)).trans h.rowW)), hsz]
    rw [← fillV_set]
  · rw [Below.heap_alloc _ _ _ (by omega), heap_setCell_other _ _ _ _ (by show gS ≠ gW; omega), heap_setCell_other _ _ _ _ (by show gS ≠ gO; omega), heap_setCell_same _ _ _ _ _ _ h.rowS, ← hs]
    rw [← fillV_set]
  · rw [Below.heap_alloc _ _ _ (by omega), heap_setCell_other _ _ _ _ (by show gO ≠ gW; omega), heap_setCell_same _ _ _ _ _ _ ((heap_setCell_other _ _ _ _ (by show gO ≠ gS; omega)).trans h.rowO), ← ho]
    rw [← fillV_set]
  · intro i hi
    by_cases e : i = k
    · subst e
      rw [hs, ho]
      refine ⟨CS, ?_, hCS⟩
      have e : w4.heap.size + i = (((wr.setCell ⟨gS, i, none⟩ (.int .u8 s)).setCell ⟨gO, i, none⟩ (.bool o)).setCell ⟨gW, i, none⟩ (.pointer (some ⟨wr.heap.size, 0, none⟩))).heap.size := zs.symm ▸ hsz.symm
      rw [e]
      exact Go.heap_alloc_new _ _
    · exact (h.procs i (by omega)).of_block (old _ (by omega) (by omega) (by omega) (by omega))
/-- The pointers to k processes that lie one behind the other. -/
def ptrs (P0 k : Nat) : List Value := (List.range k).map (fun i => .pointer (some ⟨P0 + i, 0, none⟩))
theorem ptrs_length (P0 k : Nat) : (ptrs P0 k).length = k := by simp [ptrs]
theorem ptrs_get (P0 k i : Nat) (h : i < k) : (ptrs P0 k)[i]? = some (.pointer (some ⟨P0 + i, 0, none⟩)) := by simp [ptrs, h]
theorem ptrs_one (P0 k : Nat) : ∀ u ∈ ptrs P0 k, u.oneCell' = true := by
  intro u hu
  simp [ptrs] at hu
  obtain ⟨j, _, rfl⟩ := hu
  rfl
theorem made_length (z : Array Value) (n : Nat) : (madeCells z n).toList.length = n := by rw [Array.length_toList, size_madeCells]
theorem splice_full {α : Type} (L cs : List α) (h : cs.length = L.length) : splice L 0 cs = cs := by simp [splice, h]
theorem ptrs_pos {w4 wr w5 : World} {gW gS gO n g : Nat} {x : Nat → Int} (h : Laid w4 wr gW gS gO n x n) (hb : Below wr.heap.size wr w5) (hl : gW < wr.heap.size) :
    0 < (ptrs w4.heap.size n).length → (some ⟨g, 0, none⟩ : Option Addr) = some ⟨g, 0, none⟩ ∧ ∃ ad, (some ⟨gW, 0, none⟩ : Option Addr) = some ad ∧ ∀ j v, (ptrs w4.heap.size n)[j]? = some v → w5.cell? (ad.add j) = some v := by
  intro _
  refine ⟨rfl, _, rfl, fun j v hj => ?_⟩
  have hjn : j < n := by
    have := (List.getElem?_eq_some_iff.1 hj).1
    rwa [ptrs_length] at this
  rw [ptrs_get _ _ _ hjn] at hj
  obtain rfl := Option.some.inj hj
  rw [Addr.add_lit, Nat.zero_add, hb.cell (p := ⟨gW, j, none⟩) hl, cell_of_row _ _ _ _ _ _ h.rowW]
  exact fillV_get _ _ _ _ _ hjn hjn
theorem two (w : World) (A B : Obj) : ((w.alloc A).alloc B).heap[w.heap.size]? = some A ∧ ((w.alloc A).alloc B).heap[w.heap.size + 1]? = some B ∧ Below w.heap.size w ((w.alloc A).alloc B) ∧ ((w.alloc A).alloc B).heap.size = w.heap.size + 2 := by
  have e : ((w.alloc A).alloc B).heap = (w.heap.push A).push B := rfl
  rw [e]
  simp only [Array.getElem?_push, Array.size_push]
  refine ⟨?_, ?_, ?_, trivial⟩
  · rw [if_neg (by omega), if_pos trivial]
  · rw [if_pos trivial]
  · exact ((Below.refl _ _).alloc (Nat.le_refl _) _).alloc (by simp) _
/-- The processes as closeRun's contract wants them. -/
theorem Laid.procs_of {w4 wr w7 : World} {gW gS gO n : Nat} {x : Nat → Int} (h : Laid w4 wr gW gS gO n x n) (hb : Below wr.heap.size wr w7) (h1 : gW < wr.heap.size) :
    Procs w7 gW n (fun i => w4.heap.size + i) (fun i => stOf (x i)) (fun i => orOf (x i)) := by
  have hp : ∀ i, i < n → Proc w7 (w4.heap.size + i) (stOf (x i)) (orOf (x i)) := fun i hi => (h.procs i hi).of_block (hb.block _ (by have := h.size; omega))
  refine ⟨fun i hi => ?_, fun i hi => ?_, fun i hi => ?_, fun i hi => ?_, fun i hi => ?_, fun i hi => ?_⟩
  · rw [hb.cell (p := ⟨gW, i, none⟩) h1, cell_of_row _ _ _ _ _ _ h.rowW]
    exact fillV_get _ _ _ _ _ hi hi
  · obtain ⟨CS, h1, h2, h3, h4, h5, _⟩ := hp i hi
    exact (cell_of_row _ _ _ _ _ _ h1).trans h4
  · obtain ⟨CS, h1, h2, h3, h4, h5, _⟩ := hp i hi
    exact (cell_of_row _ _ _ _ _ _ h1).trans h5
  · obtain ⟨CS, h1, h2, h3, h4, h5, _⟩ := hp i hi
    exact (cell_of_row _ _ _ _ _ _ h1).trans h3
  · obtain ⟨CS, h1, _⟩ := hp i hi
    exact frozen_of_row _ _ _ _ _ h1
  · unfold stOf orOf
    by_cases e : x i % 3 = 0
    · simp [e]
    · simp [e]
theorem isClosed_any (c : Nat) (cl : Bool) (w : World) (hc : w.heap[c]? = some (.chan 0 #[] cl 0 0 false)) : Calls Ybad.prog 8 #[.chan (some c)] w fun e w' => e = .returned (.bool cl) ∧ w' = w := by
  cases cl
  · exact isClosed_no c 0 0 w hc
  · exact isClosed_yes c 0 0 w hc
theorem neq75 (a : Addr) (w : World) : (binOp .neq 75 (.pointer (some a)) (.pointer (some a))).run Ybad.prog w = .ok (.bool false) w := by
  have hi : ∃ i, Ybad.prog.info? 88 = some i := by
    have h : (Ybad.prog.info? 88).map (·.size) = some 21 := by kernel_rfl
    obtain ⟨i, hi, _⟩ := Option.map_eq_some_iff.1 h
    exact ⟨i, hi⟩
  obtain ⟨i, hi⟩ := hi
  have h : ∀ d : Nat, (Op.equalIn (d + 1) 75 (.pointer (some a)) (.pointer (some a))).run Ybad.prog w = .ok true w := fun d => by
    simp [Op.equalIn, run_underlying Ybad.underlying75, sizeOf, typeInfo, hi, run_sameAddr_same]
  simp only [binOp]
  simp [Op.equal, Op.maxDepth, h 9999]
/-- What the law's last loop reads of process i. -/
structure Seen (w : World) (gW gK gS gO P0 i : Nat) (st : Int) (o : Bool) : Prop where
  row : w.cell? ⟨gW, i, none⟩ = some (.pointer (some ⟨P0 + i, 0, none⟩))
  kept : w.cell? ⟨gK, i, none⟩ = some (.pointer (some ⟨P0 + i, 0, none⟩))
  states : w.cell? ⟨gS, i, none⟩ = some (.int .u8 st)
  orphs : w.cell? ⟨gO, i, none⟩ = some (.bool o)
  p : w.cell? ⟨P0 + i, 1, none⟩ = some .nilIface
  orph : w.cell? ⟨P0 + i, 4, none⟩ = some (.bool o)
  state : w.cell? ⟨P0 + i, 12, none⟩ = some (.int .u8 st)
  settled : w.cell? ⟨P0 + i, 17, none⟩ = some (.bool false)
  result : w.cell? ⟨P0 + i, 19, none⟩ = some .nilIface
  err : w.cell? ⟨P0 + i, 20, none⟩ = some .nilIface
theorem Laid.seen' {w4 wr w8 : World} {gW gS gO gK n cd : Nat} {x : Nat → Int} (h : Laid w4 wr gW gS gO n x n) (hb : ∀ b, b < wr.heap.size → b ≠ cd → w8.heap[b]? = wr.heap[b]?) (hcd : cd < gW) (h1 : gW < gS) (h2 : gS < gO) (h3 : gO < w4.heap.size)
    (hk : w8.heap[gK]? = some (.cells (ptrs w4.heap.size n).toArray 75 (0, 0))) (i : Nat) (hi : i < n) : Seen w8 gW gK gS gO w4.heap.size i (stOf (x i)) (orOf (x i)) := by
  have hsz := h.size
  obtain ⟨CS, p0, p1, p4, p10, p12, p17, p19, p20⟩ := h.procs i hi
  have pb := (hb (w4.heap.size + i) (by omega) (by omega)).trans p0
  refine ⟨?_, ?_, ?_, ?_, (cell_of_row _ _ _ _ _ _ pb).trans p1, (cell_of_row _ _ _ _ _ _ pb).trans p4, (cell_of_row _ _ _ _ _ _ pb).trans p12, (cell_of_row _ _ _ _ _ _ pb).trans p17, (cell_of_row _ _ _ _ _ _ pb).trans p19, (cell_of_row _ _ _ _ _ _ pb).trans p20⟩
  · exact (cell_of_row _ _ _ _ _ _ ((hb gW (by omega) (by omega)).trans h.rowW)).trans (fillV_get _ _ _ _ _ hi hi)
  · rw [cell_of_row _ _ _ _ _ _ hk]
    simpa using ptrs_get w4.heap.size n i hi
  · exact (cell_of_row _ _ _ _ _ _ ((hb gS (by omega) (by omega)).trans h.rowS)).trans (fillV_get _ _ _ _ _ hi hi)
  · exact (cell_of_row _ _ _ _ _ _ ((hb gO (by omega) (by omega)).trans h.rowO)).trans (fillV_get _ _ _ _ _ hi hi)
end Go.Proofs.YbulkfeocDoor
