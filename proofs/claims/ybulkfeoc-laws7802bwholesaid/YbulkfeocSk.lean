import Derived.Test.YbulkfeocSj
import Derived.LaidEqlPtr
namespace Go.Proofs.Ybulkfeoc
open Go.RowKit Go.Conc Go.Conc.Locks Go.MuLone
set_option linter.unusedVariables false
set_option linter.unusedSimpArgs false

/-- The scheduler and the worker as the law lays them. -/
structure Start (w wc : World) (B : Nat) (ended idle : Bool) : Prop where
  below : Below w.heap.size w wc
  bB : w.heap.size ≤ B
  sB : wc.heap.size = B + 1
  blk : ∃ C, wc.heap[B]? = some (.cells C 69 (0, 0))
  sch : Sch wc B ended idle
  fifo : Fifo wc B 0 0 none (fun _ => .pointer none)
  chk : wc.cell? ⟨B, 323, none⟩ = some (.int .u64 0)
  nw : wc.cell? ⟨B, 318, none⟩ = some (.int .u32 0)
  nn : wc.cell? ⟨B, 319, none⟩ = some (.int .u32 0)

theorem zc250 (v : Value) : (Yba.zeroCells69.setIfInBounds 317 v)[250]? = some (.int .u32 0) := by kernel_rfl
theorem zc127 (v : Value) : (Yba.zeroCells69.setIfInBounds 317 v)[127]? = some (.int .i32 0) := by kernel_rfl
theorem zc315 (v : Value) : (Yba.zeroCells69.setIfInBounds 317 v)[315]? = some (.int .i32 0) := by kernel_rfl
theorem zc324 (v : Value) : (Yba.zeroCells69.setIfInBounds 317 v)[324]? = some (.slice none 0 0) := by kernel_rfl
theorem zc325 (v : Value) : (Yba.zeroCells69.setIfInBounds 317 v)[325]? = some (.int .i64 0) := by kernel_rfl
theorem zc326 (v : Value) : (Yba.zeroCells69.setIfInBounds 317 v)[326]? = some (.int .i64 0) := by kernel_rfl
theorem zc323 (v : Value) : (Yba.zeroCells69.setIfInBounds 317 v)[323]? = some (.int .u64 0) := by kernel_rfl
theorem zc318 (v : Value) : (Yba.zeroCells69.setIfInBounds 317 v)[318]? = some (.int .u32 0) := by kernel_rfl
theorem zc319 (v : Value) : (Yba.zeroCells69.setIfInBounds 317 v)[319]? = some (.int .u32 0) := by kernel_rfl
theorem start0 (w : World) (v : Value) : Start w (w.alloc (.cells (Yba.zeroCells69.setIfInBounds 317 v) 69)) w.heap.size false false := by
  have hb : (w.alloc (.cells (Yba.zeroCells69.setIfInBounds 317 v) 69)).heap[w.heap.size]? = some (.cells (Yba.zeroCells69.setIfInBounds 317 v) 69 (0, 0)) := Go.heap_alloc_new _ _
  have c : ∀ o, (w.alloc (.cells (Yba.zeroCells69.setIfInBounds 317 v) 69)).cell? ⟨w.heap.size, o, none⟩ = (Yba.zeroCells69.setIfInBounds 317 v)[o]? := fun o => cell_of_row _ _ _ _ _ _ hb
  exact ⟨(Below.refl _ _).alloc (Nat.le_refl _) _, Nat.le_refl _, by simp, ⟨_, hb⟩, ⟨(c 250).trans (zc250 v), (c 127).trans (zc127 v), (c 315).trans (zc315 v)⟩,
    ⟨(c 324).trans (zc324 v), (c 325).trans (zc325 v), (c 326).trans (zc326 v), Nat.le_refl _, fun _ => rfl, fun h => absurd rfl h, fun o => frozen_of_row _ _ _ _ _ hb⟩, (c 323).trans (zc323 v), (c 318).trans (zc318 v), (c 319).trans (zc319 v)⟩
theorem Start.idle {w wc : World} {B : Nat} (h : Start w wc B false false) : Start w (wc.setCell ⟨B, 127, none⟩ (.int .i32 1)) B false true := by
  obtain ⟨C, hC⟩ := h.blk
  have c : ∀ o, o ≠ 127 → (wc.setCell ⟨B, 127, none⟩ (.int .i32 1)).cell? ⟨B, o, none⟩ = wc.cell? ⟨B, o, none⟩ := fun o ho => cell_setCell_ne _ _ _ _ _ (fun e => ho e.symm)
  exact ⟨h.below.setCell (p := ⟨B, 127, none⟩) h.bB _, h.bB, (size_setCell _ _ _).trans h.sB, ⟨_, heap_setCell_same _ _ _ _ _ _ hC⟩,
    ⟨(c 250 (by omega)).trans h.sch.ended, World.cell?_setCell_same _ _ _ h.sch.idle, (c 315 (by omega)).trans h.sch.mu⟩, h.fifo.setB 127 (by omega) _, (c 323 (by omega)).trans h.chk, (c 318 (by omega)).trans h.nw, (c 319 (by omega)).trans h.nn⟩
theorem Start.ended {w wc : World} {B : Nat} {i : Bool} (h : Start w wc B false i) : Start w (wc.setCell ⟨B, 250, none⟩ (.int .u32 1)).drew B true i := by
  obtain ⟨C, hC⟩ := h.blk
  have c : ∀ o, o ≠ 250 → (wc.setCell ⟨B, 250, none⟩ (.int .u32 1)).drew.cell? ⟨B, o, none⟩ = wc.cell? ⟨B, o, none⟩ := fun o ho => cell_setCell_ne wc _ _ _ _ (fun e => ho e.symm)
  exact ⟨(h.below.setCell (p := ⟨B, 250, none⟩) h.bB _).drew, h.bB, (size_setCell wc _ _).trans h.sB, ⟨_, heap_setCell_same wc _ _ _ _ _ hC⟩,
    ⟨World.cell?_setCell_same wc _ _ h.sch.ended, (c 127 (by omega)).trans h.sch.idle, (c 315 (by omega)).trans h.sch.mu⟩, (h.fifo.setB 250 (by omega) _).of_heap rfl, (c 323 (by omega)).trans h.chk, (c 318 (by omega)).trans h.nw, (c 319 (by omega)).trans h.nn⟩

theorem vc67 (v : Value) : (Yba.zeroCells98.setIfInBounds 0 v)[67]? = some (.int .i64 0) := by kernel_rfl
theorem vc124 (v : Value) : (Yba.zeroCells98.setIfInBounds 0 v)[124]? = some (.int .i64 0) := by kernel_rfl
theorem vc126 (v : Value) : (Yba.zeroCells98.setIfInBounds 0 v)[126]? = some (.int .i64 0) := by kernel_rfl
theorem vc125 (v : Value) : (Yba.zeroCells98.setIfInBounds 0 v)[125]? = some (.pointer none) := by kernel_rfl
theorem vc0 (v : Value) : (Yba.zeroCells98.setIfInBounds 0 v)[0]? = some v := by
  have h : 0 < Yba.zeroCells98.size := by
    have : Yba.zeroCells98.size = 300 ∨ 0 < Yba.zeroCells98.size := .inr (of_decide_eq_true (by kernel_rfl))
    omega
  simp [h]
/-- The scheduler, its worker, both fresh. -/
structure Base (w W : World) (B V : Nat) (ended idle : Bool) : Prop where
  below : Below w.heap.size w W
  bB : w.heap.size ≤ B
  bV : B < V
  sV : V < W.heap.size
  blk : ∃ C, W.heap[B]? = some (.cells C 69 (0, 0))
  sch : Sch W B ended idle
  fifo : ∀ f, Fifo W B 0 0 none f
  chk : W.cell? ⟨B, 323, none⟩ = some (.int .u64 0)
  nw : W.cell? ⟨B, 318, none⟩ = some (.int .u32 0)
  nn : W.cell? ⟨B, 319, none⟩ = some (.int .u32 0)
  s : W.cell? ⟨V, 0, none⟩ = some (.pointer (some ⟨B, 0, none⟩))
  deq : ∀ R G gd, Deq W V R G 0 0 gd
theorem base_of {w wc : World} {B : Nat} {ended idle : Bool} (h : Start w wc B ended idle) : Base w (wc.alloc (.cells (Yba.zeroCells98.setIfInBounds 0 (.pointer (some ⟨B, 0, none⟩))) 98)) B wc.heap.size ended idle := by
  have hb : (wc.alloc (.cells (Yba.zeroCells98.setIfInBounds 0 (.pointer (some ⟨B, 0, none⟩))) 98)).heap[wc.heap.size]? = some (.cells (Yba.zeroCells98.setIfInBounds 0 (.pointer (some ⟨B, 0, none⟩))) 98 (0, 0)) := Go.heap_alloc_new _ _
  have c : ∀ o, (wc.alloc (.cells (Yba.zeroCells98.setIfInBounds 0 (.pointer (some ⟨B, 0, none⟩))) 98)).cell? ⟨wc.heap.size, o, none⟩ = (Yba.zeroCells98.setIfInBounds 0 (.pointer (some ⟨B, 0, none⟩)))[o]? := fun o => cell_of_row _ _ _ _ _ _ hb
  have hsz := h.sB
  have hB : (wc.alloc (.cells (Yba.zeroCells98.setIfInBounds 0 (.pointer (some ⟨B, 0, none⟩))) 98)).heap[B]? = wc.heap[B]? := Below.heap_alloc _ _ _ (by omega)
  obtain ⟨C, hC⟩ := h.blk
  refine ⟨h.below.alloc h.below.size _, h.bB, by omega, by simp, ⟨C, hB.trans hC⟩, h.sch.of_block hB, fun f => ?_, (World.cell?_of_block hB).trans h.chk, (World.cell?_of_block hB).trans h.nw, (World.cell?_of_block hB).trans h.nn, (c 0).trans (vc0 _), fun R G gd => ?_⟩
  · have hf := h.fifo.of_blocks (w' := wc.alloc (.cells (Yba.zeroCells98.setIfInBounds 0 (.pointer (some ⟨B, 0, none⟩))) 98)) hB (fun _ e => by cases e)
    exact ⟨hf.buf, hf.head, hf.num, Nat.le_refl _, fun _ => rfl, fun h => absurd rfl h, hf.free⟩
  · exact ⟨(c 67).trans (vc67 _), (c 124).trans (vc124 _), (c 126).trans (vc126 _), fun o => frozen_of_row _ _ _ _ _ hb, Nat.le_refl _, fun _ => (c 125).trans (vc125 _), fun h => absurd rfl h⟩
theorem Base.keep {w W W2 : World} {B V : Nat} {e i : Bool} (h : Base w W B V e i) (hb : Below W.heap.size W W2) : Base w W2 B V e i := by
  have hBl : B < W.heap.size := Nat.lt_trans h.bV h.sV
  have hB := hb.block B hBl
  have hV := hb.block V h.sV
  obtain ⟨C, hC⟩ := h.blk
  refine ⟨h.below.trans (hb.mono h.below.size), h.bB, h.bV, Nat.lt_of_lt_of_le h.sV hb.size, ⟨C, hB.trans hC⟩, h.sch.of_block hB, fun f => (h.fifo f).of_blocks hB (fun _ e => by cases e), (World.cell?_of_block hB).trans h.chk, (World.cell?_of_block hB).trans h.nw, (World.cell?_of_block hB).trans h.nn,
    (World.cell?_of_block hV).trans h.s, fun R G gd => (h.deq R G gd).of_blocks hV (fun h => absurd rfl h)⟩

/-- One name more. -/
def upd (gf : Nat → Nat) (k g : Nat) : Nat → Nat := fun i => if i = k then g else gf i
theorem upd_at (gf : Nat → Nat) (k g : Nat) : upd gf k g k = g := by simp [upd]
theorem upd_ne (gf : Nat → Nat) (k g i : Nat) (h : i ≠ k) : upd gf k g i = gf i := by simp [upd, h]
theorem fillV_congr (n : Nat) (f f' : Nat → Value) (z : Value) (k : Nat) (h : ∀ i, i < k → f i = f' i) : fillV n f z k = fillV n f' z k := by
  apply Array.ext
  · simp [fillV]
  · intro i h1 h2
    simp only [fillV, Array.getElem_ofFn]
    by_cases e : i < k
    · rw [if_pos e, if_pos e, h i e]
    · rw [if_neg e, if_neg e]
theorem Fifo.congr {w : World} {B L m : Nat} {a : Option Addr} {f f' : Nat → Value} (h : Fifo w B L m a f) (hf : ∀ i, i < m → f i = f' i) : Fifo w B L m a f' :=
  ⟨h.buf, h.head, h.num, h.le, h.nil, fun hL => by
    obtain ⟨p, G, e, hn, hr⟩ := h.row hL
    exact ⟨p, G, e, hn, by rw [← fillV_congr L f f' _ m hf]; exact hr⟩, h.free⟩
theorem Deq.congr {w : World} {V R G L m : Nat} {gf gf' : Nat → Nat} (h : Deq w V R G L m gf) (hf : ∀ i, i < m → gf i = gf' i) : Deq w V R G L m gf' :=
  ⟨h.top, h.bottom, h.clean, h.free, h.le, h.nil, fun hL => by
    obtain ⟨p, q1, q2, q3, q4, q5⟩ := h.ring hL
    exact ⟨p, q1, q2, by rw [← fillV_congr L (pv gf) (pv gf') _ m (fun i hi => by rw [pv, pv, hf i hi])]; exact q3, q4, q5⟩⟩

/-- At the head of the law's first loop. -/
structure Lp1 (W0 wr : World) (B RP r k : Nat) (gf : Nat → Nat) (L : Nat) (a : Option Addr) : Prop where
  kept : Kept (fun i => i = B ∨ i = RP) W0 wr
  side : ∀ o, o < 324 → wr.cell? ⟨B, o, none⟩ = W0.cell? ⟨B, o, none⟩
  fifo : Fifo wr B L k a (pv gf)
  row : wr.heap[RP]? = some (.cells (fillV r (pv gf) (.pointer none) k) 80 (0, 0))
  procs : ∀ i, i < k → ProcAt wr (gf i) ∧ W0.heap.size ≤ gf i
  lo : ∀ G, a = some ⟨G, 0, none⟩ → W0.heap.size ≤ G

theorem Kept.of_from {S : Nat → Prop} {w wx w' : World} (h : Kept S w w') (hh : w.heap = wx.heap) (h1 : w.os = wx.os) (h2 : w.tape = wx.tape) (h3 : w.output = wx.output) : Kept S wx w' :=
  ⟨h.os.trans h1, h.tape.trans h2, h.output.trans h3, by rw [← hh]; exact h.size, fun k hk hs => by rw [← hh] at hk ⊢; exact h.block k hk hs⟩
theorem Side.of_from {w wx w' : World} {B : Nat} (h : Side w w' B) (hh : w.heap = wx.heap) : Side wx w' B := fun o ho => (h o ho).trans (World.cell?_of_block (by rw [hh]))
/-- .. once the next process is made and stored. -/
structure Lp1h (W0 wA : World) (B RP r k g : Nat) (gf : Nat → Nat) (L : Nat) (a : Option Addr) : Prop where
  kept : Kept (fun i => i = B ∨ i = RP) W0 wA
  side : ∀ o, o < 324 → wA.cell? ⟨B, o, none⟩ = W0.cell? ⟨B, o, none⟩
  fifo : Fifo wA B L k a (pv gf)
  row : wA.heap[RP]? = some (.cells (fillV r (pv gf) (.pointer none) (k + 1)) 80 (0, 0))
  procs : ∀ i, i < k + 1 → ProcAt wA (gf i) ∧ W0.heap.size ≤ gf i
  lo : ∀ G, a = some ⟨G, 0, none⟩ → W0.heap.size ≤ G
  at_ : gf k = g
theorem Lp1.made {W0 wr : World} {B RP r k : Nat} {gf : Nat → Nat} {L : Nat} {a : Option Addr} (h : Lp1 W0 wr B RP r k gf L a) (hk : k < r) (hBR : B ≠ RP) (hB : B < W0.heap.size) (hRP : RP < W0.heap.size) (CS : Array Value) (hs : CS.size = 21) :
    Lp1h W0 ((wr.setCell ⟨RP, k, none⟩ (.pointer (some ⟨wr.heap.size, 0, none⟩))).alloc (.cells CS 108)) B RP r k wr.heap.size (upd gf k wr.heap.size) L a := by
  have sz := h.kept.size
  have zs : (wr.setCell ⟨RP, k, none⟩ (.pointer (some ⟨wr.heap.size, 0, none⟩))).heap.size = wr.heap.size := size_setCell _ _ _
  have old : ∀ b, b < wr.heap.size → b ≠ RP → ((wr.setCell ⟨RP, k, none⟩ (.pointer (some ⟨wr.heap.size, 0, none⟩))).alloc (.cells CS 108)).heap[b]? = wr.heap[b]? := fun b hb hn =>
    (Below.heap_alloc _ _ _ (by omega)).trans (heap_setCell_other _ _ _ _ hn)
  have new : ((wr.setCell ⟨RP, k, none⟩ (.pointer (some ⟨wr.heap.size, 0, none⟩))).alloc (.cells CS 108)).heap[wr.heap.size]? = some (.cells CS 108 (0, 0)) := by
    have := Go.heap_alloc_new (wr.setCell ⟨RP, k, none⟩ (.pointer (some ⟨wr.heap.size, 0, none⟩))) (.cells CS 108)
    rw [zs] at this
    exact this
  have hf : ∀ i, i < k → pv gf i = pv (upd gf k wr.heap.size) i := fun i hi => by rw [pv, pv, upd_ne _ _ _ _ (by omega)]
  refine ⟨(h.kept.setCell RP k _ (.inl (.inr rfl))).alloc _, fun o ho => (World.cell?_of_block (old B (by omega) hBR)).trans (h.side o ho), ?_, ?_, fun i hi => ?_, h.lo, upd_at _ _ _⟩
  · refine (h.fifo.of_blocks (old B (by omega) hBR) (fun G e => ?_)).congr hf
    have h1 := h.lo G e
    have hL : L ≠ 0 := fun e0 => by have := h.fifo.nil e0; rw [this] at e; cases e
    obtain ⟨_, G', e', _, hr⟩ := h.fifo.row hL
    rw [e] at e'
    obtain rfl := (Addr.mk.inj (Option.some.inj e')).1
    exact old G (Array.getElem?_eq_some_iff.1 hr).1 (by omega)
  · rw [Below.heap_alloc _ _ _ (by omega), heap_setCell_same _ _ _ _ _ _ h.row, ← fillV_set, fillV_congr r (pv gf) (pv (upd gf k wr.heap.size)) _ k hf]
    rw [pv, upd_at]
  · by_cases e : i = k
    · subst e
      rw [upd_at]
      exact ⟨⟨CS, new, hs⟩, sz⟩
    · rw [upd_ne _ _ _ _ e]
      obtain ⟨h1, h2⟩ := h.procs i (by omega)
      exact ⟨h1.of_block (old _ h1.lt (by omega)), h2⟩
theorem Lp1h.pushed {W0 wA w2 : World} {B RP r k g : Nat} {gf : Nat → Nat} {L L' : Nat} {a a' : Option Addr} (h : Lp1h W0 wA B RP r k g gf L a) (hBR : B ≠ RP) (hB : B < W0.heap.size) (hRP : RP < W0.heap.size)
    (hf : Fifo w2 B L' (k + 1) a' (pv gf)) (hk : Kept (fun i => i = B ∨ a = some ⟨i, 0, none⟩) wA w2) (hs : Side wA w2 B) (ha : a' = a ∨ a' = some ⟨wA.heap.size, 0, none⟩) : Lp1 W0 w2 B RP r (k + 1) gf L' a' := by
  have sz := h.kept.size
  have rowOf : ∀ G, a = some ⟨G, 0, none⟩ → ∃ C, wA.heap[G]? = some (.cells C 80 (0, 0)) := fun G e => by
    have hL : L ≠ 0 := fun e0 => by have := h.fifo.nil e0; rw [this] at e; cases e
    obtain ⟨_, G', e', _, hr⟩ := h.fifo.row hL
    rw [e] at e'
    obtain rfl := (Addr.mk.inj (Option.some.inj e')).1
    exact ⟨_, hr⟩
  refine ⟨⟨hk.os.trans h.kept.os, hk.tape.trans h.kept.tape, hk.output.trans h.kept.output, Nat.le_trans sz hk.size, fun i hi hn => ?_⟩, fun o ho => (hs o (.inl ho)).trans (h.side o ho), hf, ?_, fun i hi => ?_, fun G e => ?_⟩
  · refine (hk.block i (by omega) ?_).trans (h.kept.block i hi hn)
    rintro (e | e)
    · exact hn (.inl e)
    · have := h.lo i e
      omega
  · refine (hk.block RP (by omega) ?_).trans h.row
    rintro (e | e)
    · exact hBR e.symm
    · have := h.lo RP e
      omega
  · obtain ⟨h1, h2⟩ := h.procs i hi
    refine ⟨h1.of_block (hk.block _ h1.lt ?_), h2⟩
    rintro (e | e)
    · omega
    · obtain ⟨C, hC⟩ := rowOf _ e
      exact h1.ne hC (by decide) rfl
  · rcases ha with e2 | e2
    · exact h.lo G (e2 ▸ e)
    · rw [e2] at e
      have := (Addr.mk.inj (Option.some.inj e)).1
      omega

/-- At the head of the law's second loop. -/
structure Lp2 (W0 wr : World) (V DP r k : Nat) (gf : Nat → Nat) (R G L : Nat) : Prop where
  kept : Kept (fun i => i = V ∨ i = DP) W0 wr
  sv : wr.cell? ⟨V, 0, none⟩ = W0.cell? ⟨V, 0, none⟩
  deq : Deq wr V R G L k gf
  h64 : L ≠ 0 → 64 ≤ L
  row : wr.heap[DP]? = some (.cells (fillV r (pv gf) (.pointer none) k) 80 (0, 0))
  procs : ∀ i, i < k → ProcAt wr (gf i) ∧ W0.heap.size ≤ gf i
  lo : L ≠ 0 → W0.heap.size ≤ R ∧ W0.heap.size ≤ G
structure Lp2h (W0 wA : World) (V DP r k g : Nat) (gf : Nat → Nat) (R G L : Nat) : Prop where
  kept : Kept (fun i => i = V ∨ i = DP) W0 wA
  sv : wA.cell? ⟨V, 0, none⟩ = W0.cell? ⟨V, 0, none⟩
  deq : Deq wA V R G L k gf
  h64 : L ≠ 0 → 64 ≤ L
  row : wA.heap[DP]? = some (.cells (fillV r (pv gf) (.pointer none) (k + 1)) 80 (0, 0))
  procs : ∀ i, i < k + 1 → ProcAt wA (gf i) ∧ W0.heap.size ≤ gf i
  lo : L ≠ 0 → W0.heap.size ≤ R ∧ W0.heap.size ≤ G
  at_ : gf k = g
theorem Lp2.made {W0 wr : World} {V DP r k : Nat} {gf : Nat → Nat} {R G L : Nat} (h : Lp2 W0 wr V DP r k gf R G L) (hk : k < r) (hBR : V ≠ DP) (hB : V < W0.heap.size) (hRP : DP < W0.heap.size) (CS : Array Value) (hs : CS.size = 21) :
    Lp2h W0 ((wr.setCell ⟨DP, k, none⟩ (.pointer (some ⟨wr.heap.size, 0, none⟩))).alloc (.cells CS 108)) V DP r k wr.heap.size (upd gf k wr.heap.size) R G L := by
  have sz := h.kept.size
  have zs : (wr.setCell ⟨DP, k, none⟩ (.pointer (some ⟨wr.heap.size, 0, none⟩))).heap.size = wr.heap.size := size_setCell _ _ _
  have old : ∀ b, b < wr.heap.size → b ≠ DP → ((wr.setCell ⟨DP, k, none⟩ (.pointer (some ⟨wr.heap.size, 0, none⟩))).alloc (.cells CS 108)).heap[b]? = wr.heap[b]? := fun b hb hn =>
    (Below.heap_alloc _ _ _ (by omega)).trans (heap_setCell_other _ _ _ _ hn)
  have new : ((wr.setCell ⟨DP, k, none⟩ (.pointer (some ⟨wr.heap.size, 0, none⟩))).alloc (.cells CS 108)).heap[wr.heap.size]? = some (.cells CS 108 (0, 0)) := by
    have := Go.heap_alloc_new (wr.setCell ⟨DP, k, none⟩ (.pointer (some ⟨wr.heap.size, 0, none⟩))) (.cells CS 108)
    rw [zs] at this
    exact this
  have hf : ∀ i, i < k → gf i = upd gf k wr.heap.size i := fun i hi => by rw [upd_ne _ _ _ _ (by omega)]
  have hfp : ∀ i, i < k → pv gf i = pv (upd gf k wr.heap.size) i := fun i hi => by rw [pv, pv, hf i hi]
  refine ⟨(h.kept.setCell DP k _ (.inl (.inr rfl))).alloc _, (World.cell?_of_block (old V (by omega) hBR)).trans h.sv, ?_, h.h64, ?_, fun i hi => ?_, h.lo, upd_at _ _ _⟩
  · refine (h.deq.of_blocks (old V (by omega) hBR) (fun hL => ?_)).congr hf
    obtain ⟨_, _, q2, q3, _, _⟩ := h.deq.ring hL
    have h1 := h.lo hL
    exact ⟨old R (Array.getElem?_eq_some_iff.1 q2).1 (by omega), old G (Array.getElem?_eq_some_iff.1 q3).1 (by omega)⟩
  · rw [Below.heap_alloc _ _ _ (by omega), heap_setCell_same _ _ _ _ _ _ h.row, ← fillV_set, fillV_congr r (pv gf) (pv (upd gf k wr.heap.size)) _ k hfp]
    rw [pv, upd_at]
  · by_cases e : i = k
    · subst e
      rw [upd_at]
      exact ⟨⟨CS, new, hs⟩, sz⟩
    · rw [upd_ne _ _ _ _ e]
      obtain ⟨h1, h2⟩ := h.procs i (by omega)
      exact ⟨h1.of_block (old _ h1.lt (by omega)), h2⟩
theorem Lp2h.pushed {W0 wA w2 : World} {V DP r k g : Nat} {gf : Nat → Nat} {R G L R' G' L' : Nat} (h : Lp2h W0 wA V DP r k g gf R G L) (hBR : V ≠ DP) (hB : V < W0.heap.size) (hRP : DP < W0.heap.size)
    (hd : Deq w2 V R' G' L' (k + 1) gf) (h64 : L' ≠ 0 → 64 ≤ L') (hk : Kept (fun i => i = V ∨ (L ≠ 0 ∧ i = G)) wA w2) (hs : SideV wA w2 V) (ha : (L ≠ 0 ∧ R' = R ∧ G' = G) ∨ (wA.heap.size ≤ R' ∧ wA.heap.size ≤ G')) : Lp2 W0 w2 V DP r (k + 1) gf R' G' L' := by
  have sz := h.kept.size
  refine ⟨⟨hk.os.trans h.kept.os, hk.tape.trans h.kept.tape, hk.output.trans h.kept.output, Nat.le_trans sz hk.size, fun i hi hn => ?_⟩, hs.trans h.sv, hd, h64, ?_, fun i hi => ?_, fun hL => ?_⟩
  · refine (hk.block i (by omega) ?_).trans (h.kept.block i hi hn)
    rintro (e | ⟨hL, e⟩)
    · exact hn (.inl e)
    · have := h.lo hL
      omega
  · refine (hk.block DP (by omega) ?_).trans h.row
    rintro (e | ⟨hL, e⟩)
    · exact hBR e.symm
    · have := h.lo hL
      omega
  · obtain ⟨h1, h2⟩ := h.procs i hi
    refine ⟨h1.of_block (hk.block _ h1.lt ?_), h2⟩
    rintro (e | ⟨hL, e⟩)
    · omega
    · exact h1.ne (h.deq.ring hL).2.2.2.1 (by decide) e
  · rcases ha with ⟨hL0, e1, e2⟩ | ⟨e1, e2⟩
    · have := h.lo hL0
      omega
    · omega
end Go.Proofs.Ybulkfeoc
