import Derived.Test.YbulkfeocSk
namespace Go.Proofs.Ybulkfeoc
open Go.RowKit Go.Conc Go.Conc.Locks Go.MuLone
set_option linter.unusedVariables false
set_option linter.unusedSimpArgs false

theorem Kept.toBelow {S : Nat → Prop} {N : Nat} {a b : World} (h : Kept S a b) (hS : ∀ k, S k → N ≤ k) (hN : N ≤ a.heap.size) : Below N a b :=
  ⟨h.os, h.tape, h.output, h.size, fun k hk => h.block k (by omega) (fun hs => by have := hS k hs; omega)⟩

/-- What stands when the process to be queued has been made. -/
structure Mid (w W : World) (B V RP DP r d g : Nat) (gf gd : Nat → Nat) (L : Nat) (a : Option Addr) (R G Ld : Nat) (ended idle : Bool) : Prop where
  below : Below w.heap.size w W
  low : w.heap.size ≤ B ∧ B < V ∧ V < RP ∧ RP < DP ∧ DP < g ∧ g < W.heap.size
  sch : Sch W B ended idle
  chk : W.cell? ⟨B, 323, none⟩ = some (.int .u64 0)
  nw : W.cell? ⟨B, 318, none⟩ = some (.int .u32 0)
  nn : W.cell? ⟨B, 319, none⟩ = some (.int .u32 0)
  s : W.cell? ⟨V, 0, none⟩ = some (.pointer (some ⟨B, 0, none⟩))
  fifo : Fifo W B L r a (pv gf)
  deq : Deq W V R G Ld d gd
  h64 : Ld ≠ 0 → 64 ≤ Ld
  rowR : W.heap[RP]? = some (.cells (fillV r (pv gf) (.pointer none) r) 80 (0, 0))
  rowD : W.heap[DP]? = some (.cells (fillV d (pv gd) (.pointer none) d) 80 (0, 0))
  procs : ∀ i, i < d → ProcAt W (gd i) ∧ DP < gd i
  pg : ProcAt W g
  gfr : gf r = g
  gdd : gd d = g
  aLo : ∀ k, a = some ⟨k, 0, none⟩ → RP < k ∧ k < DP
  gLo : Ld ≠ 0 → DP < R ∧ DP < G

theorem mid_of {w W0 wq W1 wr : World} {B V RP DP r d : Nat} {gf gd : Nat → Nat} {L : Nat} {a : Option Addr} {R G Ld : Nat} {ended idle : Bool} (hb : Base w W0 B V ended idle) (h1 : Lp1 W0 wq B RP r r gf L a) (hW : Below wq.heap.size wq W1)
    (h2 : Lp2 W1 wr V DP d d gd R G Ld) (hVR : V < RP) (hR0 : RP < W0.heap.size) (hDP : wq.heap.size = DP) (hD1 : DP < W1.heap.size) (CS : Array Value) (hs : CS.size = 21) :
    Mid w (wr.alloc (.cells CS 108)) B V RP DP r d wr.heap.size (upd gf r wr.heap.size) (upd gd d wr.heap.size) L a R G Ld ended idle := by
  have s1 := h1.kept.size
  have s2 := h2.kept.size
  have bV := hb.bV
  have bB := hb.bB
  have lB : B < W0.heap.size := by omega
  have old : ∀ b, b < wr.heap.size → (wr.alloc (.cells CS 108)).heap[b]? = wr.heap[b]? := fun b hl => Below.heap_alloc _ _ _ hl
  have new : (wr.alloc (.cells CS 108)).heap[wr.heap.size]? = some (.cells CS 108 (0, 0)) := Go.heap_alloc_new _ _
  -- what lay below DP, but for V, has stood since wq
  have up : ∀ b, b < wq.heap.size → b ≠ V → (wr.alloc (.cells CS 108)).heap[b]? = wq.heap[b]? := fun b hl hn =>
    (old b (by omega)).trans ((h2.kept.block b (by omega) (by omega)).trans (hW.block b hl))
  have hB := up B (by omega) (by omega)
  have cB : ∀ o, o < 324 → (wr.alloc (.cells CS 108)).cell? ⟨B, o, none⟩ = W0.cell? ⟨B, o, none⟩ := fun o ho => (World.cell?_of_block hB).trans (h1.side o ho)
  have hV : W1.heap[V]? = W0.heap[V]? := (hW.block V (by omega)).trans (h1.kept.block V (by omega) (by omega))
  have bl : Below w.heap.size w (wr.alloc (.cells CS 108)) := by
    have b1 : Below w.heap.size W0 wq := h1.kept.toBelow (by rintro k (e | e) <;> omega) hb.below.size
    have b2 : Below w.heap.size wq W1 := hW.mono (by have := b1.size; have := hb.below.size; omega)
    have b3 : Below w.heap.size W1 wr := h2.kept.toBelow (by rintro k (e | e) <;> omega) (by omega)
    exact (((hb.below.trans b1).trans b2).trans b3).alloc (by omega) _
  have gLo : ∀ k, a = some ⟨k, 0, none⟩ → RP < k ∧ k < DP ∧ (wr.alloc (.cells CS 108)).heap[k]? = wq.heap[k]? := fun k e => by
    have h3 := h1.lo k e
    have hL : L ≠ 0 := fun e0 => by have := h1.fifo.nil e0; rw [this] at e; cases e
    obtain ⟨_, G', e', _, hr⟩ := h1.fifo.row hL
    rw [e] at e'
    obtain rfl := (Addr.mk.inj (Option.some.inj e')).1
    have h4 := (Array.getElem?_eq_some_iff.1 hr).1
    exact ⟨by omega, by omega, up k h4 (by omega)⟩
  have hfr : ∀ i, i < r → pv gf i = pv (upd gf r wr.heap.size) i := fun i hi => by rw [pv, pv, upd_ne _ _ _ _ (by omega)]
  have hfd : ∀ i, i < d → gd i = upd gd d wr.heap.size i := fun i hi => by rw [upd_ne _ _ _ _ (by omega)]
  refine ⟨bl, ⟨bB, bV, hVR, by omega, by omega, by simp⟩, ⟨(cB 250 (by omega)).trans hb.sch.ended, (cB 127 (by omega)).trans hb.sch.idle, (cB 315 (by omega)).trans hb.sch.mu⟩, (cB 323 (by omega)).trans hb.chk, (cB 318 (by omega)).trans hb.nw, (cB 319 (by omega)).trans hb.nn,
    (World.cell?_of_block (old V (by omega))).trans (h2.sv.trans ((World.cell?_of_block hV).trans hb.s)), (h1.fifo.of_blocks hB (fun k e => (gLo k e).2.2)).congr hfr, ?_, h2.h64, ?_, ?_, fun i hi => ?_, ⟨CS, new, hs⟩, upd_at _ _ _, upd_at _ _ _, fun k e => ⟨(gLo k e).1, (gLo k e).2.1⟩, fun hL => ?_⟩
  · refine (h2.deq.of_blocks (old V (by omega)) (fun hL => ?_)).congr hfd
    obtain ⟨_, _, q2, q3, _, _⟩ := h2.deq.ring hL
    exact ⟨old R (Array.getElem?_eq_some_iff.1 q2).1, old G (Array.getElem?_eq_some_iff.1 q3).1⟩
  · rw [up RP (by omega) (by omega), h1.row, fillV_congr r (pv gf) (pv (upd gf r wr.heap.size)) _ r hfr]
  · rw [old DP (by omega), h2.row, fillV_congr d (pv gd) (pv (upd gd d wr.heap.size)) _ d (fun i hi => by rw [pv, pv, hfd i hi])]
  · rw [upd_ne _ _ _ _ (by omega)]
    obtain ⟨q1, q2⟩ := h2.procs i hi
    exact ⟨q1.of_block (old _ q1.lt), by omega⟩
  · have := h2.lo hL
    omega

/-- What stands behind enqueue. -/
structure Aft (w W : World) (B V RP DP r d g : Nat) (gf gd : Nat → Nat) (ended idle : Bool) (L : Nat) (a : Option Addr) (R G Ld : Nat) : Prop where
  below : Below w.heap.size w W
  low : w.heap.size ≤ B ∧ B < V ∧ V < RP ∧ RP < DP ∧ DP < g ∧ g < W.heap.size
  sch : Sch W B ended idle
  fifo : Fifo W B L (r + if ended then 0 else 1) a (pv gf)
  deq : Deq W V R G Ld (d + if ended then 1 else 0) gd
  rowR : W.heap[RP]? = some (.cells (fillV r (pv gf) (.pointer none) r) 80 (0, 0))
  rowD : W.heap[DP]? = some (.cells (fillV d (pv gd) (.pointer none) d) 80 (0, 0))
  procs : ∀ i, i < d + (if ended then 1 else 0) → ProcAt W (gd i) ∧ DP < gd i
  gfr : gf r = g
  gdd : gd d = g
  aV : ∀ k, a = some ⟨k, 0, none⟩ → RP < k ∧ k ≠ DP ∧ k < W.heap.size
  gLo : Ld ≠ 0 → w.heap.size ≤ G
theorem aft_of {w W W2 : World} {B V RP DP r d g : Nat} {gf gd : Nat → Nat} {L : Nat} {a : Option Addr} {R G Ld : Nat} {ended idle : Bool} (h : Mid w W B V RP DP r d g gf gd L a R G Ld ended idle) (he : Enq W W2 B V G Ld r d a gf gd ended idle) :
    ∃ L' a' R' G' Ld', Aft w W2 B V RP DP r d g gf gd ended idle L' a' R' G' Ld' := by
  obtain ⟨l1, l2, l3, l4, l5, l6⟩ := h.low
  obtain ⟨L', a', f1, e1⟩ := he.fifo
  obtain ⟨R', G', Ld', d1, lo1⟩ := he.deq
  have hk := he.kept
  have rowG : ∀ k, a = some ⟨k, 0, none⟩ → ∃ C, W.heap[k]? = some (.cells C 80 (0, 0)) := fun k e => by
    have hL : L ≠ 0 := fun e0 => by have := h.fifo.nil e0; rw [this] at e; cases e
    obtain ⟨_, G', e', _, hr⟩ := h.fifo.row hL
    rw [e] at e'
    obtain rfl := (Addr.mk.inj (Option.some.inj e')).1
    exact ⟨_, hr⟩
  have keep : ∀ b, b < W.heap.size → b ≠ B → b ≠ V → a ≠ some ⟨b, 0, none⟩ → (Ld ≠ 0 → b ≠ G) → W2.heap[b]? = W.heap[b]? := fun b hl n1 n2 n3 n4 => hk.block b hl (by
    rintro (e | e | e | ⟨hL, e⟩)
    · exact n1 e
    · exact n2 e
    · exact n3 e
    · exact n4 hL e)
  have pk : ∀ b, ProcAt W b → DP < b → ProcAt W2 b := fun b hp hb => hp.of_block (keep b hp.lt (by omega) (by omega) (fun e => by
    have := h.aLo b e
    omega) (fun hL e => hp.ne (h.deq.ring hL).2.2.2.1 (by decide) e))
  refine ⟨L', a', R', G', Ld', h.below.trans (hk.toBelow ?_ h.below.size), ⟨l1, l2, l3, l4, l5, Nat.lt_of_lt_of_le l6 hk.size⟩, he.sch, f1, d1, ?_, ?_, fun i hi => ?_, h.gfr, h.gdd, fun k e => ?_, fun hL => ?_⟩
  · rintro k (e | e | e | ⟨hL, e⟩)
    · omega
    · omega
    · have := h.aLo k e
      omega
    · have := h.gLo hL
      omega
  · refine (keep RP (by omega) (by omega) (by omega) (fun e => ?_) (fun hL e => ?_)).trans h.rowR
    · have := h.aLo RP e
      omega
    · have := h.gLo hL
      omega
  · refine (keep DP (by omega) (by omega) (by omega) (fun e => ?_) (fun hL e => ?_)).trans h.rowD
    · have := h.aLo DP e
      omega
    · have := h.gLo hL
      omega
  · by_cases hid : i < d
    · obtain ⟨q1, q2⟩ := h.procs i hid
      exact ⟨pk _ q1 q2, q2⟩
    · have : i = d := by
        cases ended
        · simp at hi; omega
        · simp at hi; omega
      subst this
      rw [h.gdd]
      exact ⟨pk _ h.pg l5, l5⟩
  · have hkl : k < W2.heap.size := by
      have hL : L' ≠ 0 := fun e0 => by have := f1.nil e0; rw [this] at e; cases e
      obtain ⟨_, G', e', _, hr⟩ := f1.row hL
      rw [e] at e'
      obtain rfl := (Addr.mk.inj (Option.some.inj e')).1
      exact (Array.getElem?_eq_some_iff.1 hr).1
    rcases e1 with e2 | e2
    · have := h.aLo k (e2 ▸ e)
      exact ⟨this.1, by omega, hkl⟩
    · rw [e2] at e
      have := (Addr.mk.inj (Option.some.inj e)).1
      exact ⟨by omega, by omega, hkl⟩
  · rcases lo1 hL with ⟨e1, e2⟩ | e2
    · have := h.gLo e1
      omega
    · have := h.below.size
      omega

theorem vals_src {W : World} {b n : Nat} {f : Nat → Value} (h : W.heap[b]? = some (.cells (fillV n f (.pointer none) n) 80 (0, 0))) : ∀ (j : Nat) (u : Value), (vals f n)[j]? = some u → W.cell? ((⟨b, 0, none⟩ : Addr).add j) = some u := by
  intro j u hj
  have hjn : j < n := by have := (List.getElem?_eq_some_iff.1 hj).1; rwa [vals_length] at this
  rw [vals_get f n j hjn] at hj
  obtain rfl := Option.some.inj hj
  rw [Addr.add_lit, Nat.zero_add, cell_of_row _ _ _ _ _ _ h]
  exact fillV_get _ _ _ _ _ hjn hjn
theorem vals_one (gf : Nat → Nat) (n : Nat) : ∀ u ∈ vals (pv gf) n, u.oneCell' = true := by
  intro u hu
  simp [vals] at hu
  obtain ⟨j, _, rfl⟩ := hu
  rfl
theorem vals_succ (f : Nat → Value) (n : Nat) : vals f (n + 1) = vals f n ++ [f n] := by simp [vals, List.range_succ]
/-- What an owned row holds. -/
theorem own_cells {w : World} {base g n cap : Nat} {f : Nat → Value} (h : w.ownsRow base 80 1 (.slice (some ⟨g, 0, none⟩) n cap) n (vals f n)) : ∀ i, i < n → w.cell? ⟨g, i, none⟩ = some (f i) := by
  rcases h.2 with ⟨h1, _⟩ | ⟨g', cap', cur, h1, _, hg, _, _, h5, h6⟩
  · cases h1
  · obtain rfl : g = g' := by injection h1 with e1 e2 e3; injection e1 with e1; exact (Addr.mk.inj e1).1
    intro i hi
    rw [cell_of_row _ _ _ _ _ _ hg]
    have e : (cur.toList.take (n * 1))[i]? = some (f i) := by rw [h6]; exact vals_get f n i hi
    rw [List.getElem?_take_of_lt (by omega)] at e
    simpa using e
theorem own_heap {w : World} {base g n cap : Nat} {e : TypeId} {xs : List Value} (h : w.ownsRow base e 1 (.slice (some ⟨g, 0, none⟩) n cap) n xs) : w.heap[g]? = some (w.heap[g]?.getD (.cells #[] 0 (0, 0))) := by
  rcases h.2 with ⟨h1, _⟩ | ⟨g', cap', cur, h1, h2, hg, h3, h4, h5, h6⟩
  · cases h1
  · obtain rfl : g = g' := by injection h1 with e1 e2 e3; injection e1 with e1; exact (Addr.mk.inj e1).1
    rw [hg]; rfl
theorem own_lt {w : World} {base g n cap : Nat} {e : TypeId} {xs : List Value} (h : w.ownsRow base e 1 (.slice (some ⟨g, 0, none⟩) n cap) n xs) : g < w.heap.size := (Array.getElem?_eq_some_iff.1 (own_heap h)).1
theorem own_move {w w' : World} {base g n cap : Nat} {e : TypeId} {xs : List Value} (h : w.ownsRow base e 1 (.slice (some ⟨g, 0, none⟩) n cap) n xs) (hb : w'.heap[g]? = w.heap[g]?) : w'.ownsRow base e 1 (.slice (some ⟨g, 0, none⟩) n cap) n xs := by
  refine ⟨h.1, ?_⟩
  rcases h.2 with ⟨h1, _⟩ | ⟨g', cap', cur, h1, h2, hg, h3, h4, h5, h6⟩
  · cases h1
  · obtain rfl : g = g' := by injection h1 with e1 e2 e3; injection e1 with e1; exact (Addr.mk.inj e1).1
    exact .inr ⟨g, cap', cur, h1, h2, hb.trans hg, h3, h4, h5, h6⟩
theorem below_of_row {w0 w w' : World} {N g : Nat} (hb : Below N w0 w) (h : w.grownBy w' (some g)) (hg : N ≤ g) (hN : N ≤ w0.heap.size) : Below N w0 w' :=
  hb.trans ⟨h.os, h.tape, h.output, h.size, fun k hk => h.block k (by have := hb.size; omega) (by intro e; injection e with e; omega)⟩
theorem below_of_none {w0 w w' : World} {N : Nat} (hb : Below N w0 w) (h : w.grownBy w' none) (hN : N ≤ w0.heap.size) : Below N w0 w' :=
  hb.trans ⟨h.os, h.tape, h.output, h.size, fun k hk => h.block k (by have := hb.size; omega) (by simp)⟩
theorem neq80 (a : Addr) (w : World) : (binOp .neq 80 (.pointer (some a)) (.pointer (some a))).run Yba.prog w = .ok (.bool false) w := by
  obtain ⟨i, hi, _⟩ := Option.map_eq_some_iff.1 Yba.info108
  exact Lib.run_neq_ptr_same w a Yba.underlying80 hi
/-- What stands once the wanted rows are laid. -/
structure Want (w3 W : World) (g1 g2 rr dd : Nat) (gf gd : Nat → Nat) : Prop where
  below : Below w3.heap.size w3 W
  run : ∀ i, i < rr → W.cell? ⟨g1, i, none⟩ = some (pv gf i)
  deq : ∀ i, i < dd → W.cell? ⟨g2, i, none⟩ = some (pv gd i)
  lo : w3.heap.size ≤ g1 ∧ w3.heap.size ≤ g2 ∧ g1 < W.heap.size ∧ g2 < W.heap.size
theorem vals_new {gf : Nat → Nat} {r g : Nat} (h : gf r = g) : vals (pv gf) r ++ [.pointer (some ⟨g, 0, none⟩)] = vals (pv gf) (r + 1) := by rw [vals_succ, pv, h]
theorem one_src (w : World) (v : Value) (t : TypeId) : ∀ (j : Nat) (u : Value), [v][j]? = some u → (w.alloc (.cells #[v] t)).cell? ((⟨w.heap.size, 0, none⟩ : Addr).add j) = some u := by
  intro j u hj
  have : j = 0 := by have := (List.getElem?_eq_some_iff.1 hj).1; simp at this; omega
  subst this
  simp at hj
  subst hj
  rw [Addr.add_lit, cell_of_row _ _ _ _ _ _ (Go.heap_alloc_new w (.cells #[v] t))]
  rfl
theorem one_one (a : Addr) : ∀ u ∈ [Value.pointer (some a)], u.oneCell' = true := by
  intro u hu
  simp at hu
  subst hu
  rfl
/-- What the law's checks read. -/
structure Last (w W : World) (B V g1 g2 rr dd : Nat) (gf gd : Nat → Nat) (L : Nat) (a : Option Addr) (R G Ld : Nat) : Prop where
  below : Below w.heap.size w W
  fifo : Fifo W B L rr a (pv gf)
  deq : Deq W V R G Ld dd gd
  procs : ∀ i, i < dd → ProcAt W (gd i) ∧ gd i ≠ V ∧ gd i ≠ B
  run : ∀ i, i < rr → W.cell? ⟨g1, i, none⟩ = some (pv gf i)
  wdeq : ∀ i, i < dd → W.cell? ⟨g2, i, none⟩ = some (pv gd i)
  low : w.heap.size ≤ B ∧ B < V ∧ V < g1 ∧ V < g2 ∧ g1 < W.heap.size ∧ g2 < W.heap.size
  aLo : ∀ k, a = some ⟨k, 0, none⟩ → V < k ∧ k < g1 ∧ k < g2
  gLo : Ld ≠ 0 → R < W.heap.size ∧ G < W.heap.size ∧ G ≠ g2 ∧ w.heap.size ≤ G
theorem last_of {w w3 W : World} {B V RP DP r d g g1 g2 rr dd : Nat} {gf gd : Nat → Nat} {ended idle : Bool} {L : Nat} {a : Option Addr} {R G Ld : Nat} (h : Aft w w3 B V RP DP r d g gf gd ended idle L a R G Ld)
    (hw : Want w3 W g1 g2 rr dd gf gd) (hr : rr = r + if ended then 0 else 1) (hd : dd = d + if ended then 1 else 0) : Last w W B V g1 g2 rr dd gf gd L a R G Ld := by
  obtain ⟨l1, l2, l3, l4, l5, l6⟩ := h.low
  obtain ⟨m1, m2, m3, m4⟩ := hw.lo
  have blk : ∀ b, b < w3.heap.size → W.heap[b]? = w3.heap[b]? := fun b hb => hw.below.block b hb
  have hring : Ld ≠ 0 → R < w3.heap.size ∧ G < w3.heap.size := fun hL => by
    obtain ⟨_, _, q2, q3, _, _⟩ := h.deq.ring hL
    exact ⟨(Array.getElem?_eq_some_iff.1 q2).1, (Array.getElem?_eq_some_iff.1 q3).1⟩
  subst hr hd
  refine ⟨h.below.trans (hw.below.mono (by have := h.below.size; omega)), h.fifo.of_blocks (blk B (by omega)) (fun k e => blk k (h.aV k e).2.2), h.deq.of_blocks (blk V (by omega)) (fun hL => ⟨blk R (hring hL).1, blk G (hring hL).2⟩), fun i hi => ?_, hw.run, hw.deq, by omega,
    fun k e => by have := h.aV k e; omega, fun hL => by have := hring hL; have := h.gLo hL; have := hw.below.size; omega⟩
  obtain ⟨q1, q2⟩ := h.procs i hi
  exact ⟨q1.of_block (blk _ q1.lt), by omega, by omega⟩
theorem Last.keep {w W W2 : World} {B V g1 g2 rr dd : Nat} {gf gd : Nat → Nat} {L : Nat} {a : Option Addr} {R G Ld : Nat} (h : Last w W B V g1 g2 rr dd gf gd L a R G Ld) (hb : Below W.heap.size W W2) : Last w W2 B V g1 g2 rr dd gf gd L a R G Ld := by
  obtain ⟨l1, l2, l3, l4, l5, l6⟩ := h.low
  have sz := hb.size
  have blk : ∀ b, b < W.heap.size → W2.heap[b]? = W.heap[b]? := fun b hl => hb.block b hl
  refine ⟨h.below.trans (hb.mono h.below.size), h.fifo.of_blocks (blk B (by omega)) (fun k e => blk k (by have := h.aLo k e; omega)), h.deq.of_blocks (blk V (by omega)) (fun hL => ⟨blk R (h.gLo hL).1, blk G (h.gLo hL).2.1⟩), fun i hi => ?_,
    fun i hi => (World.cell?_of_block (blk g1 l5)).trans (h.run i hi), fun i hi => (World.cell?_of_block (blk g2 l6)).trans (h.wdeq i hi), by omega, h.aLo, fun hL => by have := h.gLo hL; omega⟩
  obtain ⟨q1, q2, q3⟩ := h.procs i hi
  exact ⟨q1.of_block (blk _ q1.lt), q2, q3⟩
end Go.Proofs.Ybulkfeoc
