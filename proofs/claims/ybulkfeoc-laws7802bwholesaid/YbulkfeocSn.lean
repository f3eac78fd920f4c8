import Derived.Test.YbulkfeocSm
namespace Go.Proofs.Ybulkfeoc
open Go.RowKit Go.Conc Go.Conc.Locks Go.MuLone
set_option linter.unusedVariables false
set_option linter.unusedSimpArgs false

theorem eqNone80 (w : World) : (binOp .eql 80 (.pointer none) (.pointer none)).run Yba.prog w = .ok (.bool true) w := by
  have h : ∀ d : Nat, (Op.equalIn (d + 1) 80 (.pointer none) (.pointer none)).run Yba.prog w = .ok true w := fun d => by
    simp [Op.equalIn, run_underlying Yba.underlying80, sizeOf, typeInfo]
  simp only [binOp]
  simp [Op.equal, Op.maxDepth, h 9999]

/-- What the last loop reads: m processes are left in the deque. -/
structure Tail (w W : World) (V R G Ld g2 m : Nat) (gd : Nat → Nat) : Prop where
  below : Below w.heap.size w W
  more : m ≠ 0 → Deq W V R G Ld m gd
  gone : m = 0 → ∃ t, Gone W V t
  procs : ∀ i, i < m → ProcAt W (gd i) ∧ gd i ≠ V
  wdeq : ∀ i, i < m → W.cell? ⟨g2, i, none⟩ = some (pv gd i)
  lo : w.heap.size ≤ V ∧ V ≠ g2 ∧ g2 < W.heap.size
  gLo : m ≠ 0 → w.heap.size ≤ G ∧ G ≠ g2

theorem row_types {W : World} {a b : Nat} {C D : Array Value} {s t : TypeId} {f1 f2 : Nat × Nat} (h1 : W.heap[a]? = some (.cells C s f1)) (h2 : W.heap[b]? = some (.cells D t f2)) (h : s ≠ t) : a ≠ b := by
  rintro rfl
  rw [h1] at h2
  injection h2 with e
  injection e with _ e2 _
  exact h e2

theorem tail_of {w y1 y2 : World} {B V g1 g2 rr dd DB : Nat} {gf gd : Nat → Nat} {L : Nat} {a : Option Addr} {R G Ld : Nat} (h : Last w y1 B V g1 g2 rr dd gf gd L a R G Ld)
    (hk : Kept (fun k => k = B ∨ a = some ⟨k, 0, none⟩ ∨ k = DB) y1 y2) (C : Array Value) (hD : y1.heap[DB]? = some (.cells C 80 (0, 0))) (hg : g2 < DB) : Tail w y2 V R G Ld g2 dd gd := by
  obtain ⟨l1, l2, l3, l4, l5, l6⟩ := h.low
  have rowA : ∀ k, a = some ⟨k, 0, none⟩ → ∃ C, y1.heap[k]? = some (.cells C 80 (0, 0)) := fun k e => by
    have hL : L ≠ 0 := fun e0 => by have := h.fifo.nil e0; rw [this] at e; cases e
    obtain ⟨_, G', e', _, hr⟩ := h.fifo.row hL
    rw [e] at e'
    obtain rfl := (Addr.mk.inj (Option.some.inj e')).1
    exact ⟨_, hr⟩
  have keep : ∀ b, b < y1.heap.size → b ≠ B → b ≠ DB → a ≠ some ⟨b, 0, none⟩ → y2.heap[b]? = y1.heap[b]? := fun b hl n1 n2 n3 => hk.block b hl (by
    rintro (e | e | e)
    · exact n1 e
    · exact n3 e
    · exact n2 e)
  have hV : y2.heap[V]? = y1.heap[V]? := keep V (by omega) (by omega) (by omega) (fun e => by have := h.aLo V e; omega)
  have h2 : y2.heap[g2]? = y1.heap[g2]? := keep g2 (by omega) (by omega) (by omega) (fun e => by have := h.aLo g2 e; omega)
  have hdq : Deq y2 V R G Ld dd gd := by
    refine h.deq.of_blocks hV (fun hL => ?_)
    obtain ⟨_, _, q2, q3, _, _⟩ := h.deq.ring hL
    have hb := h.fifo.head
    have hbb := h.fifo.buf
    refine ⟨keep R (Array.getElem?_eq_some_iff.1 q2).1 ?_ (row_types q2 hD (by decide)) (fun e => ?_), keep G (Array.getElem?_eq_some_iff.1 q3).1 ?_ (row_types q3 hD (by decide)) (fun e => ?_)⟩
    · rintro rfl
      rw [cell_of_row _ _ _ _ _ _ q2] at hb
      simp at hb
    · obtain ⟨C', hC⟩ := rowA R e
      exact row_types q2 hC (by decide) rfl
    · rintro rfl
      rw [cell_of_row _ _ _ _ _ _ q3] at hbb
      simp only [fillV, Array.getElem?_ofFn] at hbb
      split at hbb
      · simp only [Option.some.injEq] at hbb
        split at hbb <;> simp [pv] at hbb
      · cases hbb
    · obtain ⟨C', hC⟩ := rowA G e
      exact row_types q3 hC (by decide) rfl
  refine ⟨h.below.trans (hk.toBelow ?_ h.below.size), fun _ => hdq, fun e => ⟨0, hdq.top, ?_, hdq.clean⟩, fun i hi => ?_, fun i hi => (World.cell?_of_block h2).trans (h.wdeq i hi), ⟨by omega, by omega, Nat.lt_of_lt_of_le l6 hk.size⟩, fun hm => ?_⟩
  · rintro k (e | e | e)
    · omega
    · have := h.aLo k e
      omega
    · omega
  · have := hdq.bottom
    rw [e] at this
    exact this
  · obtain ⟨q1, q2, q3⟩ := h.procs i hi
    refine ⟨q1.of_block (keep _ q1.lt q3 (q1.ne hD (by decide)) (fun e => ?_)), q2⟩
    obtain ⟨C', hC⟩ := rowA _ e
    exact q1.ne hC (by decide) rfl
  · have hL : Ld ≠ 0 := by have := h.deq.le; omega
    have := h.gLo hL
    omega

theorem Tail.of_heap {w W W2 : World} {V R G Ld g2 m : Nat} {gd : Nat → Nat} (h : Tail w W V R G Ld g2 m gd) (h1 : W2.heap = W.heap) (hb : Below w.heap.size w W2) : Tail w W2 V R G Ld g2 m gd := by
  have hk : ∀ k : Nat, W2.heap[k]? = W.heap[k]? := fun k => by rw [h1]
  refine ⟨hb, fun hm => (h.more hm).of_heap h1, fun hm => ?_, fun i hi => ⟨(h.procs i hi).1.of_block (hk _), (h.procs i hi).2⟩, fun i hi => (World.cell?_of_block (hk _)).trans (h.wdeq i hi), ⟨h.lo.1, h.lo.2.1, by rw [h1]; exact h.lo.2.2⟩, h.gLo⟩
  obtain ⟨t, ht⟩ := h.gone hm
  exact ⟨t, (World.cell?_of_block (hk _)).trans ht.top, (World.cell?_of_block (hk _)).trans ht.bottom, (World.cell?_of_block (hk _)).trans ht.clean⟩

theorem Tail.drewN {w W : World} {V R G Ld g2 m : Nat} {gd : Nat → Nat} (h : Tail w W V R G Ld g2 m gd) (q : Nat) : Tail w (W.drewN q) V R G Ld g2 m gd :=
  h.of_heap rfl ⟨h.below.os, h.below.tape, h.below.output, h.below.size, h.below.block⟩

theorem pop_any {w W : World} (V R G Ld g2 m : Nat) (gd : Nat → Nat) (h : Tail w W V R G Ld g2 (m + 1) gd) (hm : m ≤ 300) (W1 : World) (hh : W1.heap = W.heap) (ho : W1.os = W.os) (ht : W1.tape = W.tape) (hp : W1.output = W.output) :
    Calls Yba.prog 14 #[.pointer (some ⟨V, 3, none⟩)] W1 fun e w' => e = .returned (.pointer (some ⟨gd m, 0, none⟩)) ∧ Tail w w' V R G Ld g2 m gd ∧ w'.cell? ⟨g2, m, none⟩ = some (.pointer (some ⟨gd m, 0, none⟩)) := by
  have hb1 : Below w.heap.size w W1 := ⟨ho.trans h.below.os, ht.trans h.below.tape, hp.trans h.below.output, by rw [hh]; exact h.below.size, fun k hk => by rw [hh]; exact h.below.block k hk⟩
  have h1 := h.of_heap hh hb1
  obtain ⟨l1, l2, l3⟩ := h1.lo
  obtain ⟨g3, g4⟩ := h1.gLo (by omega)
  have hq := h1.more (by omega)
  have hring := hq.ring (by have := hq.le; omega)
  have fin : ∀ w', Kept (fun k => k = V ∨ k = G) W1 w' → (m ≠ 0 → Deq w' V R G Ld m gd) → (m = 0 → ∃ t, Gone w' V t) → Tail w w' V R G Ld g2 m gd ∧ w'.cell? ⟨g2, m, none⟩ = some (.pointer (some ⟨gd m, 0, none⟩)) := fun w' hk hd hg => by
    have c : ∀ i, w'.cell? ⟨g2, i, none⟩ = W1.cell? ⟨g2, i, none⟩ := fun i => hk.cell (p := ⟨g2, i, none⟩) l3 (by
      rintro (e | e)
      · exact l2 (Eq.symm e)
      · exact g4 (Eq.symm e))
    refine ⟨⟨hb1.trans (hk.toBelow (by rintro k (e | e) <;> omega) hb1.size), hd, hg, fun i hi => ?_, fun i hi => (c i).trans (h1.wdeq i (by omega)), ⟨l1, l2, Nat.lt_of_lt_of_le l3 hk.size⟩, fun _ => ⟨g3, g4⟩⟩, (c m).trans (h1.wdeq m (by omega))⟩
    obtain ⟨q1, q2⟩ := h1.procs i (by omega)
    refine ⟨q1.of_block (hk.block _ q1.lt ?_), q2⟩
    rintro (e | e)
    · exact q2 e
    · exact q1.ne hring.2.2.2.1 (by decide) e
  obtain ⟨p1, p2⟩ := h1.procs m (by omega)
  by_cases h0 : m = 0
  · subst h0
    refine (pop_last V R G Ld gd W1 hq p1 p2).mono ?_
    rintro e w' ⟨rfl, hg, hk⟩
    exact ⟨rfl, fin w' hk (fun h => absurd rfl h) (fun _ => ⟨_, hg⟩)⟩
  · refine (pop_more V R G Ld m gd W1 hq (by omega) hm p1 p2).mono ?_
    rintro e w' ⟨rfl, hd, hk⟩
    exact ⟨rfl, fin w' hk (fun _ => hd) (fun h => absurd h h0)⟩

theorem pop_none {w W : World} (V R G Ld g2 : Nat) (gd : Nat → Nat) (h : Tail w W V R G Ld g2 0 gd) :
    Calls Yba.prog 14 #[.pointer (some ⟨V, 3, none⟩)] W fun e w' => e = .returned (.pointer none) ∧ w' = W := by
  obtain ⟨t, ht⟩ := h.gone rfl
  exact pop_empty V t W ht
end Go.Proofs.Ybulkfeoc
