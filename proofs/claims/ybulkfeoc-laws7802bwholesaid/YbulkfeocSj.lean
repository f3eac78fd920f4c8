import Derived.Test.YbulkfeocSi
namespace Go.Proofs.Ybulkfeoc
open Go.RowKit Go.Conc Go.Conc.Locks Go.MuLone
set_option linter.unusedVariables false
set_option linter.unusedSimpArgs false

theorem Fifo.of_blocks {w w' : World} {B L m : Nat} {a : Option Addr} {f : Nat → Value} (h : Fifo w B L m a f) (h1 : w'.heap[B]? = w.heap[B]?) (h2 : ∀ G, a = some ⟨G, 0, none⟩ → w'.heap[G]? = w.heap[G]?) : Fifo w' B L m a f :=
  ⟨(World.cell?_of_block h1).trans h.buf, (World.cell?_of_block h1).trans h.head, (World.cell?_of_block h1).trans h.num, h.le, h.nil, fun hL => by
    obtain ⟨p, G, e, hn, hr⟩ := h.row hL
    exact ⟨p, G, e, hn, (h2 G e).trans hr⟩, fun o => (World.frozen?_of_block h1).trans (h.free o)⟩
theorem Deq.of_blocks {w w' : World} {V R G L m : Nat} {gf : Nat → Nat} (h : Deq w V R G L m gf) (h1 : w'.heap[V]? = w.heap[V]?) (h2 : L ≠ 0 → w'.heap[R]? = w.heap[R]? ∧ w'.heap[G]? = w.heap[G]?) : Deq w' V R G L m gf :=
  ⟨(World.cell?_of_block h1).trans h.top, (World.cell?_of_block h1).trans h.bottom, (World.cell?_of_block h1).trans h.clean, fun o => (World.frozen?_of_block h1).trans (h.free o), h.le, fun e => (World.cell?_of_block h1).trans (h.nil e),
    fun hL => by
      obtain ⟨p, q1, q2, q3, q4, q5⟩ := h.ring hL
      exact ⟨p, (World.cell?_of_block h1).trans q1, (h2 hL).1.trans q2, (h2 hL).2.trans q3, q4, q5⟩⟩
theorem Sch.of_block {w w' : World} {B : Nat} {e i : Bool} (h : Sch w B e i) (h1 : w'.heap[B]? = w.heap[B]?) : Sch w' B e i :=
  ⟨(World.cell?_of_block h1).trans h.ended, (World.cell?_of_block h1).trans h.idle, (World.cell?_of_block h1).trans h.mu⟩
theorem rows_ne {w : World} {a b : Nat} {C D : Array Value} {s t : TypeId} {p q : Nat × Nat} (h : w.heap[a]? = some (.cells C s p)) (k : w.heap[b]? = some (.cells D t q)) (hst : s ≠ t) : a ≠ b := by
  rintro rfl
  rw [h] at k
  injection k with e
  injection e with _ e2 _
  exact hst e2

/-- What enqueue leaves. -/
structure Enq (w w' : World) (B V G L0 m d : Nat) (a : Option Addr) (gf gd : Nat → Nat) (ended idle : Bool) : Prop where
  sch : Sch w' B ended idle
  kept : Kept (fun k => k = B ∨ k = V ∨ a = some ⟨k, 0, none⟩ ∨ (L0 ≠ 0 ∧ k = G)) w w'
  fifo : ∃ L' a', Fifo w' B L' (m + if ended then 0 else 1) a' (pv gf) ∧ (a' = a ∨ a' = some ⟨w.heap.size, 0, none⟩)
  deq : ∃ R' G' L', Deq w' V R' G' L' (d + if ended then 1 else 0) gd ∧ (L' ≠ 0 → (L0 ≠ 0 ∧ G' = G) ∨ w.heap.size ≤ G')

set_option maxRecDepth 10000 in
set_option maxHeartbeats 1000000 in
theorem enq8 (B V L m R G Ld d g : Nat) (a : Option Addr) (gf gd : Nat → Nat) (ended idle : Bool) (w : World) (hS : Sch w B ended idle) (hF : Fifo w B L m a (pv gf)) (hD : Deq w V R G Ld d gd) (h64 : Ld ≠ 0 → 64 ≤ Ld) (hm : m ≤ 299) (hd : d ≤ 299)
    (hv : w.cell? ⟨V, 0, none⟩ = some (.pointer (some ⟨B, 0, none⟩))) (hc : w.cell? ⟨B, 323, none⟩ = some (.int .u64 0)) (h0 : w.cell? ⟨B, 318, none⟩ = some (.int .u32 0)) (h1 : w.cell? ⟨B, 319, none⟩ = some (.int .u32 0))
    (hP : ∀ i, i < d → ProcAt w (gd i) ∧ gd i ≠ V) (hPg : ProcAt w g ∧ g ≠ V) (g1 : gf m = g) (g2 : gd d = g) (hVB : V ≠ B) (haV : ∀ k, a = some ⟨k, 0, none⟩ → k ≠ V) (hB : Ld ≠ 0 → R ≠ B ∧ G ≠ B) :
    Calls Yba.prog 8 #[.pointer (some ⟨V, 0, none⟩), .pointer (some ⟨g, 0, none⟩)] w fun e w' => e = .returned (.tuple #[]) ∧ Enq w w' B V G Ld m d a gf gd ended idle := by
  have hVl : V < w.heap.size := block_lt_of_cell hv
  have hBl : B < w.heap.size := block_lt_of_cell hc
  have HS := hide hS
  have HF := hide hF
  have HD := hide hD
  have H6 := hide h64
  have HC := hide hc
  have H0 := hide h0
  have H1 := hide h1
  have HP := hide hP
  have HPg := hide hPg
  have G1 := hide g1
  have G2 := hide g2
  have HA := hide haV
  have HCB := hide hB
  clear hS hF hD h64 hc h0 h1 hP hPg g1 g2 haV hB
  go_enter Yba.func8, Yba.ntmps8
  go_wp2_with fail
  cases ended
  · refine (queue_yes B L m g a (pv gf) idle _ HS.out (fun i => rfl) (by rw [pv, G1.out]) HF.out (by omega) HC.out H0.out H1.out).mono ?_
    rintro e w1 ⟨rfl, ⟨L', a', f1, k1, e1⟩, s1⟩
    have F1 := hide f1
    have K1 := hide k1
    have E1 := hide e1
    have S1 := hide s1
    clear f1 k1 e1 s1
    go_wp2
    go_end0
    have hk := K1.out
    refine ⟨rfl, S1.out, hk.mono (fun k hs => hs.elim .inl (fun h => .inr (.inr (.inl h)))), ⟨L', a', F1.out, E1.out⟩, R, G, Ld, ?_, fun hL => .inl ⟨hL, rfl⟩⟩
    refine HD.out.of_blocks (hk.block V hVl ?_) (fun hL => ?_)
    · rintro (e | e)
      · exact hVB e
      · exact HA.out V e rfl
    · obtain ⟨p, q1, q2, q3, q4, q5⟩ := HD.out.ring hL
      have key : ∀ (b : Nat) (C : Array Value) (t : TypeId), w.heap[b]? = some (Obj.cells C t (0, 0)) → b ≠ B → t ≠ 80 → w1.heap[b]? = w.heap[b]? := by
        intro b C t hb ht1 ht2
        refine hk.block b (Array.getElem?_eq_some_iff.1 hb).1 ?_
        rintro (e | e)
        · exact ht1 e
        · have hL0 : L ≠ 0 := fun h => by have := HF.out.nil h; rw [this] at e; cases e
          obtain ⟨_, G', e', _, hr⟩ := HF.out.row hL0
          rw [e] at e'
          have := (Addr.mk.inj (Option.some.inj e')).1
          exact rows_ne hb hr ht2 this
      exact ⟨key R _ _ q2 (HCB.out hL).1 (by decide), key G _ _ q3 (HCB.out hL).2 (by decide)⟩
  · refine (queue_no B g idle _ HS.out (HF.out.free 315)).mono ?_
    rintro e w' ⟨rfl, hw'⟩
    rw [hw']
    clear hw' w'
    go_wp2_with fail
    refine (dpush7 V R G Ld d g gd w G2.out HD.out H6.out (by omega) HP.out HPg.out).mono ?_
    rintro e w1 ⟨rfl, R', G', L', d1, _, k1, _, lo1⟩
    have D1 := hide d1
    have LO := hide lo1
    clear lo1
    have K1 := hide k1
    clear d1 k1
    go_wp2
    go_end0
    have hk := K1.out
    have hBk : w1.heap[B]? = w.heap[B]? := by
      refine hk.block B hBl ?_
      rintro (e | ⟨hL, e⟩)
      · exact hVB e.symm
      · exact (HCB.out hL).2 e.symm
    refine ⟨rfl, HS.out.of_block hBk, hk.mono (fun k hs => hs.elim (fun h => .inr (.inl h)) (fun h => .inr (.inr (.inr h)))), ⟨L, a, HF.out.of_blocks hBk ?_, .inl rfl⟩, R', G', L', D1.out, fun _ => LO.out.elim (fun h => .inl ⟨h.1, h.2.2⟩) (fun h => .inr h.2)⟩
    intro k hk0
    have hL0 : L ≠ 0 := fun h => by have := HF.out.nil h; rw [this] at hk0; cases hk0
    obtain ⟨_, G'', e', _, hr⟩ := HF.out.row hL0
    rw [hk0] at e'
    obtain rfl := (Addr.mk.inj (Option.some.inj e')).1
    refine hk.block k (Array.getElem?_eq_some_iff.1 hr).1 ?_
    rintro (e | ⟨hL, e⟩)
    · exact HA.out k hk0 e
    · exact rows_ne hr (HD.out.ring hL).2.2.2.1 (by decide) e
end Go.Proofs.Ybulkfeoc
