import Derived.Test.YbulkfcoyDoorSl
import Derived.Deep.LoopGhost
import Derived.Laws.AppendOwnNone
namespace Go.Proofs.YbulkfcoyDoor
open Go.RowKit
set_option linter.unusedVariables false
set_option linter.unusedSimpArgs false

/-- Below 'base' nothing has turned but blocks gG and gC. -/
structure Keep (gG gC base : Nat) (w w' : World) : Prop where
  os : w'.os = w.os
  tape : w'.tape = w.tape
  output : w'.output = w.output
  size : w.heap.size ≤ w'.heap.size
  block : ∀ k, k < base → k ≠ gG → k ≠ gC → w'.heap[k]? = w.heap[k]?

theorem Keep.refl (gG gC base : Nat) (w : World) : Keep gG gC base w w := ⟨rfl, rfl, rfl, Nat.le_refl _, fun _ _ _ _ => rfl⟩
theorem Keep.trans {gG gC base : Nat} {a b c : World} (h : Keep gG gC base a b) (k : Keep gG gC base b c) : Keep gG gC base a c :=
  ⟨k.os.trans h.os, k.tape.trans h.tape, k.output.trans h.output, Nat.le_trans h.size k.size, fun i h1 h2 h3 => (k.block i h1 h2 h3).trans (h.block i h1 h2 h3)⟩
theorem Keep.ofBelow {gG gC base : Nat} {a b : World} (h : Below base a b) : Keep gG gC base a b := ⟨h.os, h.tape, h.output, h.size, fun k hk _ _ => h.block k hk⟩
theorem Keep.setG {gG gC base : Nat} {a b : World} (h : Keep gG gC base a b) (o : Nat) (u : Value) : Keep gG gC base a (b.setCell ⟨gG, o, none⟩ u) :=
  h.trans ⟨rfl, rfl, rfl, by simp [World.setCell], fun k _ h1 _ => heap_setCell_other _ _ _ _ h1⟩
theorem Keep.setC {gG gC base : Nat} {a b : World} (h : Keep gG gC base a b) (o : Nat) (u : Value) : Keep gG gC base a (b.setCell ⟨gC, o, none⟩ u) :=
  h.trans ⟨rfl, rfl, rfl, by simp [World.setCell], fun k _ _ h1 => heap_setCell_other _ _ _ _ h1⟩
theorem Keep.cell {gG gC base : Nat} {w w' : World} (h : Keep gG gC base w w') {p : Addr} (h1 : p.block < base) (h2 : p.block ≠ gG) (h3 : p.block ≠ gC) : w'.cell? p = w.cell? p := World.cell?_of_block (h.block p.block h1 h2 h3)

theorem Ybad.info38 : (Ybad.prog.info? 38).map (fun i => (i.zero, i.size, i.bytes)) = some (some (.agg #[.int .u64 0, .int .u64 0, .pointer none]), 3, 24) := by kernel_rfl
theorem Ybad.info5 : (Ybad.prog.info? 5).map (fun i => (i.zero, i.size, i.bytes)) = some (some (.int .u8 0), 1, 1) := by kernel_rfl

theorem ret_bool {a b : Bool} (h : a = b) : Ending.returned (.bool a) = .returned (.bool b) := by rw [h]
theorem yield_end {gG gC base m : Nat} {v v' : Value} {ys : List Value} {w w1 : World} (hGC : gG ≠ gC) (hG : gG < base) (hC : gC < base)
    (HO : w1.ownsRow base 38 3 v' (m + 1) ys) (HK : Below base w w1) (dG : w1.cell? ⟨gG, 0, none⟩ = some v) (dC : w1.cell? ⟨gC, 0, none⟩ = some (.int .i64 m))
    (zG : w1.frozen? ⟨gG, 0, none⟩ = false) (zC : w1.frozen? ⟨gC, 0, none⟩ = false) :
    ((w1.setCell ⟨gG, 0, none⟩ v').setCell ⟨gC, 0, none⟩ (.int .i64 (↑m + 1))).cell? ⟨gG, 0, none⟩ = some v' ∧
    ((w1.setCell ⟨gG, 0, none⟩ v').setCell ⟨gC, 0, none⟩ (.int .i64 (↑m + 1))).ownsRow base 38 3 v' (m + 1) ys ∧
    ((w1.setCell ⟨gG, 0, none⟩ v').setCell ⟨gC, 0, none⟩ (.int .i64 (↑m + 1))).cell? ⟨gC, 0, none⟩ = some (.int .i64 (m + 1 : Nat)) ∧
    ((w1.setCell ⟨gG, 0, none⟩ v').setCell ⟨gC, 0, none⟩ (.int .i64 (↑m + 1))).frozen? ⟨gG, 0, none⟩ = false ∧
    ((w1.setCell ⟨gG, 0, none⟩ v').setCell ⟨gC, 0, none⟩ (.int .i64 (↑m + 1))).frozen? ⟨gC, 0, none⟩ = false ∧
    Keep gG gC base w ((w1.setCell ⟨gG, 0, none⟩ v').setCell ⟨gC, 0, none⟩ (.int .i64 (↑m + 1))) := by
  refine ⟨?_, ?_, ?_, ?_, ?_, ?_⟩
  · exact (World.cell?_setCell_other _ ⟨gC, 0, none⟩ ⟨gG, 0, none⟩ _ (fun e => hGC (Addr.mk.inj e).1.symm)).trans (World.cell?_setCell_same _ _ _ dG)
  · exact ownsRow_setCell_below (ownsRow_setCell_below HO hG _) hC _
  · exact World.cell?_setCell_same _ _ _ ((World.cell?_setCell_other _ ⟨gG, 0, none⟩ ⟨gC, 0, none⟩ _ (fun e => hGC (Addr.mk.inj e).1)).trans dC)
  · simpa using zG
  · simpa using zC
  · exact ((Keep.ofBelow HK).setG 0 _).setC 0 _

set_option maxHeartbeats 1000000 in
theorem yield_any (gG gC gS base m s : Nat) (h l : Int) (p : Option Addr) (v : Value) (xs : List Value) (w : World)
    (hcG : w.cell? ⟨gG, 0, none⟩ = some v) (hcC : w.cell? ⟨gC, 0, none⟩ = some (.int .i64 m)) (hcS : w.cell? ⟨gS, 0, none⟩ = some (.int .i64 s))
    (hfG : w.frozen? ⟨gG, 0, none⟩ = false) (hfC : w.frozen? ⟨gC, 0, none⟩ = false) (hown : w.ownsRow base 38 3 v m xs)
    (hGC : gG ≠ gC) (hGS : gG ≠ gS) (hCS : gC ≠ gS) (hG : gG < base) (hC : gC < base) (hS : gS < base) (hb : base ≤ w.heap.size) (hm : m ≤ 1048576) (hs : s ≤ 255) :
    Calls Ybad.prog 6 #[.agg #[.int .u64 h, .int .u64 l, .pointer p], .pointer (some ⟨gG, 0, none⟩), .pointer (some ⟨gC, 0, none⟩), .pointer (some ⟨gS, 0, none⟩)] w fun e w' =>
      ∃ v', e = .returned (.bool (decide (s = 0 ∨ m + 1 < s))) ∧ w'.cell? ⟨gG, 0, none⟩ = some v' ∧ w'.ownsRow base 38 3 v' (m + 1) (xs ++ [.int .u64 h, .int .u64 l, .pointer p]) ∧
        w'.cell? ⟨gC, 0, none⟩ = some (.int .i64 (m + 1 : Nat)) ∧ w'.frozen? ⟨gG, 0, none⟩ = false ∧ w'.frozen? ⟨gC, 0, none⟩ = false ∧ Keep gG gC base w w' := by
  obtain ⟨i0, hi, hz0, hz1, hz2⟩ := info_parts Ybad.info38
  have lG : gG < w.heap.size := by omega
  have lC : gC < w.heap.size := by omega
  have lS : gS < w.heap.size := by omega
  go_enter Ybad.func6, Ybad.ntmps6
  go_wp2_with (at_builtin; refine wpList_append_own _ rfl _ _ 27 rfl base 38 i0 (.agg #[.int .u64 0, .int .u64 0, .pointer none]) 3 24 Ybad.underlying27 hi hz0 hz1 hz2 rfl (by decide) _ _ _ rfl ((hown.alloc _).alloc _) ⟨w.heap.size + 1, 0, none⟩ 1 1 [.int .u64 h, .int .u64 l, .pointer p] rfl ?c0 ?c1 ?c2 ?c3 ?c4 ?c5 ?_)
  case c0 => rfl
  case c1 =>
    intro j u hj
    rw [Addr.add_lit, Nat.zero_add, World.cell?_alloc_at _ _ _ _ (by simp)]
    simpa using hj
  case c2 => intro u hu; simp at hu; rcases hu with rfl | rfl | rfl <;> rfl
  case c3 => unfold maxLen; omega
  case c4 => omega
  case c5 => simp; omega
  intro v' w1 hown' hgrow hnn
  have HO : Hid (w1.ownsRow base 38 3 v' (m + 1) (xs ++ [.int .u64 h, .int .u64 l, .pointer p])) := hown'
  obtain ⟨g, cap, cur, rfl, hbg, hgc, hmc⟩ : ∃ g cap cur, v' = .slice (some ⟨g, 0, none⟩) (m + 1) cap ∧ base ≤ g ∧ w1.heap[g]? = some (.cells cur 38 (0, 0)) ∧ m + 1 ≤ cap := by
    rcases hown'.2 with ⟨h1, _⟩ | ⟨g, cap, cur, h1, h2, h3, h4, _⟩
    · exact absurd h1 hnn
    · exact ⟨g, cap, cur, h1, h2, h3, h4⟩
  clear hown' hnn
  have HK : Hid (Below base w w1) := by
    refine ((((Below.refl base w).alloc hb _).alloc (by simp; omega) _).grown hgrow (by simp; omega) ?_)
    intro k hk
    exact (hown.lt k hk).1
  clear hgrow
  have dG : w1.cell? ⟨gG, 0, none⟩ = some v := (HK.out.cell (p := ⟨gG, 0, none⟩) hG).trans hcG
  have dC : w1.cell? ⟨gC, 0, none⟩ = some (.int .i64 m) := (HK.out.cell (p := ⟨gC, 0, none⟩) hC).trans hcC
  have dS : w1.cell? ⟨gS, 0, none⟩ = some (.int .i64 s) := (HK.out.cell (p := ⟨gS, 0, none⟩) hS).trans hcS
  have zG : w1.frozen? ⟨gG, 0, none⟩ = false := (HK.out.frozen (p := ⟨gG, 0, none⟩) hG).trans hfG
  have zC : w1.frozen? ⟨gC, 0, none⟩ = false := (HK.out.frozen (p := ⟨gC, 0, none⟩) hC).trans hfC
  have hGC' : ¬ gC = gG := fun e => hGC e.symm
  have hGS' : ¬ gS = gG := fun e => hGS e.symm
  have hCS' : ¬ gS = gC := fun e => hCS e.symm
  clear hgc hcG hcC hcS hfG hfC hown hi hz0 hz1 hz2
  go_wp2
  · have hs0 : s = 0 := by assumption
    go_ret
    exact ⟨_, ret_bool (by simp [hs0]), yield_end hGC hG hC HO.out HK.out dG dC zG zC⟩
  · have hs0 : ¬ s = 0 := by assumption
    go_ret
    refine ⟨_, ret_bool ?_, yield_end hGC hG hC HO.out HK.out dG dC zG zC⟩
    have e1 : ((s : Int) == 0) = false := by simp; omega
    rw [e1, Bool.false_or, decide_eq_decide]
    omega
end Go.Proofs.YbulkfcoyDoor
