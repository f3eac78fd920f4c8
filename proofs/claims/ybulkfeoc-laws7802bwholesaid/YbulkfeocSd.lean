import Derived.Test.YbulkfeocSc
import Derived.Deep.DeepCutAuto
import Derived.Deep.CutBlock
namespace Go.Proofs.Ybulkfeoc
open Go.RowKit Go.Conc Go.Conc.Locks Go.MuLone
set_option linter.unusedVariables false
set_option linter.unusedSimpArgs false

theorem wrap_in (x : Int) (h1 : -9223372036854775808 ≤ x) (h2 : x ≤ 9223372036854775807) : IntKind.i64.wrap x = x := by
  rw [IntKind.wrap_i64]; omega

theorem push_fin {w : World} {B G L m : Nat} {f : Nat → Value} (h : Fifo w B L m (some ⟨G, 0, none⟩) f) (hm : m < L) (hG : w.heap[G]? = some (.cells (fillV L f (.pointer none) m) 80 (0, 0))) (hGB : G ≠ B) (hp : Pow L) :
    Fifo ((w.setCell ⟨G, m, none⟩ (f m)).setCell ⟨B, 326, none⟩ (.int .i64 ((m + 1 : Nat) : Int))) B L (m + 1) (some ⟨G, 0, none⟩) f ∧
    Kept (fun k => k = B ∨ k = G) w ((w.setCell ⟨G, m, none⟩ (f m)).setCell ⟨B, 326, none⟩ (.int .i64 ((m + 1 : Nat) : Int))) ∧
    Side w ((w.setCell ⟨G, m, none⟩ (f m)).setCell ⟨B, 326, none⟩ (.int .i64 ((m + 1 : Nat) : Int))) B := by
  have c : ∀ o, (w.setCell ⟨G, m, none⟩ (f m)).cell? ⟨B, o, none⟩ = w.cell? ⟨B, o, none⟩ := fun o => World.cell?_setCell_other _ _ _ _ (fun e => hGB (Addr.mk.inj e).1)
  refine ⟨⟨?_, ?_, ?_, hm, h.nil, fun _ => ⟨hp, G, rfl, hGB, ?_⟩, fun o => ?_⟩, ?_, ?_⟩
  · rw [cell_setCell_ne _ _ _ _ _ (by omega), c]; exact h.buf
  · rw [cell_setCell_ne _ _ _ _ _ (by omega), c]; exact h.head
  · exact World.cell?_setCell_same _ _ _ ((c 326).trans h.num)
  · rw [heap_setCell_other _ _ _ _ (by show G ≠ B; exact hGB), heap_setCell_same _ _ _ _ _ _ hG, fillV_set]
  · rw [frozen_setCell, frozen_setCell]; exact h.free o
  · exact ((Kept.refl (fun k => k = B ∨ k = G) w).setCell G m _ (.inl (.inr rfl))).setCell B 326 _ (.inl (.inl rfl))
  · intro o ho
    rw [cell_setCell_ne _ _ _ _ _ (by omega), c]

set_option maxRecDepth 10000 in
set_option maxHeartbeats 2000000 in
theorem push6 (B L m g : Nat) (a : Option Addr) (f : Nat → Value) (w : World) (hf : ∀ i, (f i).oneCell' = true) (hfm : f m = .pointer (some ⟨g, 0, none⟩)) (h : Fifo w B L m a f) (hm : m ≤ 300) :
    Calls Yba.prog 6 #[.pointer (some ⟨B, 324, none⟩), .pointer (some ⟨g, 0, none⟩)] w fun e w' => e = .returned (.tuple #[]) ∧ ∃ L' a', Fifo w' B L' (m + 1) a' f ∧ Kept (fun k => k = B ∨ a = some ⟨k, 0, none⟩) w w' ∧ Side w w' B ∧ (a' = a ∨ a' = some ⟨w.heap.size, 0, none⟩) := by
  have hB : B < w.heap.size := block_lt_of_cell h.buf
  have H := hide h
  have HF := hide hf
  have h1 := h.buf
  have h3 := h.num
  have hle := h.le
  have HV := hide hfm
  clear h hf hfm
  go_enter Yba.func6, Yba.ntmps6
  go_wp2_with fail
  refine (load64 B 326 m _ h3).mono ?_
  rintro e w' ⟨rfl, hw'⟩
  rw [hw']
  clear hw' w'
  go_upto_if 15 with fail
  go_cut [] (fun wc => ∃ L' a', Fifo wc B L' m a' f ∧ m < L' ∧ Kept (fun k => k = B) w wc ∧ Side w wc B ∧ (a' = a ∨ a' = some ⟨w.heap.size, 0, none⟩))
  case first =>
    by_cases he : (m : Int) = (L : Int)
    · have he' : ((m : Int) == (L : Int)) = true := by simpa using he
      have hml : m = L := by omega
      by_cases hL0 : L = 0
      · have hh := H.out
        have ea := hh.nil hL0
        rw [hml, hL0, ea] at hh
        clear ea
        have HH := hide hh
        have HE := hide he
        have HL := hide hL0
        have HM := hide hml
        clear hh he hml hL0
        go_wp2_with fail
        refine (grow_nil B f w HH.out).mono ?_
        rintro e w1 ⟨rfl, r1, r2, r3⟩
        have R1 := hide r1
        have R2 := hide r2
        have R3 := hide r3
        clear r1 r2 r3
        go_wp2
        go_meet
        have hr := R1.out
        rw [← HL.out, ← HM.out] at hr
        exact ⟨16, _, by rw [HM.out, HL.out]; exact R1.out, by have := HM.out; have := HL.out; omega, R2.out, R3.out, .inr rfl⟩
      · obtain ⟨hp, G, ha, hGB, hG⟩ := H.out.row hL0
        have hh := H.out
        rw [hml, ha] at hh
        have HH := hide hh
        have HM := hide hml
        have HP := hide hp
        have hL256 : Hid (L ≤ 256) := by rcases hp with rfl | rfl | rfl | rfl | rfl | rfl <;> simp [Hid] <;> omega
        have hL16 : Hid (16 ≤ L) := by rcases hp with rfl | rfl | rfl | rfl | rfl | rfl <;> simp [Hid]
        clear hh he hml hL0 hp ha hGB hG
        go_wp2_with fail
        refine (grow_full B G L f w HF.out HH.out HP.out hL256.out).mono ?_
        rintro e w1 ⟨rfl, r1, r2, r3⟩
        have R1 := hide r1
        have R2 := hide r2
        have R3 := hide r3
        clear r1 r2 r3
        go_wp2
        go_meet
        exact ⟨2 * L, _, by rw [HM.out]; exact R1.out, by have := HM.out; have := hL16.out; omega, R2.out, R3.out, .inr rfl⟩
    · have he' : ((m : Int) == (L : Int)) = false := by simpa using he
      have HE := hide he
      clear he
      go_wp2
      go_meet
      exact ⟨L, a, H.out, by have := HE.out; omega, Kept.refl _ _, fun _ _ => rfl, .inl rfl⟩
  case rest =>
    obtain ⟨L', a', hF', hmL, kp, sd, ha'⟩ := hcut
    obtain ⟨hp, G, rfl, hGB, hG⟩ := hF'.row (by omega)
    have HFF := hide hF'
    have HP := hide hp
    have HG := hide hG
    have HK := hide kp
    have HSD := hide sd
    have HAA := hide ha'
    have z1 := hF'.buf
    have z2 := hF'.head
    have z3 : wc.cell? ⟨G, m, none⟩ = some (.pointer none) := (cell_of_row _ _ _ _ _ _ hG).trans (fillV_at _ _ _ _ hmL)
    have z4 : wc.frozen? ⟨G, m, none⟩ = false := frozen_of_row _ _ _ _ _ hG
    have k1 : bits .and .i64 (m : Int) ((L' : Int) - 1) = (m : Int) := by rw [mask m L' hp (by omega), Nat.mod_eq_of_lt hmL]
    have hL512 : L' ≤ 512 := by rcases hp with rfl | rfl | rfl | rfl | rfl | rfl <;> omega
    have k2 : (m : Int) < (L' : Int) := by omega
    have k3 : IntKind.i64.wrap ((L' : Int) - 1) = (L' : Int) - 1 := wrap_in _ (by omega) (by omega)
    have k4 : IntKind.i64.wrap (m : Int) = (m : Int) := wrap_in _ (by omega) (by omega)
    clear hF' hp hG kp sd ha' h1 h3
    go_wp2_with fail
    go_region
    go_wp2_with fail
    refine (store64 B 326 ((m : Int) + 1) (.int .i64 m) _ ?_ ?_).mono ?_
    · exact (World.cell?_setCell_other _ _ _ _ (fun e => hGB (Addr.mk.inj e).1)).trans HFF.out.num
    · exact (frozen_setCell _ _ _ _ _).trans (HFF.out.free 326)
    rintro e w2 ⟨rfl, hw2⟩
    have HW2 := hide hw2
    clear hw2
    go_wp2
    go_end0
    obtain ⟨p1, p2, p3⟩ := push_fin HFF.out hmL HG.out hGB HP.out
    rw [HV.out] at p1 p2 p3
    have eh : w2.heap = ((wc.setCell ⟨G, m, none⟩ (.pointer (some ⟨g, 0, none⟩))).setCell ⟨B, 326, none⟩ (.int .i64 ((m + 1 : Nat) : Int))).heap := by rw [HW2.out]; rfl
    have k2' : Kept (fun k => k = B ∨ k = G) wc w2 := p2.of_heap eh (by rw [HW2.out]; rfl) (by rw [HW2.out]; rfl) (by rw [HW2.out]; rfl)
    refine ⟨rfl, L', _, p1.of_heap eh, ⟨k2'.os.trans HK.out.os, k2'.tape.trans HK.out.tape, k2'.output.trans HK.out.output, Nat.le_trans HK.out.size k2'.size, fun k hk hs => ?_⟩, fun o ho => ((p3.of_heap eh) o ho).trans (HSD.out o ho), HAA.out⟩
    refine (k2'.block k (Nat.lt_of_lt_of_le hk HK.out.size) fun hk2 => ?_).trans (HK.out.block k hk fun e => hs (.inl e))
    rcases hk2 with e | e
    · exact hs (.inl e)
    · rcases HAA.out with e2 | e2
      · exact hs (.inr (by rw [← e2, e]))
      · have := (Addr.mk.inj (Option.some.inj e2)).1
        omega
end Go.Proofs.Ybulkfeoc
