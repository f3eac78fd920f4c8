import Derived.Test.YbulkfcoyDoorHe
namespace Go.Proofs.YbulkfcoyDoor
open Go.RowKit
set_option linter.unusedVariables false
set_option linter.unusedSimpArgs false

set_option maxHeartbeats 8000000 in
theorem law_16 (a0 : Option Addr) (n0 c0 : Nat) (x0 : Nat → Int) (s : Nat) (pr : Int) (a4 : Option Addr) (n4 c4 : Nat) (x4 : Nat → Int) (a5 : Option Addr) (n5 c5 : Nat) (x5 : Nat → Int) (p4 p6 : Option Addr) (w : World)
    (b0 : IsB w a0 n0 c0 x0) (b4 : IsB w a4 n4 c4 x4) (b5 : IsB w a5 n5 c5 x5) (g4 : w.cell? ⟨0, 0, none⟩ = some (.pointer p4)) (g6 : w.cell? ⟨1, 0, none⟩ = some (.pointer p6)) (hs : s ≤ 255)
    (hsm : n0 + n4 + n5 ≤ 1048576) :
    Calls Ybad.prog 3 #[.slice a0 n0 c0, .bool true, .int .u8 s, .int .u16 pr, .slice a4 n4 c4, .slice a5 n5 c5] w fun e w' => e = .returned (.bool true) ∧ Below w.heap.size w w' := by
  obtain ⟨i0, hi, hz0, hz1, hz2⟩ := info_parts Ybad.info5
  have hsz1 : (Ybad.prog.info? 5).map (·.size) = some 1 := by rw [hi]; simp [hz1]
  have hc0 := b0.cap
  have hle0 := b0.le
  unfold maxLen at hc0
  have B0 : Hid (IsB w a0 n0 c0 x0) := b0
  have B4 : Hid (IsB w a4 n4 c4 x4) := b4
  have B5 : Hid (IsB w a5 n5 c5 x5) := b5
  have G4 : Hid (w.cell? ⟨0, 0, none⟩ = some (.pointer p4)) := g4
  have G6 : Hid (w.cell? ⟨1, 0, none⟩ = some (.pointer p6)) := g6
  have hw1 : 1 < w.heap.size := block_lt_of_cell g6
  clear b0 b4 b5 g4 g6
  have hn0 : n0 / 16 * 16 ≤ n0 := by omega
  have hdt : decide ((1048576 : Int) < (n0 : Int) + (n4 : Int) + (n5 : Int)) = false := decide_eq_false (by omega)
  go_enter Ybad.func3, Ybad.ntmps3
  go_wp2_with (first
    | (at_make; refine wpList_make_full _ rfl (.tmp 42) (.tmp 42) 22 rfl w.heap.size 5 i0 (.int .u8 0) 1 Ybad.underlying22 hi hz0 hz1 _ _ _ _ (n0 / 16 * 16) rfl rfl (by omega) (by omega) (by rw [hz2]; omega) (by unfold maxLen; omega) (Nat.le_refl _) ?_; intro w1 own1 gr1; have HG1 := hide (own_full own1); have HB1 := hide (below_of_grown gr1); clear own1 gr1)
    | (refine wpList_copy_splice rfl (.tmp 44) (.tmp 47) 22 22 rfl 5 Ybad.underlying22 hsz1 _ _ _ _ _ _ rfl rfl w.heap.size 0 _ 5 HG1.out (bs x0 (n0 / 16 * 16)) (by rw [bs_length]; simp [Nat.min_def]) (copy_pos B0.out HB1.out _ hn0) (by rw [bs_length, made_length]; omega) (bs_one _ _) w.heap.size w HB1.out (Nat.le_refl _) ?_; intro w2 HG2 HB2'; have HB2 := hide HB2'; clear HB2'; rw [splice_full _ _ (by rw [bs_length, made_length]; omega)] at HG2)
    | (at_make; refine wpList_make_full _ rfl (.tmp 49) (.tmp 49) 22 rfl w2.heap.size 5 i0 (.int .u8 0) 1 Ybad.underlying22 hi hz0 hz1 _ _ _ _ (n0 / 16 * 16) rfl rfl (by omega) (by omega) (by rw [hz2]; omega) (by unfold maxLen; omega) (Nat.le_refl _) ?_; intro w3 own3 gr3; have HG3 := hide (own_full own3); have HB3 := hide (below_of_grown gr3); clear own3 gr3)
    | (refine wpList_copy_splice rfl (.tmp 51) (.tmp 54) 22 22 rfl 5 Ybad.underlying22 hsz1 _ _ _ _ _ _ rfl rfl w2.heap.size 0 _ 5 HG3.out (bs x0 (n0 / 16 * 16)) (by rw [bs_length]; simp [Nat.min_def]) (copy_pos B0.out (HB2.out.trans (HB3.out.mono HB2.out.size)) _ hn0) (by rw [bs_length, made_length]; omega) (bs_one _ _) w2.heap.size w2 HB3.out (Nat.le_refl _) ?_; intro w4 HG4 HB4'; have HB4 := hide HB4'; clear HB4'; rw [splice_full _ _ (by rw [bs_length, made_length]; omega)] at HG4)
    | (go_at_call_of 4 (Value.slice a4 n4 c4); refine (clone_any a4 n4 c4 x4 _ (B4.out.below (HB2.out.trans (HB4.out.mono HB2.out.size))) (by omega)).mono ?_; rintro e w5 ⟨v4, rfl, own5', bl5'⟩; obtain ⟨ao4, cp4, rfl⟩ := own_form own5'; have HO5 := hide own5'; have HB5 := hide bl5'; clear own5' bl5')
    | (go_at_call_of 4 (Value.slice a5 n5 c5); refine (clone_any a5 n5 c5 x5 _ (B5.out.below ((HB2.out.trans (HB4.out.mono HB2.out.size)).trans (HB5.out.mono (Nat.le_trans HB2.out.size HB4.out.size)))) (by omega)).mono ?_; rintro e w6 ⟨v5, rfl, own6', bl6'⟩; obtain ⟨ao5, cp5, rfl⟩ := own_form own6'; have HO6 := hide own6'; have HB6 := hide bl6'; clear own6' bl6')
    | (go_at_call 5; go_in))
  obtain ⟨f0, f1, f2, f3, f4, f5, f6⟩ := five w6 _ _ _ _ _
  have HX : Hid (∀ j, j < n0 / 16 * 16 → w6.cell? ⟨w.heap.size, j, none⟩ = some (.int .u8 (x0 j))) := by
    intro j hj
    have h1 : w6.heap[w.heap.size]? = some (.cells (bs x0 (n0 / 16 * 16)).toArray 5 (0, 0)) := by
      have e2 := HG2.out
      have l2 : w.heap.size < w2.heap.size := (Array.getElem?_eq_some_iff.1 e2).1
      have l4 := HB4.out.size
      have l5 := HB5.out.size
      rw [HB6.out.block _ (by omega), HB5.out.block _ (by omega), HB4.out.block _ (by omega)]
      exact e2
    rw [cell_of_row _ _ _ _ _ _ h1]
    simpa using bs_get x0 _ j hj
  have l1 := HB2.out.size
  have l2 : w.heap.size < w2.heap.size := (Array.getElem?_eq_some_iff.1 HG2.out).1
  have l4 : w2.heap.size < w4.heap.size := (Array.getElem?_eq_some_iff.1 HG4.out).1
  have l5 := HB5.out.size
  have l6 := HB6.out.size
  have HW6 : Hid (Below w.heap.size w w6) := ((HB2.out.trans (HB4.out.mono (by omega))).trans (HB5.out.mono (by omega))).trans (HB6.out.mono (by omega))
  refine (iter_any true (w6.heap.size + 1 + 1) (w6.heap.size + 1 + 1 + 1) (w6.heap.size + 1) (w6.heap.size + 1 + 1 + 1 + 1) w.heap.size (w6.heap.size + 5) (n0 / 16 * 16) (n0 / 16) s x0 p4 p6 _ ?_ ?_ ?_ ?_ ?_ ?_ ?_ ?_ ?_ ?_
    (by omega) (by omega) (by omega) (by omega) (by omega) (by omega) (by omega) (by omega) (by omega) (by omega) (by omega) (by omega) (by omega) (by omega) ?_ rfl (by omega) hs).mono ?_
  · exact (cell_of_row _ _ _ _ _ _ f2).trans rfl
  · exact (cell_of_row _ _ _ _ _ _ f3).trans rfl
  · exact (cell_of_row _ _ _ _ _ _ f1).trans rfl
  · exact (cell_of_row _ _ _ _ _ _ f4).trans rfl
  · exact (cell_of_row _ _ _ _ _ _ f4).trans rfl
  · exact (f5.cell (p := ⟨0, 0, none⟩) (by show 0 < _; omega)).trans ((HW6.out.cell (p := ⟨0, 0, none⟩) (by show 0 < _; omega)).trans G4.out)
  · exact (f5.cell (p := ⟨1, 0, none⟩) (by show 1 < _; omega)).trans ((HW6.out.cell (p := ⟨1, 0, none⟩) (by show 1 < _; omega)).trans G6.out)
  · intro j hj
    exact (f5.cell (p := ⟨w.heap.size, j, none⟩) (by show w.heap.size < _; omega)).trans (HX.out j hj)
  · exact frozen_of_row _ _ _ _ _ f2
  · exact frozen_of_row _ _ _ _ _ f3
  · exact Nat.le_of_eq f6.symm
  rintro e w8 ⟨rfl, v8, cG8, own8, cC8, kp8⟩
  have cS8 : w8.cell? ⟨w6.heap.size + 1, 0, none⟩ = some (.int .i64 s) := (kp8.cell (p := ⟨w6.heap.size + 1, 0, none⟩) (by show w6.heap.size + 1 < _; omega) (by show w6.heap.size + 1 ≠ _; omega) (by show w6.heap.size + 1 ≠ _; omega)).trans ((cell_of_row _ _ _ _ _ _ f1).trans rfl)
  have HB8 : Hid (Below w6.heap.size w6 w8) := below_of_keep f5 kp8 (by omega) (by omega) (by omega)
  have l8 := HB8.out.size
  have l8' : w6.heap.size + 5 ≤ w8.heap.size := by have := kp8.size; omega
  clear kp8 f0 f1 f2 f3 f4 f5 f6
  have HX8 : Hid (∀ j, j < n0 / 16 * 16 → w8.cell? ⟨w2.heap.size, j, none⟩ = some (.int .u8 (x0 j))) := by
    intro j hj
    have h1 : w8.heap[w2.heap.size]? = some (.cells (bs x0 (n0 / 16 * 16)).toArray 5 (0, 0)) := by
      rw [HB8.out.block _ (by omega), HB6.out.block _ (by omega), HB5.out.block _ (by omega)]
      exact HG4.out
    rw [cell_of_row _ _ _ _ _ _ h1]
    simpa using bs_get x0 _ j hj
  have G48 : Hid (w8.cell? ⟨0, 0, none⟩ = some (.pointer p4)) := (HB8.out.cell (p := ⟨0, 0, none⟩) (by show 0 < _; omega)).trans ((HW6.out.cell (p := ⟨0, 0, none⟩) (by show 0 < _; omega)).trans G4.out)
  have G68 : Hid (w8.cell? ⟨1, 0, none⟩ = some (.pointer p6)) := (HB8.out.cell (p := ⟨1, 0, none⟩) (by show 1 < _; omega)).trans ((HW6.out.cell (p := ⟨1, 0, none⟩) (by show 1 < _; omega)).trans G6.out)
  obtain ⟨m, hm⟩ : ∃ m, m = wantN s (n0 / 16) := ⟨_, rfl⟩
  rw [← hm] at cC8 own8
  have HM := hide hm
  clear hm
  rcases own_cases own8 with ⟨hm0, rfl⟩ | ⟨g8, cp8, rfl, hg8, hg8', hmc, hcl⟩
  · have hcase : ¬ (0 < s ∧ s < n0 / 16) := fun h => by
      have h1 : m = s := by rw [HM.out]; exact if_pos h
      omega
    obtain rfl : m = n0 / 16 := by rw [HM.out]; exact if_neg hcase
    clear own8
    have hz : ¬ (0 : Int) < (n0 : Int) / 16 := by omega
    have hm1 : n0 / 16 ≤ 0 := by omega
    clear hcase hm0
    by_cases hs0 : 0 < s
    · have hdec : decide ((s : Int) < (n0 : Int) / 16) = false := decide_eq_false (by omega)
      go_wp2_with fail
      go_loopw [25] (fun j wr => ∃ k : Nat, k ≤ (n0 / 16) ∧ j = .int .i64 k ∧ Below w8.heap.size w8 wr) (fun j _ => (n0 / 16) - (intOf j).toNat)
      case atStart => exact ⟨0, Nat.zero_le _, rfl, Below.refl _ _⟩
      case round =>
          obtain ⟨k, hk, rfl, hbr⟩ := hrel
          have HR := hide hbr
          clear hbr
          by_cases hlt : k < (n0 / 16)
          · exact absurd hlt (by omega)
          · have lr := HR.out.size
            have HT : Hid (Below w6.heap.size w6 wr) := HB8.out.trans (HR.out.mono l8)
            clear cS8 cG8 cC8
            go_wp2_with fail
            refine (equal_same w.heap.size 0 w2.heap.size 0 (n0 / 16 * 16) _ _ x0 _ (by unfold maxLen; omega) (fun j hj => ?_) (fun j hj => ?_)).mono ?_
            · rw [Nat.zero_add]; exact (HT.out.cell (p := ⟨w.heap.size, j, none⟩) (by show w.heap.size < _; omega)).trans (HX.out j hj)
            · rw [Nat.zero_add]; exact (HR.out.cell (p := ⟨w2.heap.size, j, none⟩) (by show w2.heap.size < _; omega)).trans (HX8.out j hj)
            rintro e w10 ⟨rfl, q10, rfl⟩
            go_wp2_with fail
            refine (equal_own w4.heap.size (.slice ao4 n4 cp4) a4 n4 c4 x4 _ ?_ ?_).mono ?_
            · exact own_draws (own_below HO5.out (HB6.out.trans (HT.out.mono l6))) _
            · exact (B4.out.below (HW6.out.trans (HT.out.mono (by omega)))).below (below_drewN (Below.refl _ _) _)
            rintro e w11 ⟨rfl, q11, rfl⟩
            go_wp2_with fail
            refine (equal_own w5.heap.size (.slice ao5 n5 cp5) a5 n5 c5 x5 _ ?_ ?_).mono ?_
            · exact own_draws (own_below HO6.out HT.out) _
            · exact (B5.out.below (HW6.out.trans (HT.out.mono (by omega)))).below (below_drewN (Below.refl _ _) _)
            rintro e w12 ⟨rfl, q12, rfl⟩
            go_wp2
            go_ret
            exact ⟨rfl, below_drewN (HW6.out.trans (HT.out.mono (by omega))) _⟩
    · skip
      go_wp2_with fail
      go_loopw [25] (fun j wr => ∃ k : Nat, k ≤ (n0 / 16) ∧ j = .int .i64 k ∧ Below w8.heap.size w8 wr) (fun j _ => (n0 / 16) - (intOf j).toNat)
      case atStart => exact ⟨0, Nat.zero_le _, rfl, Below.refl _ _⟩
      case round =>
          obtain ⟨k, hk, rfl, hbr⟩ := hrel
          have HR := hide hbr
          clear hbr
          by_cases hlt : k < (n0 / 16)
          · exact absurd hlt (by omega)
          · have lr := HR.out.size
            have HT : Hid (Below w6.heap.size w6 wr) := HB8.out.trans (HR.out.mono l8)
            clear cS8 cG8 cC8
            go_wp2_with fail
            refine (equal_same w.heap.size 0 w2.heap.size 0 (n0 / 16 * 16) _ _ x0 _ (by unfold maxLen; omega) (fun j hj => ?_) (fun j hj => ?_)).mono ?_
            · rw [Nat.zero_add]; exact (HT.out.cell (p := ⟨w.heap.size, j, none⟩) (by show w.heap.size < _; omega)).trans (HX.out j hj)
            · rw [Nat.zero_add]; exact (HR.out.cell (p := ⟨w2.heap.size, j, none⟩) (by show w2.heap.size < _; omega)).trans (HX8.out j hj)
            rintro e w10 ⟨rfl, q10, rfl⟩
            go_wp2_with fail
            refine (equal_own w4.heap.size (.slice ao4 n4 cp4) a4 n4 c4 x4 _ ?_ ?_).mono ?_
            · exact own_draws (own_below HO5.out (HB6.out.trans (HT.out.mono l6))) _
            · exact (B4.out.below (HW6.out.trans (HT.out.mono (by omega)))).below (below_drewN (Below.refl _ _) _)
            rintro e w11 ⟨rfl, q11, rfl⟩
            go_wp2_with fail
            refine (equal_own w5.heap.size (.slice ao5 n5 cp5) a5 n5 c5 x5 _ ?_ ?_).mono ?_
            · exact own_draws (own_below HO6.out HT.out) _
            · exact (B5.out.below (HW6.out.trans (HT.out.mono (by omega)))).below (below_drewN (Below.refl _ _) _)
            rintro e w12 ⟨rfl, q12, rfl⟩
            go_wp2
            go_ret
            exact ⟨rfl, below_drewN (HW6.out.trans (HT.out.mono (by omega))) _⟩
  · have HL := hide hcl
    clear hcl own8
    by_cases hcase : 0 < s ∧ s < n0 / 16
    · obtain rfl : m = s := by rw [HM.out]; exact if_pos hcase
      obtain ⟨hc1, hc2⟩ := hcase
      have hdec : decide ((m : Int) < (n0 : Int) / 16) = true := decide_eq_true (by omega)
      go_wp2_with fail
      go_loopw [25] (fun j wr => ∃ k : Nat, k ≤ m ∧ j = .int .i64 k ∧ Below w8.heap.size w8 wr) (fun j _ => m - (intOf j).toNat)
      case atStart => exact ⟨0, Nat.zero_le _, rfl, Below.refl _ _⟩
      case round =>
          obtain ⟨k, hk, rfl, hbr⟩ := hrel
          have HR := hide hbr
          clear hbr
          by_cases hlt : k < m
          · have cGr : wr.cell? ⟨w6.heap.size + 1 + 1, 0, none⟩ = some (.slice (some ⟨g8, 0, none⟩) m cp8) := (HR.out.cell (p := ⟨w6.heap.size + 1 + 1, 0, none⟩) (by show w6.heap.size + 1 + 1 < _; omega)).trans cG8
            obtain ⟨q0, q1, q2⟩ := vals_at true x0 p4 p6 m k hlt
            have e0 : wr.cell? ⟨g8, k * 3, none⟩ = some (.int .u64 (hiOf true x0 (k * 16))) := (HR.out.cell (p := ⟨g8, k * 3, none⟩) hg8').trans (HL.out _ _ q0)
            have e1 : wr.cell? ⟨g8, k * 3 + 1, none⟩ = some (.int .u64 (loOf true x0 (k * 16))) := (HR.out.cell (p := ⟨g8, k * 3 + 1, none⟩) hg8').trans (HL.out _ _ q1)
            have e2 : wr.cell? ⟨g8, k * 3 + 2, none⟩ = some (.pointer (ptOf true p4 p6)) := (HR.out.cell (p := ⟨g8, k * 3 + 2, none⟩) hg8').trans (HL.out _ _ q2)
            clear q0 q1 q2
            have hneq := fun w => neq38 (hiOf true x0 (k * 16)) (loOf true x0 (k * 16)) (ptOf true p4 p6) w
            have hgd : Ybad.prog.eqGuardType Ybad.prog.depth 38 = false := by kernel_rfl
            have hgr : g8 < wr.heap.size := Nat.lt_of_lt_of_le hg8' HR.out.size
            have lr := HR.out.size
            have hkn : k * 16 + 16 ≤ n0 / 16 * 16 := by omega
            have i1 : (0 : Int) ≤ (k : Int) * 16 := by omega
            have i2 : (k : Int) * 16 ≤ ((k : Int) + 1) * 16 := by omega
            have i3 : ((k : Int) + 1) * 16 ≤ (n0 : Int) / 16 * 16 := by omega
            have i4 : ((k : Int) + 1) * 16 ≤ ((n0 / 16 * 16 : Nat) : Int) := by omega
            have i5 : ¬ n0 / 16 * 16 = k * 16 := by omega
            have i6 : ¬ n0 / 16 = k := by omega
            have z1 : IntKind.i64.wrap ((k : Int) * 16) = (k : Int) * 16 := wrap_in _ (by omega) (by omega)
            have z2 : IntKind.i64.wrap ((k : Int) + 1) = (k : Int) + 1 := wrap_in _ (by omega) (by omega)
            have z3 : IntKind.i64.wrap (((k : Int) + 1) * 16) = ((k : Int) + 1) * 16 := wrap_in _ (by omega) (by omega)
            go_wp2_with fail
            go_region_held (fun w' => w'.cell? ⟨w6.heap.size + 1 + 1, 0, none⟩ = some (.slice (some ⟨g8, 0, none⟩) m cp8) ∧ w'.cell? ⟨g8, k * 3, none⟩ = some (.int .u64 (hiOf true x0 (k * 16))) ∧ w'.cell? ⟨g8, k * 3 + 1, none⟩ = some (.int .u64 (loOf true x0 (k * 16))) ∧ w'.cell? ⟨g8, k * 3 + 2, none⟩ = some (.pointer (ptOf true p4 p6))) (go_keep)
              ((go_at_call 7; have ez : (k + 1) * 16 - k * 16 = szOf true := (show (k + 1) * 16 - k * 16 = 16 by omega); rw [ez]; refine (model_any true w2.heap.size (k * 16) _ x0 p4 p6 _ ?_ ?_ ?_).mono ?_; exact (HR.out.cell (p := ⟨0, 0, none⟩) (by show 0 < _; omega)).trans G48.out; exact (HR.out.cell (p := ⟨1, 0, none⟩) (by show 1 < _; omega)).trans G68.out; exact fun j hj => (HR.out.cell (p := ⟨w2.heap.size, k * 16 + j, none⟩) (by show w2.heap.size < _; omega)).trans (HX8.out _ (by have hj' : j < 16 := hj; omega)); rintro e w9 ⟨rfl, hb9⟩; have t0 := (hb9.cell (p := ⟨w6.heap.size + 1 + 1, 0, none⟩) (by show w6.heap.size + 1 + 1 < wr.heap.size; omega)).trans cGr; have t1 := (hb9.cell (p := ⟨g8, k * 3, none⟩) hgr).trans e0; have t2 := (hb9.cell (p := ⟨g8, k * 3 + 1, none⟩) hgr).trans e1; have t3 := (hb9.cell (p := ⟨g8, k * 3 + 2, none⟩) hgr).trans e2; have HB9 := hide hb9; clear hb9))
            have HR9 : Hid (Below w8.heap.size w8 w9) := HR.out.drew.trans (HB9.out.mono lr)
            go_wp2
            go_roundw
            case rel => first | exact ⟨k + 1, by omega, by go_num, HR9.out⟩ | ((repeat apply Exists.intro); exact ⟨⟨k + 1, by omega, by go_num, HR9.out⟩, rfl⟩)
            case measure => simp [intOf]; omega
          · have lr := HR.out.size
            have HT : Hid (Below w6.heap.size w6 wr) := HB8.out.trans (HR.out.mono l8)
            clear cS8 cG8 cC8
            go_wp2_with fail
            refine (equal_same w.heap.size 0 w2.heap.size 0 (n0 / 16 * 16) _ _ x0 _ (by unfold maxLen; omega) (fun j hj => ?_) (fun j hj => ?_)).mono ?_
            · rw [Nat.zero_add]; exact (HT.out.cell (p := ⟨w.heap.size, j, none⟩) (by show w.heap.size < _; omega)).trans (HX.out j hj)
            · rw [Nat.zero_add]; exact (HR.out.cell (p := ⟨w2.heap.size, j, none⟩) (by show w2.heap.size < _; omega)).trans (HX8.out j hj)
            rintro e w10 ⟨rfl, q10, rfl⟩
            go_wp2_with fail
            refine (equal_own w4.heap.size (.slice ao4 n4 cp4) a4 n4 c4 x4 _ ?_ ?_).mono ?_
            · exact own_draws (own_below HO5.out (HB6.out.trans (HT.out.mono l6))) _
            · exact (B4.out.below (HW6.out.trans (HT.out.mono (by omega)))).below (below_drewN (Below.refl _ _) _)
            rintro e w11 ⟨rfl, q11, rfl⟩
            go_wp2_with fail
            refine (equal_own w5.heap.size (.slice ao5 n5 cp5) a5 n5 c5 x5 _ ?_ ?_).mono ?_
            · exact own_draws (own_below HO6.out HT.out) _
            · exact (B5.out.below (HW6.out.trans (HT.out.mono (by omega)))).below (below_drewN (Below.refl _ _) _)
            rintro e w12 ⟨rfl, q12, rfl⟩
            go_wp2
            go_ret
            exact ⟨rfl, below_drewN (HW6.out.trans (HT.out.mono (by omega))) _⟩
    · obtain rfl : m = n0 / 16 := by rw [HM.out]; exact if_neg hcase
      by_cases hs0 : 0 < s
      · have hs1 : n0 / 16 ≤ s := by omega
        have hdec : decide ((s : Int) < (n0 : Int) / 16) = false := decide_eq_false (by omega)
        clear hcase
        go_wp2_with fail
        go_loopw [25] (fun j wr => ∃ k : Nat, k ≤ (n0 / 16) ∧ j = .int .i64 k ∧ Below w8.heap.size w8 wr) (fun j _ => (n0 / 16) - (intOf j).toNat)
        case atStart => exact ⟨0, Nat.zero_le _, rfl, Below.refl _ _⟩
        case round =>
            obtain ⟨k, hk, rfl, hbr⟩ := hrel
            have HR := hide hbr
            clear hbr
            by_cases hlt : k < (n0 / 16)
            · have cGr : wr.cell? ⟨w6.heap.size + 1 + 1, 0, none⟩ = some (.slice (some ⟨g8, 0, none⟩) (n0 / 16) cp8) := (HR.out.cell (p := ⟨w6.heap.size + 1 + 1, 0, none⟩) (by show w6.heap.size + 1 + 1 < _; omega)).trans cG8
              obtain ⟨q0, q1, q2⟩ := vals_at true x0 p4 p6 (n0 / 16) k hlt
              have e0 : wr.cell? ⟨g8, k * 3, none⟩ = some (.int .u64 (hiOf true x0 (k * 16))) := (HR.out.cell (p := ⟨g8, k * 3, none⟩) hg8').trans (HL.out _ _ q0)
              have e1 : wr.cell? ⟨g8, k * 3 + 1, none⟩ = some (.int .u64 (loOf true x0 (k * 16))) := (HR.out.cell (p := ⟨g8, k * 3 + 1, none⟩) hg8').trans (HL.out _ _ q1)
              have e2 : wr.cell? ⟨g8, k * 3 + 2, none⟩ = some (.pointer (ptOf true p4 p6)) := (HR.out.cell (p := ⟨g8, k * 3 + 2, none⟩) hg8').trans (HL.out _ _ q2)
              clear q0 q1 q2
              have hneq := fun w => neq38 (hiOf true x0 (k * 16)) (loOf true x0 (k * 16)) (ptOf true p4 p6) w
              have hgd : Ybad.prog.eqGuardType Ybad.prog.depth 38 = false := by kernel_rfl
              have hgr : g8 < wr.heap.size := Nat.lt_of_lt_of_le hg8' HR.out.size
              have lr := HR.out.size
              have hkn : k * 16 + 16 ≤ n0 / 16 * 16 := by omega
              have i1 : (0 : Int) ≤ (k : Int) * 16 := by omega
              have i2 : (k : Int) * 16 ≤ ((k : Int) + 1) * 16 := by omega
              have i3 : ((k : Int) + 1) * 16 ≤ (n0 : Int) / 16 * 16 := by omega
              have i4 : ((k : Int) + 1) * 16 ≤ ((n0 / 16 * 16 : Nat) : Int) := by omega
              have i5 : ¬ n0 / 16 * 16 = k * 16 := by omega
              have i6 : ¬ n0 / 16 = k := by omega
              have z1 : IntKind.i64.wrap ((k : Int) * 16) = (k : Int) * 16 := wrap_in _ (by omega) (by omega)
              have z2 : IntKind.i64.wrap ((k : Int) + 1) = (k : Int) + 1 := wrap_in _ (by omega) (by omega)
              have z3 : IntKind.i64.wrap (((k : Int) + 1) * 16) = ((k : Int) + 1) * 16 := wrap_in _ (by omega) (by omega)
              go_wp2_with fail
              go_region_held (fun w' => w'.cell? ⟨w6.heap.size + 1 + 1, 0, none⟩ = some (.slice (some ⟨g8, 0, none⟩) (n0 / 16) cp8) ∧ w'.cell? ⟨g8, k * 3, none⟩ = some (.int .u64 (hiOf true x0 (k * 16))) ∧ w'.cell? ⟨g8, k * 3 + 1, none⟩ = some (.int .u64 (loOf true x0 (k * 16))) ∧ w'.cell? ⟨g8, k * 3 + 2, none⟩ = some (.pointer (ptOf true p4 p6))) (go_keep)
                ((go_at_call 7; have ez : (k + 1) * 16 - k * 16 = szOf true := (show (k + 1) * 16 - k * 16 = 16 by omega); rw [ez]; refine (model_any true w2.heap.size (k * 16) _ x0 p4 p6 _ ?_ ?_ ?_).mono ?_; exact (HR.out.cell (p := ⟨0, 0, none⟩) (by show 0 < _; omega)).trans G48.out; exact (HR.out.cell (p := ⟨1, 0, none⟩) (by show 1 < _; omega)).trans G68.out; exact fun j hj => (HR.out.cell (p := ⟨w2.heap.size, k * 16 + j, none⟩) (by show w2.heap.size < _; omega)).trans (HX8.out _ (by have hj' : j < 16 := hj; omega)); rintro e w9 ⟨rfl, hb9⟩; have t0 := (hb9.cell (p := ⟨w6.heap.size + 1 + 1, 0, none⟩) (by show w6.heap.size + 1 + 1 < wr.heap.size; omega)).trans cGr; have t1 := (hb9.cell (p := ⟨g8, k * 3, none⟩) hgr).trans e0; have t2 := (hb9.cell (p := ⟨g8, k * 3 + 1, none⟩) hgr).trans e1; have t3 := (hb9.cell (p := ⟨g8, k * 3 + 2, none⟩) hgr).trans e2; have HB9 := hide hb9; clear hb9))
              have HR9 : Hid (Below w8.heap.size w8 w9) := HR.out.drew.trans (HB9.out.mono lr)
              go_wp2
              go_roundw
              case rel => first | exact ⟨k + 1, by omega, by go_num, HR9.out⟩ | ((repeat apply Exists.intro); exact ⟨⟨k + 1, by omega, by go_num, HR9.out⟩, rfl⟩)
              case measure => simp [intOf]; omega
            · have lr := HR.out.size
              have HT : Hid (Below w6.heap.size w6 wr) := HB8.out.trans (HR.out.mono l8)
              clear cS8 cG8 cC8
              go_wp2_with fail
              refine (equal_same w.heap.size 0 w2.heap.size 0 (n0 / 16 * 16) _ _ x0 _ (by unfold maxLen; omega) (fun j hj => ?_) (fun j hj => ?_)).mono ?_
              · rw [Nat.zero_add]; exact (HT.out.cell (p := ⟨w.heap.size, j, none⟩) (by show w.heap.size < _; omega)).trans (HX.out j hj)
              · rw [Nat.zero_add]; exact (HR.out.cell (p := ⟨w2.heap.size, j, none⟩) (by show w2.heap.size < _; omega)).trans (HX8.out j hj)
              rintro e w10 ⟨rfl, q10, rfl⟩
              go_wp2_with fail
              refine (equal_own w4.heap.size (.slice ao4 n4 cp4) a4 n4 c4 x4 _ ?_ ?_).mono ?_
              · exact own_draws (own_below HO5.out (HB6.out.trans (HT.out.mono l6))) _
              · exact (B4.out.below (HW6.out.trans (HT.out.mono (by omega)))).below (below_drewN (Below.refl _ _) _)
              rintro e w11 ⟨rfl, q11, rfl⟩
              go_wp2_with fail
              refine (equal_own w5.heap.size (.slice ao5 n5 cp5) a5 n5 c5 x5 _ ?_ ?_).mono ?_
              · exact own_draws (own_below HO6.out HT.out) _
              · exact (B5.out.below (HW6.out.trans (HT.out.mono (by omega)))).below (below_drewN (Below.refl _ _) _)
              rintro e w12 ⟨rfl, q12, rfl⟩
              go_wp2
              go_ret
              exact ⟨rfl, below_drewN (HW6.out.trans (HT.out.mono (by omega))) _⟩
      · clear hcase
        go_wp2_with fail
        go_loopw [25] (fun j wr => ∃ k : Nat, k ≤ (n0 / 16) ∧ j = .int .i64 k ∧ Below w8.heap.size w8 wr) (fun j _ => (n0 / 16) - (intOf j).toNat)
        case atStart => exact ⟨0, Nat.zero_le _, rfl, Below.refl _ _⟩
        case round =>
            obtain ⟨k, hk, rfl, hbr⟩ := hrel
            have HR := hide hbr
            clear hbr
            by_cases hlt : k < (n0 / 16)
            · have cGr : wr.cell? ⟨w6.heap.size + 1 + 1, 0, none⟩ = some (.slice (some ⟨g8, 0, none⟩) (n0 / 16) cp8) := (HR.out.cell (p := ⟨w6.heap.size + 1 + 1, 0, none⟩) (by show w6.heap.size + 1 + 1 < _; omega)).trans cG8
              obtain ⟨q0, q1, q2⟩ := vals_at true x0 p4 p6 (n0 / 16) k hlt
              have e0 : wr.cell? ⟨g8, k * 3, none⟩ = some (.int .u64 (hiOf true x0 (k * 16))) := (HR.out.cell (p := ⟨g8, k * 3, none⟩) hg8').trans (HL.out _ _ q0)
              have e1 : wr.cell? ⟨g8, k * 3 + 1, none⟩ = some (.int .u64 (loOf true x0 (k * 16))) := (HR.out.cell (p := ⟨g8, k * 3 + 1, none⟩) hg8').trans (HL.out _ _ q1)
              have e2 : wr.cell? ⟨g8, k * 3 + 2, none⟩ = some (.pointer (ptOf true p4 p6)) := (HR.out.cell (p := ⟨g8, k * 3 + 2, none⟩) hg8').trans (HL.out _ _ q2)
              clear q0 q1 q2
              have hneq := fun w => neq38 (hiOf true x0 (k * 16)) (loOf true x0 (k * 16)) (ptOf true p4 p6) w
              have hgd : Ybad.prog.eqGuardType Ybad.prog.depth 38 = false := by kernel_rfl
              have hgr : g8 < wr.heap.size := Nat.lt_of_lt_of_le hg8' HR.out.size
              have lr := HR.out.size
              have hkn : k * 16 + 16 ≤ n0 / 16 * 16 := by omega
              have i1 : (0 : Int) ≤ (k : Int) * 16 := by omega
              have i2 : (k : Int) * 16 ≤ ((k : Int) + 1) * 16 := by omega
              have i3 : ((k : Int) + 1) * 16 ≤ (n0 : Int) / 16 * 16 := by omega
              have i4 : ((k : Int) + 1) * 16 ≤ ((n0 / 16 * 16 : Nat) : Int) := by omega
              have i5 : ¬ n0 / 16 * 16 = k * 16 := by omega
              have i6 : ¬ n0 / 16 = k := by omega
              have z1 : IntKind.i64.wrap ((k : Int) * 16) = (k : Int) * 16 := wrap_in _ (by omega) (by omega)
              have z2 : IntKind.i64.wrap ((k : Int) + 1) = (k : Int) + 1 := wrap_in _ (by omega) (by omega)
              have z3 : IntKind.i64.wrap (((k : Int) + 1) * 16) = ((k : Int) + 1) * 16 := wrap_in _ (by omega) (by omega)
              go_wp2_with fail
              go_region_held (fun w' => w'.cell? ⟨w6.heap.size + 1 + 1, 0, none⟩ = some (.slice (some ⟨g8, 0, none⟩) (n0 / 16) cp8) ∧ w'.cell? ⟨g8, k * 3, none⟩ = some (.int .u64 (hiOf true x0 (k * 16))) ∧ w'.cell? ⟨g8, k * 3 + 1, none⟩ = some (.int .u64 (loOf true x0 (k * 16))) ∧ w'.cell? ⟨g8, k * 3 + 2, none⟩ = some (.pointer (ptOf true p4 p6))) (go_keep)
                ((go_at_call 7; have ez : (k + 1) * 16 - k * 16 = szOf true := (show (k + 1) * 16 - k * 16 = 16 by omega); rw [ez]; refine (model_any true w2.heap.size (k * 16) _ x0 p4 p6 _ ?_ ?_ ?_).mono ?_; exact (HR.out.cell (p := ⟨0, 0, none⟩) (by show 0 < _; omega)).trans G48.out; exact (HR.out.cell (p := ⟨1, 0, none⟩) (by show 1 < _; omega)).trans G68.out; exact fun j hj => (HR.out.cell (p := ⟨w2.heap.size, k * 16 + j, none⟩) (by show w2.heap.size < _; omega)).trans (HX8.out _ (by have hj' : j < 16 := hj; omega)); rintro e w9 ⟨rfl, hb9⟩; have t0 := (hb9.cell (p := ⟨w6.heap.size + 1 + 1, 0, none⟩) (by show w6.heap.size + 1 + 1 < wr.heap.size; omega)).trans cGr; have t1 := (hb9.cell (p := ⟨g8, k * 3, none⟩) hgr).trans e0; have t2 := (hb9.cell (p := ⟨g8, k * 3 + 1, none⟩) hgr).trans e1; have t3 := (hb9.cell (p := ⟨g8, k * 3 + 2, none⟩) hgr).trans e2; have HB9 := hide hb9; clear hb9))
              have HR9 : Hid (Below w8.heap.size w8 w9) := HR.out.drew.trans (HB9.out.mono lr)
              go_wp2
              go_roundw
              case rel => first | exact ⟨k + 1, by omega, by go_num, HR9.out⟩ | ((repeat apply Exists.intro); exact ⟨⟨k + 1, by omega, by go_num, HR9.out⟩, rfl⟩)
              case measure => simp [intOf]; omega
            · have lr := HR.out.size
              have HT : Hid (Below w6.heap.size w6 wr) := HB8.out.trans (HR.out.mono l8)
              clear cS8 cG8 cC8
              go_wp2_with fail
              refine (equal_same w.heap.size 0 w2.heap.size 0 (n0 / 16 * 16) _ _ x0 _ (by unfold maxLen; omega) (fun j hj => ?_) (fun j hj => ?_)).mono ?_
              · rw [Nat.zero_add]; exact (HT.out.cell (p := ⟨w.heap.size, j, none⟩) (by show w.heap.size < _; omega)).trans (HX.out j hj)
              · rw [Nat.zero_add]; exact (HR.out.cell (p := ⟨w2.heap.size, j, none⟩) (by show w2.heap.size < _; omega)).trans (HX8.out j hj)
              rintro e w10 ⟨rfl, q10, rfl⟩
              go_wp2_with fail
              refine (equal_own w4.heap.size (.slice ao4 n4 cp4) a4 n4 c4 x4 _ ?_ ?_).mono ?_
              · exact own_draws (own_below HO5.out (HB6.out.trans (HT.out.mono l6))) _
              · exact (B4.out.below (HW6.out.trans (HT.out.mono (by omega)))).below (below_drewN (Below.refl _ _) _)
              rintro e w11 ⟨rfl, q11, rfl⟩
              go_wp2_with fail
              refine (equal_own w5.heap.size (.slice ao5 n5 cp5) a5 n5 c5 x5 _ ?_ ?_).mono ?_
              · exact own_draws (own_below HO6.out HT.out) _
              · exact (B5.out.below (HW6.out.trans (HT.out.mono (by omega)))).below (below_drewN (Below.refl _ _) _)
              rintro e w12 ⟨rfl, q12, rfl⟩
              go_wp2
              go_ret
              exact ⟨rfl, below_drewN (HW6.out.trans (HT.out.mono (by omega))) _⟩
end Go.Proofs.YbulkfcoyDoor
