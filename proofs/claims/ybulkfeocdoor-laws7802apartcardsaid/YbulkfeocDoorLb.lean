import Derived.Test.YbulkfeocDoorLa
namespace Go.Proofs.YbulkfeocDoor
open Go.Conc Go.Conc.Locks Go.RowKit Go.MuLone
set_option linter.unusedVariables false
set_option linter.unusedSimpArgs false

set_option maxRecDepth 100000 in
set_option maxHeartbeats 4000000 in
theorem law_small (a0 : Option Addr) (ab ao n c0 : Nat) (x : Nat → Int) (b e : Nat) (gone live : Int) (cl : Bool) (w : World) (ha : n = 0 ∨ a0 = some ⟨ab, ao, none⟩) (hx : ∀ j, j < n → w.cell? ⟨ab, ao + j, none⟩ = some (.int .u8 (x j)))
    (hxr : ∀ j, j < n → 0 ≤ x j ∧ x j ≤ 255) (hlv : -9223372036854775808 ≤ live ∧ live ≤ 9223372036854775807) (hgo : -9223372036854775808 ≤ gone ∧ gone ≤ 9223372036854775807) (hn : n ≤ 65536) (hb : b ≤ 4294967295) (he : e ≤ 4294967295) :
    Calls Ybad.prog 3 #[.slice a0 n c0, .int .u32 b, .int .u32 e, .int .i64 gone, .int .i64 live, .bool cl] w fun e w' => e = .returned (.bool true) ∧ Below w.heap.size w w' := by
  have HA := hide ha
  have HX := hide hx
  have HXR := hide hxr
  clear ha hx hxr
  have hmc := mkChan
  have hdt : decide ((65536 : Int) < (n : Int)) = false := decide_eq_false (by omega)
  have m1 : 0 ≤ (b : Int) % ((n : Int) + 1) := Int.emod_nonneg _ (by omega)
  have m2 : (b : Int) % ((n : Int) + 1) ≤ n := by have := Int.emod_lt_of_pos (b : Int) (b := (n : Int) + 1) (by omega); omega
  have m3 : 0 ≤ (e : Int) % ((n : Int) - (b : Int) % ((n : Int) + 1) + 1) := Int.emod_nonneg _ (by omega)
  have m4 : (e : Int) % ((n : Int) - (b : Int) % ((n : Int) + 1) + 1) ≤ (n : Int) - (b : Int) % ((n : Int) + 1) := by have := Int.emod_lt_of_pos (e : Int) (b := (n : Int) - (b : Int) % ((n : Int) + 1) + 1) (by omega); omega
  go_enter Ybad.func3, Ybad.ntmps3
  go_wp2_with fail
  go_cut [14, 15, 16] (fun s14 s15 s16 wc => ∃ bg en B cd : Nat, s14 = .int .i64 bg ∧ s15 = .int .i64 en ∧ bg ≤ en ∧ en ≤ n ∧ s16 = .pointer (some ⟨B, 0, none⟩) ∧ New w wc B cd)
  case first =>
    go_region
    all_goals go_wp2
    all_goals go_meet
    · obtain ⟨bg, e1⟩ := nat_of_int _ m1
      obtain ⟨k, e2⟩ := nat_of_int _ m3
      rw [e1] at m2 m4 e2 ⊢
      rw [e2] at m4 ⊢
      exact ⟨bg, bg + k, _, _, rfl, by go_num, by omega, by omega, rfl, new_of w _ _ (.inl rfl)⟩
    · obtain ⟨bg, e1⟩ := nat_of_int _ m1
      obtain ⟨k, e2⟩ := nat_of_int _ m3
      rw [e1] at m2 m4 e2 ⊢
      rw [e2] at m4 ⊢
      exact ⟨bg, bg + k, _, _, rfl, by go_num, by omega, by omega, rfl, new_of w _ _ (.inr rfl)⟩
  case rest =>
    obtain ⟨bg, en, B, cd, rfl, rfl, hbe, hen, rfl, hnew⟩ := hcut
    have HN := hide hnew
    have c1 := hnew.live
    have c2 := hnew.closed
    have c3 := hnew.lock
    have f0 := hnew.free
    have hB := hnew.ne
    clear hnew m1 m2 m3 m4
    go_wp2_with fail
    refine (store64 B 193 live (.int .i64 0) _ ?_ ?_).mono ?_
    · exact (World.cell?_setCell_other _ _ _ _ (by simp)).trans c1
    · simpa using f0 193
    rintro e1 w0 ⟨rfl, hw0⟩
    have d2 : w0.cell? ⟨B, 128, none⟩ = some (.int .u32 0) := by rw [hw0]; exact (World.cell?_setCell_other _ _ _ _ (by simp)).trans ((World.cell?_setCell_other _ _ _ _ (by simp)).trans c2)
    have f1 : ∀ o, w0.frozen? ⟨B, o, none⟩ = false := fun o => by rw [hw0]; simpa using f0 o
    have HW0 := hide hw0
    clear hw0 c1 c2 c3 f0
    go_wp2_with fail
    refine (storeBool B 128 cl _ w0 d2 (f1 128)).mono ?_
    rintro e1 w1 ⟨rfl, hw1⟩
    have hS : Sch w1 B cd live cl := by
      rw [hw1, HW0.out]
      refine ⟨?_, ?_, ?_, ?_, ?_, hB⟩
      · refine (World.cell?_setCell_other _ _ _ _ (by simp)).trans (World.cell?_setCell_same _ _ _ (u := .int .i64 0) ?_)
        exact (World.cell?_setCell_other _ _ _ _ (by simp)).trans HN.out.live
      · refine World.cell?_setCell_same _ _ _ (u := .int .u32 0) ?_
        exact (World.cell?_setCell_other _ _ _ _ (by simp)).trans ((World.cell?_setCell_other _ _ _ _ (by simp)).trans HN.out.closed)
      · exact (World.cell?_setCell_other _ _ _ _ (by simp)).trans ((World.cell?_setCell_other _ _ _ _ (by simp)).trans ((World.cell?_setCell_other _ _ _ _ (by simp)).trans HN.out.mu))
      · exact (World.cell?_setCell_other _ _ _ _ (by simp)).trans ((World.cell?_setCell_other _ _ _ _ (by simp)).trans ((World.cell?_setCell_other _ _ _ _ (by simp)).trans HN.out.drained))
      · intro o; simpa using HN.out.free o
    have hch : w1.heap[cd]? = some (.chan 0 #[] false 0 0 false) := by
      rw [hw1, HW0.out]
      exact (heap_setCell_other _ _ _ _ (fun e => hB e.symm)).trans ((heap_setCell_other _ _ _ _ (fun e => hB e.symm)).trans ((heap_setCell_other _ _ _ _ (fun e => hB e.symm)).trans HN.out.chan))
    have hbl : Below w.heap.size w w1 := by
      rw [hw1, HW0.out]
      exact (((HN.out.below.setCell (p := ⟨B, _, none⟩) HN.out.bB _).setCell (p := ⟨B, _, none⟩) HN.out.bB _).setCell (p := ⟨B, _, none⟩) HN.out.bB _).drew
    have HS := hide hS
    have HC := hide hch
    have HL := hide hbl
    clear hw1 hS hch hbl d2 f1 HW0
    obtain ⟨i5, hi5, hz50, hz51, hz52⟩ := info_parts Ybad.info75
    obtain ⟨i6, hi6, hz60, hz61, hz62⟩ := info_parts Ybad.info84
    obtain ⟨i7, hi7, hz70, hz71, hz72⟩ := info_parts Ybad.info4
    go_wp2_with (first
      | (at_make; refine wpList_make_full _ rfl (.tmp 68) (.tmp 68) 61 rfl w1.heap.size 75 i5 (.pointer none) 1 Ybad.underlying61 hi5 hz50 hz51 _ _ _ _ n rfl rfl rfl rfl (by rw [hz52]; omega) (by unfold maxLen; omega) (Nat.le_refl _) ?_; intro w2 own2 gr2; have HG2 := hide (own_full own2); have HB2 := hide (below_of_grown gr2); clear own2 gr2)
      | (at_make; refine wpList_make_full _ rfl (.tmp 70) (.tmp 70) 73 rfl w2.heap.size 84 i6 (.int .u8 0) 1 Ybad.underlying73 hi6 hz60 hz61 _ _ _ _ n rfl rfl rfl rfl (by rw [hz62]; omega) (by unfold maxLen; omega) (Nat.le_refl _) ?_; intro w3 own3 gr3; have HG3 := hide (own_full own3); have HB3 := hide (below_of_grown gr3); clear own3 gr3)
      | (at_make; refine wpList_make_full _ rfl (.tmp 72) (.tmp 72) 74 rfl w3.heap.size 4 i7 (.bool false) 1 Ybad.underlying74 hi7 hz70 hz71 _ _ _ _ n rfl rfl rfl rfl (by rw [hz72]; omega) (by unfold maxLen; omega) (Nat.le_refl _) ?_; intro w4 own4 gr4; have HG4 := hide (own_full own4); have HB4 := hide (below_of_grown gr4); clear own4 gr4))
    have l2 : w1.heap.size < w2.heap.size := (Array.getElem?_eq_some_iff.1 HG2.out).1
    have l3 : w2.heap.size < w3.heap.size := (Array.getElem?_eq_some_iff.1 HG3.out).1
    have l4 : w3.heap.size < w4.heap.size := (Array.getElem?_eq_some_iff.1 HG4.out).1
    have lw := HL.out.size
    have hst : Laid w4 w4 w1.heap.size w2.heap.size w3.heap.size n x 0 := by
      refine ⟨Below.refl _ _, rfl, ?_, ?_, ?_, fun i hi => absurd hi (by omega)⟩
      · rw [HB4.out.block _ (by omega), HB3.out.block _ l2, HG2.out, ← fillV_made]; rfl
      · rw [HB4.out.block _ l3, HG3.out, ← fillV_made]; rfl
      · rw [HG4.out, ← fillV_made]; rfl
    have HST := hide hst
    have HB14 : Hid (Below w1.heap.size w1 w4) := (HB2.out.trans (HB3.out.mono (by omega))).trans (HB4.out.mono (by omega))
    clear hst HG2 HG3 HG4 HB2 HB3 HB4 hi5 hz50 hz51 hz52 hi6 hz60 hz61 hz62 hi7 hz70 hz71 hz72
    go_loopg [76] n (fun g s76 wr => ∃ k : Nat, g = n - k ∧ k ≤ n ∧ s76 = .int .i64 k ∧ Laid w4 wr w1.heap.size w2.heap.size w3.heap.size n x k)
    case atStart => exact ⟨0, rfl, Nat.zero_le _, rfl, HST.out⟩
    case round =>
      obtain ⟨k, hg, hk, rfl, hld⟩ := hrel
      have HG := hide hg
      have HD := hide hld
      clear hg hld
      by_cases hlt : k < n
      · --R1
        rcases HA.out with h0 | rfl
        · exact absurd hlt (by omega)
        have hsz : wr.heap.size = w4.heap.size + k := HD.out.size
        have cx : wr.cell? ⟨ab, ao + k, none⟩ = some (.int .u8 (x k)) := by
          have lab : ab < w.heap.size := block_lt_of_cell (HX.out k hlt)
          exact (HD.out.below.cell (p := ⟨ab, ao + k, none⟩) (by show ab < _; omega)).trans ((HB14.out.cell (p := ⟨ab, ao + k, none⟩) (by show ab < _; omega)).trans ((HL.out.cell (p := ⟨ab, ao + k, none⟩) lab).trans (HX.out k hlt)))
        have xr := HXR.out k hlt
        have cW : wr.cell? ⟨w1.heap.size, k, none⟩ = some (.pointer none) := (cell_of_row _ _ _ _ _ _ HD.out.rowW).trans (fillV_at _ _ _ _ hlt)
        have cS : wr.cell? ⟨w2.heap.size, k, none⟩ = some (.int .u8 0) := (cell_of_row _ _ _ _ _ _ HD.out.rowS).trans (fillV_at _ _ _ _ hlt)
        have cO : wr.cell? ⟨w3.heap.size, k, none⟩ = some (.bool false) := (cell_of_row _ _ _ _ _ _ HD.out.rowO).trans (fillV_at _ _ _ _ hlt)
        have fW : wr.frozen? ⟨w1.heap.size, k, none⟩ = false := frozen_of_row _ _ _ _ _ HD.out.rowW
        have fS : wr.frozen? ⟨w2.heap.size, k, none⟩ = false := frozen_of_row _ _ _ _ _ HD.out.rowS
        have fO : wr.frozen? ⟨w3.heap.size, k, none⟩ = false := frozen_of_row _ _ _ _ _ HD.out.rowO
        have q1 : w1.heap.size < wr.heap.size := by omega
        have q2 : w2.heap.size < wr.heap.size := by omega
        have q3 : w3.heap.size < wr.heap.size := by omega
        have q4 : ab < wr.heap.size := block_lt_of_cell cx
        have HSZ := hide hsz
        clear hsz
        rcases (show x k % 3 = 0 ∨ x k % 3 = 1 ∨ x k % 3 = 2 by omega) with k0 | k0 | k0
        · have k0' : (x k % 3 == 0) = true := by rw [k0]; rfl
          have K1 : Hid (stOf (x k) = 0) := by unfold Hid stOf; rw [k0]; rfl
          have K2 : Hid (orOf (x k) = false) := by unfold Hid orOf; rw [k0]; rfl
          clear k0
          go_wp2
          go_roundg (n - (k + 1))
          case measure => rw [HG.out]; omega
          case rel => exact ⟨k + 1, rfl, by omega, by go_num, HD.out.step hlt (by omega) (by omega) (by omega) K1.out K2.out _ ⟨rfl, rfl, rfl, rfl, rfl, rfl, rfl⟩⟩
        · have k0' : (x k % 3 == 0) = false := by rw [k0]; rfl
          have k1' : (x k % 3 == 1) = true := by rw [k0]; rfl
          have K1 : Hid (stOf (x k) = 3) := by unfold Hid stOf; rw [k0]; rfl
          have K2 : Hid (orOf (x k) = false) := by unfold Hid orOf; rw [k0]; rfl
          clear k0
          go_wp2
          go_roundg (n - (k + 1))
          case measure => rw [HG.out]; omega
          case rel => exact ⟨k + 1, rfl, by omega, by go_num, HD.out.step hlt (by omega) (by omega) (by omega) K1.out K2.out _ ⟨rfl, rfl, rfl, rfl, rfl, rfl, rfl⟩⟩
        · have k0' : (x k % 3 == 0) = false := by rw [k0]; rfl
          have k1' : (x k % 3 == 1) = false := by rw [k0]; rfl
          have K1 : Hid (stOf (x k) = 3) := by unfold Hid stOf; rw [k0]; rfl
          have K2 : Hid (orOf (x k) = true) := by unfold Hid orOf; rw [k0]; rfl
          clear k0
          go_wp2
          go_roundg (n - (k + 1))
          case measure => rw [HG.out]; omega
          case rel => exact ⟨k + 1, rfl, by omega, by go_num, HD.out.step hlt (by omega) (by omega) (by omega) K1.out K2.out _ ⟨rfl, rfl, rfl, rfl, rfl, rfl, rfl⟩⟩
        --/R1
      · obtain rfl : k = n := by omega
        have hsz : wr.heap.size = w4.heap.size + k := HD.out.size
        obtain ⟨i5, hi5, hz50, hz51, hz52⟩ := info_parts Ybad.info75
        have hz1 : (Ybad.prog.info? 75).map (·.size) = some 1 := by rw [hi5]; simp [hz51]
        have HSZ := hide hsz
        clear hsz
        go_wp2_with (first
          | (at_make; refine wpList_make_full _ rfl (.tmp 124) (.tmp 124) 61 rfl wr.heap.size 75 i5 (.pointer none) 1 Ybad.underlying61 hi5 hz50 hz51 _ _ _ _ k rfl rfl rfl rfl (by rw [hz52]; omega) (by unfold maxLen; omega) (Nat.le_refl _) ?_; intro w5 own5 gr5; have HG5 := hide (own_full own5); have HB5 := hide (below_of_grown gr5); clear own5 gr5)
          | (refine wpList_copy_splice rfl (.tmp 126) (.tmp 127) 61 61 rfl 75 Ybad.underlying61 hz1 _ _ _ _ _ _ rfl rfl wr.heap.size 0 _ 75 HG5.out (ptrs w4.heap.size k) (by rw [ptrs_length]; simp [Nat.min_def]) (ptrs_pos HD.out HB5.out (by have := HSZ.out; omega)) (by rw [ptrs_length, made_length]; omega) (ptrs_one _ _) wr.heap.size wr HB5.out (Nat.le_refl _) ?_; intro w6 HG6 HB6'; have HB6 := hide HB6'; clear HB6'; rw [splice_full _ _ (by rw [ptrs_length, made_length]; omega)] at HG6))
        obtain ⟨t1, t2, t3, t4⟩ := two w6 (.chan 0 #[] false 0 0 false) (.cells #[.slice (some ⟨w1.heap.size, 0, none⟩) k k, .int .i64 0, .int .i64 0, .chan (some w6.heap.size)] 90)
        refine (store64 (w6.heap.size + 1) 2 gone (.int .i64 0) _ ?_ ?_).mono ?_
        · exact (cell_of_row _ _ _ _ _ _ t2).trans rfl
        · exact frozen_of_row _ _ _ _ _ t2
        rintro e1 w7 ⟨rfl, hw7⟩
        have hR7 : w7.heap[w6.heap.size + 1]? = some (.cells #[.slice (some ⟨w1.heap.size, 0, none⟩) k k, .int .i64 0, .int .i64 gone, .chan (some w6.heap.size)] 90 (0, 0)) := by
          rw [hw7, heap_setCell_same _ _ _ _ _ _ t2]; rfl
        have hD7 : w7.heap[w6.heap.size]? = some (.chan 0 #[] false 0 0 false) := by
          rw [hw7, heap_setCell_other _ _ _ _ (by show w6.heap.size ≠ w6.heap.size + 1; omega)]; exact t1
        have hB7 : Below w6.heap.size w6 w7 := by
          rw [hw7]; exact t3.setCell (p := ⟨w6.heap.size + 1, _, none⟩) (by show _ ≤ w6.heap.size + 1; omega) _
        have l5 := HB5.out.size
        have l6 : wr.heap.size < w6.heap.size := (Array.getElem?_eq_some_iff.1 HG6.out).1
        have ls1 : wr.heap.size ≤ w4.heap.size + k := Nat.le_of_eq HSZ.out
        have ls2 : w4.heap.size + k ≤ wr.heap.size := Nat.le_of_eq HSZ.out.symm
        have BR : Hid (Below wr.heap.size wr w7) := HB6.out.trans (hB7.mono (by omega))
        have BL : Hid (Below w1.heap.size w1 w7) := HB14.out.trans (HD.out.below.trans (BR.out.mono (by omega)))
        have lB : B < w1.heap.size := block_lt_of_cell HS.out.live
        have lcd : cd < w1.heap.size := (Array.getElem?_eq_some_iff.1 HC.out).1
        have HR7 := hide hR7
        have HD7 := hide hD7
        have HB7 := hide hB7
        clear hR7 hD7 hB7 hw7 t1 t2 t3 t4 hi5 hz50 hz51 hz52 hz1
        go_wp2_with fail
        refine (closeRun_any B cd (w6.heap.size + 1) w6.heap.size w1.heap.size k k bg en live gone cl (fun i => w4.heap.size + i) (fun i => stOf (x i)) (fun i => orOf (x i)) w7 (HD.out.procs_of BR.out (by omega)) (HS.out.of_block (BL.out.block B lB)) hlv ((BL.out.block cd lcd).trans HC.out) HD7.out
          ((cell_of_row _ _ _ _ _ _ HR7.out).trans rfl) ((cell_of_row _ _ _ _ _ _ HR7.out).trans rfl) ((cell_of_row _ _ _ _ _ _ HR7.out).trans rfl) (frozen_of_row _ _ _ _ _ HR7.out) (by omega) (by omega) (by omega) hbe hen hn).mono ?_
        rintro e1 w8 ⟨rfl, kp8, cd8, dn8, r8⟩
        have hR8 : w8.heap[w6.heap.size + 1]? = some (.cells #[.slice (some ⟨w1.heap.size, 0, none⟩) k k, .int .i64 0, .int .i64 (wrap64 (gone + ((en : Int) - bg))), .chan (some w6.heap.size)] 90 (0, 0)) := by
          rw [r8, heap_setCell_same _ _ _ _ _ _ HR7.out]; rfl
        have l7 : w6.heap.size + 1 < w7.heap.size := (Array.getElem?_eq_some_iff.1 HR7.out).1
        have b8 : ∀ b, b < w6.heap.size → b ≠ cd → w8.heap[b]? = w7.heap[b]? := fun b hb hne => kp8.block b (by omega) (by omega)
        have c80 : w8.cell? ⟨w6.heap.size + 1, 0, none⟩ = some (.slice (some ⟨w1.heap.size, 0, none⟩) k k) := (cell_of_row _ _ _ _ _ _ hR8).trans rfl
        have c81 : w8.cell? ⟨w6.heap.size + 1, 1, none⟩ = some (.int .i64 0) := (cell_of_row _ _ _ _ _ _ hR8).trans rfl
        have c82 : w8.cell? ⟨w6.heap.size + 1, 2, none⟩ = some (.int .i64 (wrap64 (gone + ((en : Int) - bg)))) := (cell_of_row _ _ _ _ _ _ hR8).trans rfl
        have c83 : w8.cell? ⟨w6.heap.size + 1, 3, none⟩ = some (.chan (some w6.heap.size)) := (cell_of_row _ _ _ _ _ _ hR8).trans rfl
        have hS8 : Sch w8 B cd live cl := HS.out.of_block ((b8 B (by omega) hB).trans (BL.out.block B lB))
        have d1 := hS8.live
        have d2 := hS8.closed
        have d3 := hS8.drained
        have HK : Hid (w8.heap[wr.heap.size]? = some (.cells (ptrs w4.heap.size k).toArray 75 (0, 0))) := (b8 _ (by omega) (by omega)).trans ((HB7.out.block _ (by omega)).trans HG6.out)
        have HSN : Hid (∀ j, j < k → Seen w8 w1.heap.size wr.heap.size w2.heap.size w3.heap.size w4.heap.size j (stOf (x j)) (orOf (x j))) := by
          intro j hj
          have hcdw : ∀ b, b < wr.heap.size → b ≠ cd → w8.heap[b]? = wr.heap[b]? := fun b hb hne => (b8 b (by omega) hne).trans (BR.out.block b hb)
          exact HD.out.seen' hcdw lcd (by omega) (by omega) (by omega) HK.out j hj
        have HF : Hid (Below w.heap.size w w8) := HL.out.trans ((BL.out.mono (by omega)).trans ⟨kp8.os, kp8.tape, kp8.output, kp8.size, fun b hb => kp8.block b (by omega) (by have := HN.out.bc; have := HN.out.bB; omega)⟩)
        have HC8 := hide cd8
        have HD8 := hide dn8
        obtain ⟨dd, hdd⟩ : ∃ dd : Bool, dd = decide (wrap64 (gone + ((en : Int) - bg)) = (k : Int)) := ⟨_, rfl⟩
        rw [← hdd] at HD8
        have hdd' : (wrap64 (gone + ((en : Int) - bg)) == (k : Int)) = dd := by rw [hdd]; rfl
        clear kp8 cd8 dn8 r8 hR8 b8 hS8 hdd
        go_wp2_with fail
        refine (load64 (w6.heap.size + 1) 2 _ w8 c82).mono ?_
        rintro e1 w' ⟨rfl, hw'⟩
        rw [hw']
        clear hw' w'
        go_wp2_with fail
        refine (load64 (w6.heap.size + 1) 1 _ w8 c81).mono ?_
        rintro e1 w' ⟨rfl, hw'⟩
        rw [hw']
        clear hw' w'
        go_wp2_with fail
        refine (isClosed_any w6.heap.size dd w8 HD8.out).mono ?_
        rintro e1 w' ⟨rfl, hw'⟩
        rw [hw']
        clear hw' w'
        go_wp2_with fail
        refine (load64 B 193 _ w8 d1).mono ?_
        rintro e1 w' ⟨rfl, hw'⟩
        rw [hw']
        clear hw' w'
        go_wp2_with fail
        refine (loadBool B 128 cl w8 d2).mono ?_
        rintro e1 w' ⟨rfl, hw'⟩
        rw [hw']
        clear hw' w'
        go_wp2_with fail
        by_cases hl0 : live = 0
        · have hz : (live == 0) = true := by simpa using hl0
          have HC9 : Hid (w8.heap[cd]? = some (.chan 0 #[] cl 0 0 false)) := by
            have := HC8.out
            rw [show decide (live = 0 ∧ cl = true) = cl by rw [hl0]; cases cl <;> rfl] at this
            exact this
          clear hl0
          refine (isClosed_any cd cl w8 HC9.out).mono ?_
          rintro e1 w' ⟨rfl, hw'⟩
          rw [hw']
          clear hw' w'
          go_wp2_with fail
          go_loopg [203] k (fun g s ws => ∃ (j q : Nat), g = k - j ∧ j ≤ k ∧ s = .int .i64 j ∧ ws = w8.drewN q)
          case atStart => exact ⟨0, 0, rfl, Nat.zero_le _, rfl, rfl⟩
          case round =>
            obtain ⟨j, q, hg, hj, rfl, rfl⟩ := hrel
            have HJ := hide hg
            clear hg
            by_cases hlt : j < k
            · have sn := HSN.out j hlt
              have s1 := sn.row
              have s2 := sn.kept
              have s3 := sn.states
              have s4 := sn.orphs
              have s5 := sn.p
              have s6 := sn.orph
              have s7 := sn.state
              have s8 := sn.settled
              have s9 := sn.result
              have s10 := sn.err
              have hne := fun w => neq75 ⟨w4.heap.size + j, 0, none⟩ w
              clear sn
              have hjk : (j : Int) < (k : Int) := by omega
              go_wp2
              go_quiet (fail)
              go_wp2
              go_roundg (k - (j + 1))
              case measure => rw [HJ.out]; omega
              case rel => exact ⟨j + 1, _, rfl, by omega, by go_num, rfl⟩
            · go_wp2
              go_ret
              exact ⟨rfl, below_drewN HF.out _⟩
        · have hz : (live == 0) = false := by simpa using hl0
          have HC9 : Hid (w8.heap[cd]? = some (.chan 0 #[] false 0 0 false)) := by
            have := HC8.out
            rw [show decide (live = 0 ∧ cl = true) = false by simp [hl0]] at this
            exact this
          clear hl0
          refine (isClosed_any cd false w8 HC9.out).mono ?_
          rintro e1 w' ⟨rfl, hw'⟩
          rw [hw']
          clear hw' w'
          go_wp2_with fail
          go_loopg [203] k (fun g s ws => ∃ (j q : Nat), g = k - j ∧ j ≤ k ∧ s = .int .i64 j ∧ ws = w8.drewN q)
          case atStart => exact ⟨0, 0, rfl, Nat.zero_le _, rfl, rfl⟩
          case round =>
            obtain ⟨j, q, hg, hj, rfl, rfl⟩ := hrel
            have HJ := hide hg
            clear hg
            by_cases hlt : j < k
            · have sn := HSN.out j hlt
              have s1 := sn.row
              have s2 := sn.kept
              have s3 := sn.states
              have s4 := sn.orphs
              have s5 := sn.p
              have s6 := sn.orph
              have s7 := sn.state
              have s8 := sn.settled
              have s9 := sn.result
              have s10 := sn.err
              have hne := fun w => neq75 ⟨w4.heap.size + j, 0, none⟩ w
              clear sn
              have hjk : (j : Int) < (k : Int) := by omega
              go_wp2
              go_quiet (fail)
              go_wp2
              go_roundg (k - (j + 1))
              case measure => rw [HJ.out]; omega
              case rel => exact ⟨j + 1, _, rfl, by omega, by go_num, rfl⟩
            · go_wp2
              go_ret
              exact ⟨rfl, below_drewN HF.out _⟩
end Go.Proofs.YbulkfeocDoor
