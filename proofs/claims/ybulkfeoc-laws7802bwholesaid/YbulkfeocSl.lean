import Derived.Test.YbulkfeocSn
namespace Go.Proofs.Ybulkfeoc
open Go.RowKit Go.Conc Go.Conc.Locks Go.MuLone
set_option linter.unusedVariables false
set_option linter.unusedSimpArgs false

set_option maxRecDepth 100000 in
set_option maxHeartbeats 4000000 in
theorem law3 (ended idle : Bool) (nRun nDeq : Nat) (w : World) (hr : nRun ≤ 65535) (hd : nDeq ≤ 65535) :
    Calls Yba.prog 3 #[.bool ended, .bool idle, .int .u16 nRun, .int .u16 nDeq] w fun e w' => e = .returned (.bool true) ∧ Below w.heap.size w w' := by
  have r1 : nRun % 300 ≤ 299 := by omega
  have d1 : nDeq % 300 ≤ 299 := by omega
  go_enter Yba.func3, Yba.ntmps3
  go_upto_if 41 with fail
  have e1 : (nRun : Int) % 300 = ((nRun % 300 : Nat) : Int) := by omega
  have e2 : (nDeq : Int) % 300 = ((nDeq % 300 : Nat) : Int) := by omega
  rw [e1, e2]
  generalize nRun % 300 = r at r1 ⊢
  generalize nDeq % 300 = d at d1 ⊢
  clear e1 e2
  have hst := start0 w (.iface 70 (.pointer (some ⟨w.heap.size, 315, none⟩)))
  generalize hW : w.alloc (.cells (Yba.zeroCells69.setIfInBounds 317 (.iface 70 (.pointer (some ⟨w.heap.size, 315, none⟩)))) 69) = W0 at hst ⊢
  generalize hBB : w.heap.size = B at hst ⊢
  have HST := hide hst
  have HBB := hide hBB
  have z1 := hst.sch.idle
  have z2 := hst.fifo.free 127
  clear hst hW hBB
  go_cut [] (fun wc => Start w wc B false idle)
  case first =>
    cases idle
    · go_wp2
      go_meet
      exact HST.out
    · go_wp2_with fail
      refine (store32 B 127 1 _ W0 z1 z2).mono ?_
      rintro e w1 ⟨rfl, hw1⟩
      have HW1 := hide hw1
      clear hw1
      go_wp2
      go_meet
      rw [HW1.out]
      exact HST.out.idle
  case rest =>
    have HS1 := hide hcut
    have y1 := hcut.sch.ended
    have y2 := hcut.fifo.free 250
    clear hcut z1 z2 HST
    go_upto_if 46 with fail
    go_cut [] (fun wx => Start w wx B ended idle)
    case first =>
      cases ended
      · go_wp2
        go_meet
        exact HS1.out
      · go_wp2_with fail
        refine (storeTrue B 250 _ _ y1 y2).mono ?_
        rintro e w1 ⟨rfl, hw1⟩
        have HW1 := hide hw1
        clear hw1
        go_wp2
        go_meet
        rw [HW1.out]
        exact HS1.out.ended
    case rest =>
      have HS2 := hide hcut
      clear hcut y1 y2 HS1
      go_upto_region 10 with fail
      have hbs := base_of HS2.out
      generalize wc.alloc (.cells (Yba.zeroCells98.setIfInBounds 0 (.pointer (some ⟨B, 0, none⟩))) 98) = WV at hbs ⊢
      generalize wc.heap.size = V at hbs ⊢
      have HBS := hide hbs
      clear hbs HS2
      obtain ⟨i0, hi, hz0, hz1, hz2⟩ := info_parts Yba.info80
      go_wp2_with (first
        | (at_make; refine wpList_make_full _ rfl (.tmp 54) (.tmp 54) 60 rfl WV.heap.size 80 i0 (.pointer none) 1 Yba.underlying60 hi hz0 hz1 _ _ _ _ r rfl rfl rfl rfl (by rw [hz2]; omega) (by unfold maxLen; omega) (Nat.le_refl _) ?_; intro W0 own1 gr1; have HG1 := hide (own_full own1); have HB1 := hide (below_of_grown gr1); clear own1 gr1))
      have l1 : WV.heap.size < W0.heap.size := (Array.getElem?_eq_some_iff.1 HG1.out).1
      have HBA := hide (HBS.out.keep HB1.out)
      have hVl := HBS.out.sV
      have hBV := HBS.out.bV
      generalize WV.heap.size = RP at HG1 l1 hVl ⊢
      clear HBS HB1
      go_loopg [14] r (fun g s14 wr => ∃ (k : Nat) (gf : Nat → Nat) (L : Nat) (a : Option Addr), g = r - k ∧ k ≤ r ∧ s14 = .int .i64 k ∧ Lp1 W0 wr B RP r k gf L a)
      case atStart => exact ⟨0, fun _ => 0, 0, none, rfl, Nat.zero_le _, rfl, Kept.refl _ _, fun _ _ => rfl, HBA.out.fifo _, HG1.out.trans (by rw [← fillV_made r (pv fun _ => 0)]; rfl), fun i hi => absurd hi (Nat.not_lt_zero _), fun G e => by cases e⟩
      case round =>
        obtain ⟨k, gf, L, a, hg, hk, rfl, hlp⟩ := hrel
        have HG := hide hg
        have HLP := hide hlp
        clear hg hlp
        by_cases hlt : k < r
        · have c1 : wr.cell? ⟨RP, k, none⟩ = some (.pointer none) := (cell_of_row _ _ _ _ _ _ HLP.out.row).trans (fillV_at _ _ _ _ hlt)
          have c2 : wr.frozen? ⟨RP, k, none⟩ = false := frozen_of_row _ _ _ _ _ HLP.out.row
          have hRl : RP < wr.heap.size := (Array.getElem?_eq_some_iff.1 HLP.out.row).1
          go_wp2_with fail
          have hmade := HLP.out.made hlt (by omega) (by omega) (by omega) _ (rfl : (#[Value.int IntKind.u64 0, Value.nilIface, Value.int IntKind.u64 0, Value.bool false, Value.bool false,
            Value.int IntKind.i64 0, Value.int IntKind.u64 0, Value.nilIface, Value.nilIface, Value.int IntKind.i32 0,
            Value.int IntKind.i32 0, Value.int IntKind.u32 0, Value.int IntKind.u8 0, Value.bool false, Value.bool false,
            Value.slice none 0 0, Value.map none, Value.bool false, Value.chan none, Value.nilIface, Value.nilIface] : Array Value).size = 21)
          generalize (wr.setCell ⟨RP, k, none⟩ (.pointer (some ⟨wr.heap.size, 0, none⟩))).alloc (.cells #[Value.int IntKind.u64 0, Value.nilIface, Value.int IntKind.u64 0, Value.bool false, Value.bool false,
            Value.int IntKind.i64 0, Value.int IntKind.u64 0, Value.nilIface, Value.nilIface, Value.int IntKind.i32 0,
            Value.int IntKind.i32 0, Value.int IntKind.u32 0, Value.int IntKind.u8 0, Value.bool false, Value.bool false,
            Value.slice none 0 0, Value.map none, Value.bool false, Value.chan none, Value.nilIface, Value.nilIface] 108) = wA at hmade ⊢
          generalize upd gf k wr.heap.size = gf' at hmade
          generalize wr.heap.size = gk at hmade ⊢
          have HMD := hide hmade
          have c3 : wA.cell? ⟨RP, k, none⟩ = some (.pointer (some ⟨gk, 0, none⟩)) := (cell_of_row _ _ _ _ _ _ hmade.row).trans ((fillV_get _ _ _ _ _ hlt (by omega)).trans (by rw [pv, hmade.at_]))
          clear hmade c1 c2
          go_region_with (go_at_call 6; refine (push6 B L k gk a (pv gf') _ (fun i => rfl) ?_ ?_ (by omega)).mono ?_; exact (by rw [pv, HMD.out.at_]); exact HMD.out.fifo.of_heap rfl; rintro e w2 ⟨rfl, L', a', f2, k2, s2, e2⟩; have F2 := hide f2; have K2 := hide k2; have S2 := hide s2; have E2 := hide e2; clear f2 k2 s2 e2)
          go_wp2
          go_roundg (r - (k + 1))
          case measure => rw [HG.out]; omega
          case rel => exact ⟨k + 1, gf', L', a', rfl, by omega, by go_num, HMD.out.pushed (by omega) (by omega) (by omega) F2.out (K2.out.of_from rfl rfl rfl rfl) (S2.out.of_from rfl) E2.out⟩
        · have hkr : k = r := by omega
          have HLR : Hid (Lp1 W0 wr B RP r r gf L a) := by have := HLP.out; rw [hkr] at this; exact this
          obtain ⟨wq, hq⟩ : ∃ wq, wq = wr := ⟨_, rfl⟩
          subst hq
          have hwr := HLR.out.kept.size
          clear HLP HG
          go_wp2_with (first
            | (at_make; refine wpList_make_full _ rfl (.tmp 74) (.tmp 74) 60 rfl wq.heap.size 80 i0 (.pointer none) 1 Yba.underlying60 hi hz0 hz1 _ _ _ _ d rfl rfl rfl rfl (by rw [hz2]; omega) (by unfold maxLen; omega) (Nat.le_refl _) ?_; intro W1 own2 gr2; have HG2 := hide (own_full own2); have HB2 := hide (below_of_grown gr2); clear own2 gr2))
          have l2 : wq.heap.size < W1.heap.size := (Array.getElem?_eq_some_iff.1 HG2.out).1
          have HV1 := hide ((HB2.out.block V (by omega)).trans (HLR.out.kept.block V (by omega) (by omega)))
          generalize hDP : wq.heap.size = DP at HG2 l2 hwr ⊢
          have HDP := hide hDP
          clear hDP
          go_loopg [16] d (fun g s16 wx => ∃ (j : Nat) (gd : Nat → Nat) (R G Ld : Nat), g = d - j ∧ j ≤ d ∧ s16 = .int .i64 j ∧ Lp2 W1 wx V DP d j gd R G Ld)
          case atStart =>
            refine ⟨0, fun _ => 0, 0, 0, 0, rfl, Nat.zero_le _, rfl, Kept.refl _ _, rfl, (HBA.out.deq 0 0 _).of_blocks HV1.out (fun h => absurd rfl h), fun h => absurd rfl h, HG2.out.trans (by rw [← fillV_made d (pv fun _ => 0)]; rfl), fun i hi => absurd hi (Nat.not_lt_zero _), fun h => absurd rfl h⟩
          case round =>
            obtain ⟨j, gd, R, G, Ld, hg, hj, rfl, hlp⟩ := hrel
            have HG := hide hg
            have HLP := hide hlp
            clear hg hlp
            by_cases hltj : j < d
            · have c1 : wr.cell? ⟨DP, j, none⟩ = some (.pointer none) := (cell_of_row _ _ _ _ _ _ HLP.out.row).trans (fillV_at _ _ _ _ hltj)
              have c2 : wr.frozen? ⟨DP, j, none⟩ = false := frozen_of_row _ _ _ _ _ HLP.out.row
              have hRl : DP < wr.heap.size := (Array.getElem?_eq_some_iff.1 HLP.out.row).1
              go_wp2_with fail
              have hmade := HLP.out.made hltj (by omega) (by omega) (by omega) _ (rfl : (#[Value.int IntKind.u64 0, Value.nilIface, Value.int IntKind.u64 0, Value.bool false, Value.bool false,
            Value.int IntKind.i64 0, Value.int IntKind.u64 0, Value.nilIface, Value.nilIface, Value.int IntKind.i32 0,
            Value.int IntKind.i32 0, Value.int IntKind.u32 0, Value.int IntKind.u8 0, Value.bool false, Value.bool false,
            Value.slice none 0 0, Value.map none, Value.bool false, Value.chan none, Value.nilIface, Value.nilIface] : Array Value).size = 21)
              generalize (wr.setCell ⟨DP, j, none⟩ (.pointer (some ⟨wr.heap.size, 0, none⟩))).alloc (.cells #[Value.int IntKind.u64 0, Value.nilIface, Value.int IntKind.u64 0, Value.bool false, Value.bool false,
            Value.int IntKind.i64 0, Value.int IntKind.u64 0, Value.nilIface, Value.nilIface, Value.int IntKind.i32 0,
            Value.int IntKind.i32 0, Value.int IntKind.u32 0, Value.int IntKind.u8 0, Value.bool false, Value.bool false,
            Value.slice none 0 0, Value.map none, Value.bool false, Value.chan none, Value.nilIface, Value.nilIface] 108) = wA at hmade ⊢
              generalize upd gd j wr.heap.size = gd' at hmade
              generalize wr.heap.size = gk at hmade ⊢
              have HMD := hide hmade
              have c3 : wA.cell? ⟨DP, j, none⟩ = some (.pointer (some ⟨gk, 0, none⟩)) := (cell_of_row _ _ _ _ _ _ hmade.row).trans ((fillV_get _ _ _ _ _ hltj (by omega)).trans (by rw [pv, hmade.at_]))
              have hpr : ∀ i, i < j → ProcAt wA (gd' i) ∧ gd' i ≠ V := fun i hi => ⟨(hmade.procs i (by omega)).1, by have := (hmade.procs i (by omega)).2; omega⟩
              have hpg : ProcAt wA gk ∧ gk ≠ V := by
                have h1 := hmade.procs j (by omega)
                rw [hmade.at_] at h1
                exact ⟨h1.1, by have := h1.2; omega⟩
              have HPR := hide hpr
              have HPGG := hide hpg
              clear hmade c1 c2 hpr hpg
              go_region_with (go_at_call 7; refine (dpush7 V R G Ld j gk gd' _ ?_ ?_ ?_ (by omega) ?_ ?_).mono ?_; exact HMD.out.at_; exact HMD.out.deq.of_heap rfl; exact HMD.out.h64; exact HPR.out; exact HPGG.out; rintro e w2 ⟨rfl, R', G', L', d2, f2, k2, s2, e2⟩; have D2 := hide d2; have F2 := hide f2; have K2 := hide k2; have S2 := hide s2; have E2 := hide e2; clear d2 f2 k2 s2 e2)
              go_wp2
              go_roundg (d - (j + 1))
              case measure => rw [HG.out]; omega
              case rel => exact ⟨j + 1, gd', R', G', L', rfl, by omega, by go_num, HMD.out.pushed (by omega) (by omega) (by omega) D2.out F2.out (K2.out.of_from rfl rfl rfl rfl) S2.out E2.out⟩
            · have hjd : j = d := by omega
              have hl2 := HLP.out
              rw [hjd] at hl2
              have HL2 := hide hl2
              clear hl2 HLP HG
              go_wp2_with fail
              have hmid := mid_of HBA.out HLR.out HB2.out HL2.out hVl l1 HDP.out l2 _ (rfl : (#[Value.int IntKind.u64 0, Value.nilIface, Value.int IntKind.u64 0, Value.bool false, Value.bool false,
            Value.int IntKind.i64 0, Value.int IntKind.u64 0, Value.nilIface, Value.nilIface, Value.int IntKind.i32 0,
            Value.int IntKind.i32 0, Value.int IntKind.u32 0, Value.int IntKind.u8 0, Value.bool false, Value.bool false,
            Value.slice none 0 0, Value.map none, Value.bool false, Value.chan none, Value.nilIface, Value.nilIface] : Array Value).size = 21)
              generalize wr.alloc (.cells #[Value.int IntKind.u64 0, Value.nilIface, Value.int IntKind.u64 0, Value.bool false, Value.bool false,
            Value.int IntKind.i64 0, Value.int IntKind.u64 0, Value.nilIface, Value.nilIface, Value.int IntKind.i32 0,
            Value.int IntKind.i32 0, Value.int IntKind.u32 0, Value.int IntKind.u8 0, Value.bool false, Value.bool false,
            Value.slice none 0 0, Value.map none, Value.bool false, Value.chan none, Value.nilIface, Value.nilIface] 108) = wP at hmid ⊢
              generalize upd gf r wr.heap.size = gf' at hmid
              generalize upd gd d wr.heap.size = gd' at hmid
              generalize wr.heap.size = gp at hmid ⊢
              have HMI := hide hmid
              clear hmid HL2 HLR HBA HB2 HG1 HG2 HV1 HDP
              have hm := HMI.out
              refine (enq8 B V L r R G Ld d gp a gf' gd' ended idle _ hm.sch hm.fifo hm.deq hm.h64 (by omega) (by omega) hm.s hm.chk hm.nw hm.nn (fun i hi => ⟨(hm.procs i hi).1, by have := (hm.procs i hi).2; have := hm.low; omega⟩) ⟨hm.pg, by have := hm.low; omega⟩ hm.gfr hm.gdd (by omega)
                (fun k e => by have := hm.aLo k e; omega) (fun hL => by have := hm.gLo hL; have := hm.low; omega)).mono ?_
              rintro e w3 ⟨rfl, henq⟩
              obtain ⟨L', a', R', G', Ld', haft⟩ := aft_of HMI.out henq
              have HAF := hide haft
              have q1 := haft.sch.mu
              have q2 := haft.fifo.free 315
              have q3 := haft.sch.ended
              have q4 := haft.sch.idle
              have hlow := haft.low
              clear haft henq hm HMI
              go_wp2_with fail
              refine (tryLock9 B 315 _ q1 q2).mono ?_
              rintro e w4 ⟨rfl, hw4⟩
              have HW4 := hide hw4
              clear hw4
              go_wp2_with fail
              refine (unlock_held muLib ⟨B, 315, none⟩ _ ?_ ?_).mono ?_
              · rw [HW4.out]; exact World.cell?_setCell_same _ _ _ q1
              · rw [HW4.out]; exact (frozen_setCell _ _ _ _ _).trans q2
              rintro e w5 ⟨rfl, hw5⟩
              rw [HW4.out, setCell_back _ _ _ _ _ q1] at hw5
              rw [hw5]
              clear hw5 w5 HW4
              go_wp2_with fail
              refine (loadBool B 250 ended _ q3).mono ?_
              rintro e w' ⟨rfl, hw'⟩
              rw [hw']
              clear hw' w'
              go_upto_if 114 with fail
              obtain ⟨iv, hiv⟩ : ∃ v : Int, v = (if idle then 1 else 0) := ⟨_, rfl⟩
              rw [← hiv] at q4
              have HIV := hide hiv
              clear hiv
              go_cut [18] (fun s18 wx => s18 = .int .i32 iv ∧ wx = w3)
              case first =>
                cases idle
                · go_wp2
                  go_meet
                  exact ⟨by rw [HIV.out]; rfl, rfl⟩
                · go_wp2
                  go_meet
                  exact ⟨by rw [HIV.out]; rfl, rfl⟩
              case rest =>
                obtain ⟨rfl, hwx⟩ := hcut
                rw [hwx]
                clear hwx wc
                go_wp2_with fail
                refine (load32 B 127 _ _ q4).mono ?_
                rintro e w' ⟨rfl, hw'⟩
                rw [hw']
                clear hw' w'
                clear q1 q2 q3 q4
                have hRr : RP < w3.heap.size := by omega
                have hDr : DP < w3.heap.size := by omega
                go_upto_if 133 with (first
                  | (at_make; refine wpList_make_own _ rfl _ (.tmp 122) 60 rfl w3.heap.size 80 i0 (.pointer none) 1 Yba.underlying60 hi hz0 hz1 _ _ _ (r + 1) rfl rfl (by omega) (by rw [hz2]; omega) (by unfold maxLen; omega) (Nat.le_refl _) ?_; intro x1 own1 gr1; have O1 := hide own1; have P1 := hide (below_of_none (Below.refl w3.heap.size w3) gr1 (Nat.le_refl _)); clear own1 gr1)
                  | (at_builtin; refine wpList_append_fits _ rfl (.tmp 124) (.tmp 125) 60 rfl w3.heap.size 80 i0 1 Yba.underlying60 hi hz1 w3.heap.size 0 (r + 1) [] rfl O1.out ⟨RP, 0, none⟩ r r (vals (pv gf') r) rfl (by rw [vals_length]; omega) (vals_src ((P1.out.block RP hRr).trans HAF.out.rowR)) (vals_one _ _) (by omega) ?_; intro x2 own2 gr2; have O2 : Hid (x2.ownsRow w3.heap.size 80 1 (.slice (some ⟨w3.heap.size, 0, none⟩) r (r + 1)) r (vals (pv gf') r)) := hide (by rw [Nat.zero_add, List.nil_append] at own2; exact own2); have P2 := hide (below_of_row P1.out gr2 (Nat.le_refl _) (Nat.le_refl _)); have L2 := hide (own_lt O2.out); clear own2 gr2 O1 P1)
                  | (at_make; refine wpList_make_own _ rfl _ (.tmp 128) 60 rfl w3.heap.size 80 i0 (.pointer none) 1 Yba.underlying60 hi hz0 hz1 _ _ _ (d + 1) rfl rfl (by omega) (by rw [hz2]; omega) (by unfold maxLen; omega) P2.out.size ?_; intro x3 own3 gr3; have O3 := hide own3; have P3 := hide (below_of_none P2.out gr3 (Nat.le_refl _)); have O2' := hide (own_move O2.out ((gr3.block _ (own_lt O2.out) (by simp)))); clear own3 gr3 O2)
                  | (at_builtin; refine wpList_append_fits _ rfl (.tmp 130) (.tmp 131) 60 rfl w3.heap.size 80 i0 1 Yba.underlying60 hi hz1 x2.heap.size 0 (d + 1) [] rfl O3.out ⟨DP, 0, none⟩ d d (vals (pv gd') d) rfl (by rw [vals_length]; omega) (vals_src ((P3.out.block DP hDr).trans HAF.out.rowD)) (vals_one _ _) (by omega) ?_; intro x4 own4 gr4; have O4 : Hid (x4.ownsRow w3.heap.size 80 1 (.slice (some ⟨x2.heap.size, 0, none⟩) d (d + 1)) d (vals (pv gd') d)) := hide (by rw [Nat.zero_add, List.nil_append] at own4; exact own4); have O2'' := hide (own_move O2'.out (gr4.block _ (own_lt O2'.out) (by intro e; injection e with e; have := L2.out; omega))); have P4 := hide (below_of_row P3.out gr4 P2.out.size (Nat.le_refl _)); clear own4 gr4 O3 P3 O2'))
                have l4 := hide (own_lt O2''.out)
                have l5 := hide (own_lt O4.out)
                have l6 := hide P2.out.size
                have l7 := hide L2.out
                generalize hx2 : x2.heap.size = g2 at O4 l5 l6 l7 ⊢
                clear hx2 P2 L2
                have l8 : w3.heap.size ≠ g2 := by have := l7.out; omega
                go_cut [19, 20] (fun s19 s20 wx => s19 = .slice (some ⟨w3.heap.size, 0, none⟩) (r + if ended then 0 else 1) (r + 1) ∧ s20 = .slice (some ⟨g2, 0, none⟩) (d + if ended then 1 else 0) (d + 1) ∧ Want w3 wx w3.heap.size g2 (r + if ended then 0 else 1) (d + if ended then 1 else 0) gf' gd')
                case first =>
                  cases ended
                  · go_wp2_with (at_builtin; refine wpList_append_fits _ rfl (.tmp 138) (.tmp 140) 60 rfl w3.heap.size 80 i0 1 Yba.underlying60 hi hz1 w3.heap.size r (r + 1) (vals (pv gf') r) rfl (own_move O2''.out (Below.heap_alloc _ _ _ l4.out)) ⟨x4.heap.size, 0, none⟩ 1 1 [.pointer (some ⟨gp, 0, none⟩)] rfl rfl (one_src _ _ _) (one_one _) (Nat.le_refl _) ?_; intro x5 own5 gr5; have O5 := hide own5; have G5 := hide gr5; clear own5 gr5)
                    go_meet
                    have o5 := O5.out
                    rw [vals_new HAF.out.gfr] at o5
                    have al : Below w3.heap.size x4 (x4.alloc (.cells #[.pointer (some ⟨gp, 0, none⟩)] 80)) := (Below.refl _ _).alloc (by have := l6.out; have := l5.out; omega) _
                    have e4 : ∀ b, b < x4.heap.size → b ≠ w3.heap.size → x5.heap[b]? = x4.heap[b]? := fun b hb hn => (G5.out.block b (by simp; omega) (by intro e; injection e with e; exact hn e)).trans (Below.heap_alloc _ _ _ hb)
                    refine ⟨rfl, rfl, below_of_row (P4.out.trans al) G5.out (Nat.le_refl _) (Nat.le_refl _), own_cells o5, fun i hi => ?_, Nat.le_refl _, l6.out, own_lt o5, Nat.lt_of_lt_of_le l5.out (Nat.le_trans al.size G5.out.size)⟩
                    exact (World.cell?_of_block (e4 g2 l5.out l8.symm)).trans (own_cells O4.out i hi)
                  · go_wp2_with (at_builtin; refine wpList_append_fits _ rfl (.tmp 134) (.tmp 136) 60 rfl w3.heap.size 80 i0 1 Yba.underlying60 hi hz1 g2 d (d + 1) (vals (pv gd') d) rfl (own_move O4.out (Below.heap_alloc _ _ _ l5.out)) ⟨x4.heap.size, 0, none⟩ 1 1 [.pointer (some ⟨gp, 0, none⟩)] rfl rfl (one_src _ _ _) (one_one _) (Nat.le_refl _) ?_; intro x5 own5 gr5; have O5 := hide own5; have G5 := hide gr5; clear own5 gr5)
                    go_meet
                    have o5 := O5.out
                    rw [vals_new HAF.out.gdd] at o5
                    have al : Below w3.heap.size x4 (x4.alloc (.cells #[.pointer (some ⟨gp, 0, none⟩)] 80)) := (Below.refl _ _).alloc (by have := l6.out; have := l5.out; omega) _
                    have e4 : ∀ b, b < x4.heap.size → b ≠ g2 → x5.heap[b]? = x4.heap[b]? := fun b hb hn => (G5.out.block b (by simp; omega) (by intro e; injection e with e; exact hn e)).trans (Below.heap_alloc _ _ _ hb)
                    refine ⟨rfl, rfl, below_of_row (P4.out.trans al) G5.out l6.out (Nat.le_refl _), fun i hi => ?_, own_cells o5, Nat.le_refl _, l6.out, Nat.lt_of_lt_of_le l4.out (Nat.le_trans al.size G5.out.size), own_lt o5⟩
                    exact (World.cell?_of_block (e4 _ l4.out l8)).trans (own_cells O2''.out i hi)
                case rest =>
                  obtain ⟨hs19, hs20, hwant⟩ := hcut
                  obtain ⟨rr, hrr⟩ : ∃ rr, rr = r + if ended then 0 else 1 := ⟨_, rfl⟩
                  obtain ⟨dd, hdd⟩ : ∃ dd, dd = d + if ended then 1 else 0 := ⟨_, rfl⟩
                  have hr300 : rr ≤ 300 := by rw [hrr]; split <;> omega
                  have hd300 : dd ≤ 300 := by rw [hdd]; split <;> omega
                  rw [← hrr] at hs19 hwant
                  rw [← hdd] at hs20 hwant
                  have hla := last_of HAF.out hwant hrr hdd
                  rw [hs19, hs20]
                  generalize w3.heap.size = g1 at hla ⊢
                  have HLA := hide hla
                  clear hs19 hs20 hwant hrr hdd hla HAF O2'' O4 P4 l4 l5 l6 l7 l8 hRr hDr
                  go_wp2_with (first
                    | (at_make; refine wpList_make_full _ rfl (.tmp 144) (.tmp 144) 60 rfl wc.heap.size 80 i0 (.pointer none) 1 Yba.underlying60 hi hz0 hz1 _ _ _ _ (rr + 2) rfl rfl (by omega) (by omega) (by rw [hz2]; omega) (by unfold maxLen; omega) (Nat.le_refl _) ?_; intro y1 own6 gr6; have HG6 := hide (own_full own6); have HB6 := hide (below_of_grown gr6); clear own6 gr6))
                  have hl1 : wc.heap.size < y1.heap.size := (Array.getElem?_eq_some_iff.1 HG6.out).1
                  have HL1 := hide (HLA.out.keep HB6.out)
                  have hlo := HLA.out.low
                  have haa := hide (fun k e => HLA.out.aLo k e)
                  have hgg := hide HLA.out.gLo
                  have D0 : Hid (y1.heap[wc.heap.size]? = some (.cells (fillV (rr + 2) (pv gf') (.pointer none) 0) 80 (0, 0))) := HG6.out.trans (by rw [← fillV_made (rr + 2) (pv gf')]; rfl)
                  generalize wc.heap.size = DB at hl1 hlo hgg D0 ⊢
                  clear HG6 HB6 HLA
                  refine (popMany13 B L' rr DB a' (pv gf') y1 (fun i _ => ⟨_, rfl⟩) HL1.out.fifo (by omega) D0.out (by omega) (fun e => by have := haa.out _ e; omega)).mono ?_
                  rintro e y2 ⟨rfl, hD2, hk2⟩
                  have HD2 := hide hD2
                  have HK2 := hide hk2
                  have HTL := hide (tail_of HL1.out hk2 _ D0.out (by omega))
                  clear hD2 hk2 D0
                  have hrun : ∀ i, i < rr → y2.cell? ⟨g1, i, none⟩ = some (pv gf' i) := fun i hi => by
                    refine (HK2.out.cell (p := ⟨g1, i, none⟩) ?_ ?_).trans (HL1.out.run i hi)
                    · show g1 < _
                      omega
                    · rintro (e | e | e)
                      · have e' : g1 = B := e
                        omega
                      · have e' := haa.out g1 e
                        omega
                      · have e' : g1 = DB := e
                        omega
                  have hbuf : ∀ i, i < rr → y2.cell? ⟨DB, i, none⟩ = some (pv gf' i) := fun i hi => (cell_of_row _ _ _ _ _ _ HD2.out).trans (fillV_get _ _ _ _ _ (by omega) hi)
                  have HRUN := hide hrun
                  have HBUF := hide hbuf
                  clear hrun hbuf
                  have hn80 := neq80
                  go_wp2_with fail
                  go_loopg [23] rr (fun g s23 wx => ∃ k q : Nat, g = rr - k ∧ k ≤ rr ∧ s23 = .int .i64 k ∧ wx = y2.drewN q)
                  case atStart => exact ⟨0, 0, rfl, Nat.zero_le _, rfl, rfl⟩
                  case round =>
                    obtain ⟨k3, q3, hg3, hk3, rfl, hwr⟩ := hrel
                    have HG3 := hide hg3
                    rw [hwr]
                    clear hg3 hwr
                    by_cases hlt3 : k3 < rr
                    · have m1 : y2.cell? ⟨g1, k3, none⟩ = some (.pointer (some ⟨gf' k3, 0, none⟩)) := HRUN.out k3 hlt3
                      have m2 : y2.cell? ⟨DB, k3, none⟩ = some (.pointer (some ⟨gf' k3, 0, none⟩)) := HBUF.out k3 hlt3
                      have m3 : (k3 : Int) < (rr : Int) + 2 := by omega
                      go_wp2
                      go_quiet (fail)
                      go_wp2
                      go_roundg (rr - (k3 + 1))
                      case measure => rw [HG3.out]; omega
                      case rel => exact ⟨k3 + 1, _, rfl, by omega, by go_num, rfl⟩
                    · have htl3 := HTL.out.drewN q3
                      generalize y2.drewN q3 = y3 at htl3 ⊢
                      have HT3 := hide htl3
                      clear htl3 HTL HRUN HBUF HK2 HD2 HL1 HG3 haa hgg hlo
                      go_wp2_with fail
                      go_loopg [24] dd (fun g s24 wx => ∃ m : Nat, g = m ∧ m ≤ dd ∧ s24 = .int .i64 ((m : Int) - 1) ∧ Tail w wx V R' G' Ld' g2 m gd')
                      case atStart => exact ⟨dd, rfl, Nat.le_refl _, by go_num, HT3.out⟩
                      case round =>
                        obtain ⟨m, hg4, hm4, rfl, htl⟩ := hrel
                        have HG4 := hide hg4
                        have HT := hide htl
                        clear hg4 htl HT3
                        cases m with
                        | succ m =>
                          have e4 : ((m + 1 : Nat) : Int) - 1 = (m : Int) := by omega
                          rw [e4]
                          clear e4
                          have n1 : wr.cell? ⟨g2, m, none⟩ = some (.pointer (some ⟨gd' m, 0, none⟩)) := HT.out.wdeq m (by omega)
                          have n2 : (m : Int) < (dd : Int) := by omega
                          go_wp2_with fail
                          go_region_held (fun w' => w'.cell? ⟨g2, m, none⟩ = some (.pointer (some ⟨gd' m, 0, none⟩))) (go_keep)
                            ((go_at_call 14; refine (pop_any V R' G' Ld' g2 m gd' HT.out (by omega) _ ?_ ?_ ?_ ?_).mono ?_; rfl; rfl; rfl; rfl; rintro e w5 ⟨rfl, ht5, hc5⟩; have HT5 := hide ht5; clear ht5))
                          go_wp2
                          go_roundg m
                          case measure => rw [HG4.out]; omega
                          case rel => exact ⟨m, rfl, by omega, by go_num, HT5.out.of_heap rfl HT5.out.below⟩
                        | zero =>
                          have hn81 := eqNone80
                          go_wp2_with fail
                          refine (pop_none V R' G' Ld' g2 gd' HT.out).mono ?_
                          rintro e w' ⟨rfl, hw'⟩
                          rw [hw']
                          clear hw' w'
                          go_wp2
                          go_ret
                          exact ⟨rfl, HT.out.below⟩
end Go.Proofs.Ybulkfeoc
