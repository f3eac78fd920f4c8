import Derived.Test.YbulkfeoqC
import Derived.Deep.DeepCutAuto
import Derived.Deep.CutBlock
namespace Go.Proofs.Ybulkfeoq
open Go.RowKit
set_option linter.unusedVariables false
set_option linter.unusedSimpArgs false

/-- The k-th byte. -/
def bt (t : ByteArray) (k : Nat) : Int := ((t.data.toList.getD k 0).toNat : Nat)
theorem bt_eq (t : ByteArray) (k : Nat) (h : k < t.size) : ((t[k].toNat : Nat) : Int) = bt t k := by
  unfold bt
  rw [List.getD_eq_getElem?_getD, List.getElem?_eq_getElem (by rw [← Lib.size_eq]; exact h)]
  simp [ByteArray.getElem_eq_getElem_data]
def w1 (t : ByteArray) : Bool := decide (0 < t.size) && dg (bt t 0)
def v1 (t : ByteArray) : Bool := !w1 t && decide (3 ≤ t.size) && (bt t 0 == 70) && (bt t 1 == 76) && dg (bt t 2)
theorem num_eq (t : ByteArray) : num t.data.toList = (w1 t || v1 t) := by
  unfold num w1 v1 w1 bt
  rw [Lib.size_eq]
  rcases t.data.toList with _ | ⟨a, _ | ⟨b, _ | ⟨c, l⟩⟩⟩
  · rfl
  · simp [Lib.trimPrefix, Lib.hasPrefix]
  · by_cases h : (70 : UInt8) = a ∧ (76 : UInt8) = b
    · obtain ⟨rfl, rfl⟩ := h
      rfl
    · have : Lib.hasPrefix [a, b] [70, 76] = false := by
        simp only [Lib.hasPrefix, List.isPrefixOf, Bool.and_true, Bool.and_eq_false_iff, beq_eq_false_iff_ne]
        by_cases h1 : (70 : UInt8) = a
        · exact .inr fun h2 => h ⟨h1, h2⟩
        · exact .inl h1
      simp [Lib.trimPrefix, this]
  · by_cases h : (70 : UInt8) = a ∧ (76 : UInt8) = b
    · obtain ⟨rfl, rfl⟩ := h
      simp [Lib.trimPrefix, Lib.hasPrefix, dg]
    · have hp : Lib.hasPrefix (a :: b :: c :: l) [70, 76] = false := by
        simp only [Lib.hasPrefix, List.isPrefixOf, Bool.and_true, Bool.and_eq_false_iff, beq_eq_false_iff_ne]
        by_cases h1 : (70 : UInt8) = a
        · exact .inr fun h2 => h ⟨h1, h2⟩
        · exact .inl h1
      have hn : ¬ ((a.toNat : Int) = 70 ∧ (b.toNat : Int) = 76) := fun ⟨h1, h2⟩ => h ⟨UInt8.toNat_inj.1 (by simpa using (by omega : (70 : Nat) = a.toNat)), UInt8.toNat_inj.1 (by simpa using (by omega : (76 : Nat) = b.toNat))⟩
      simp only [Lib.trimPrefix, hp, List.getD_cons_zero, List.getD_cons_succ]
      by_cases h1 : (a.toNat : Int) = 70
      · have h2 : ¬ (b.toNat : Int) = 76 := fun h2 => hn ⟨h1, h2⟩
        simp [h1, h2]
      · simp [h1]

set_option maxRecDepth 100000 in
set_option maxHeartbeats 2000000 in
theorem law4 (a0 a1 a2 : Option Addr) (n0 n1 n2 c0 c1 c2 : Nat) (x0 x1 x2 : Nat → ByteArray) (nr : Bool) (s : ByteArray) (w : World) (i0 : IsS w a0 n0 x0) (i1 : IsS w a1 n1 x1) (i2 : IsS w a2 n2 x2)
    (h0 : n0 ≤ 140737488351232) (h1 : n1 ≤ 140737488351232) (h2 : n2 ≤ 140737488351232) (hs : s.size ≤ 140737488351232) (hx : ∀ j, j < n0 → (x0 j).size ≤ 140737488351232) :
    Calls Yba.prog 4 #[.slice a0 n0 c0, .slice a1 n1 c1, .slice a2 n2 c2, .bool nr, .string s] w fun e w' => e = .returned (.bool true) ∧ Below w.heap.size w w' := by
  have I0 := hide i0
  have I1 := hide i1
  have I2 := hide i2
  have HX := hide hx
  clear i0 i1 i2 hx
  go_enter Yba.func4, Yba.ntmps4
  go_wp2
  go_loopg [11, 12] n0 (fun g s11 s12 wr => ∃ k T : Nat, g = n0 - k ∧ k ≤ n0 ∧ s12 = .int .i64 k ∧ s11 = .int .i64 T ∧ s.size + n0 + n1 + n2 ≤ T ∧ T ≤ 1125899906842624 ∧ wr = w)
  case atStart => exact ⟨0, s.size + n0 + n1 + n2, rfl, Nat.zero_le _, rfl, by go_num, Nat.le_refl _, by omega, rfl⟩
  case round =>
    obtain ⟨k, T, hg, hk, rfl, rfl, hT, hT', rfl⟩ := hrel
    by_cases hlt : k < n0
    · by_cases hsm : (T : Int) ≤ 1048576
      · obtain ⟨b, off, rfl, hl, hc⟩ := I0.out.read (by omega)
        have g1 := hc k hlt
        have g2 := HX.out k hlt
        clear hc
        go_wp2
        go_roundg (n0 - (k + 1))
        case measure => omega
        case rel => exact ⟨k + 1, T + (x0 k).size, rfl, by omega, by go_num, by go_num, by omega, by omega, rfl⟩
      · have hbig : (1048576 : Int) < (T : Int) := by omega
        go_wp2
        go_ret
        exact ⟨rfl, Below.refl _ _⟩
    · by_cases hsm : (1048576 : Int) < (T : Int)
      · go_wp2
        go_ret
        exact ⟨rfl, Below.refl _ _⟩
      · have e0 : n0 ≤ 1048576 := by omega
        have e1 : n1 ≤ 1048576 := by omega
        have e2 : n2 ≤ 1048576 := by omega
        have es : s.size ≤ 1048576 := by omega
        clear hT hT' hg
        go_wp2_with fail
        refine (copy9 a0 n0 c0 x0 _ I0.out e0).mono ?_
        rintro e W1 ⟨b0, d0, rfl, m0, bl1, j0⟩
        have J0 := hide j0
        have B1 := hide bl1
        clear j0 bl1
        go_wp2_with fail
        refine (copy9 a1 n1 c1 x1 _ (I1.out.below (Nat.le_refl _) B1.out) e1).mono ?_
        rintro e W2 ⟨b1, d1, rfl, m1, bl2, j1⟩
        have J1 := hide j1
        have B2 := hide (B1.out.trans (bl2.mono B1.out.size))
        have J0' := hide (J0.out.below (Nat.le_refl _) bl2)
        clear j1 bl2 J0 B1
        go_wp2_with fail
        refine (copy9 a2 n2 c2 x2 _ (I2.out.below (Nat.le_refl _) B2.out) e2).mono ?_
        rintro e W3 ⟨b2, d2, rfl, m2, bl3, j2⟩
        have J2 := hide j2
        have B3 := hide (B2.out.trans (bl3.mono B2.out.size))
        have K0 := hide (J0'.out.below (Nat.le_refl _) bl3)
        have K1 := hide (J1.out.below (Nat.le_refl _) bl3)
        clear j2 bl3 J0' J1 B2
        go_wp2_with fail
        have f0 : (W3.alloc (.cells #[.slice a0 n0 c0, .slice a1 n1 c1, .slice a2 n2 c2, .bool nr] 42)).heap[W3.heap.size]? = some (.cells #[.slice a0 n0 c0, .slice a1 n1 c1, .slice a2 n2 c2, .bool nr] 42 (0, 0)) := Go.heap_alloc_new _ _
        have bA : Below W3.heap.size W3 (W3.alloc (.cells #[.slice a0 n0 c0, .slice a1 n1 c1, .slice a2 n2 c2, .bool nr] 42)) := (Below.refl _ _).alloc (Nat.le_refl _) _
        refine (beg10 s W3.heap.size a0 n0 c0 x0 _ (cell_of_row _ _ _ _ _ _ f0) ((I0.out.below (Nat.le_refl _) B3.out).below (Nat.le_refl _) bA) e0 es).mono ?_
        rintro e W4 ⟨⟨i, hl, he⟩, bl4⟩
        obtain ⟨g, hgt⟩ : ∃ g, g = (num (s.extract i s.size).data.toList || some1 (s.extract i s.size) x0 n0) := ⟨_, rfl⟩
        rw [← hgt] at he
        obtain rfl := he
        have HGT := hide hgt
        clear hgt
        have sz : (W3.alloc (.cells #[.slice a0 n0 c0, .slice a1 n1 c1, .slice a2 n2 c2, .bool nr] 42)).heap.size = W3.heap.size + 1 := by simp
        have bW : Below W3.heap.size W3 W4 := bA.trans (bl4.mono (by omega))
        have f4 : W4.heap[W3.heap.size]? = some (.cells #[.slice a0 n0 c0, .slice a1 n1 c1, .slice a2 n2 c2, .bool nr] 42 (0, 0)) := (bl4.block _ (by omega)).trans f0
        have F0 : W4.cell? ⟨W3.heap.size, 0, none⟩ = some (.slice a0 n0 c0) := cell_of_row _ _ _ _ _ _ f4
        have F1 : W4.cell? ⟨W3.heap.size, 1, none⟩ = some (.slice a1 n1 c1) := cell_of_row _ _ _ _ _ _ f4
        have F2 : W4.cell? ⟨W3.heap.size, 2, none⟩ = some (.slice a2 n2 c2) := cell_of_row _ _ _ _ _ _ f4
        have F3 : W4.cell? ⟨W3.heap.size, 3, none⟩ = some (.bool nr) := cell_of_row _ _ _ _ _ _ f4
        have L0 := hide ((I0.out.below (Nat.le_refl _) B3.out).below (Nat.le_refl _) bW)
        have L1 := hide ((I1.out.below (Nat.le_refl _) B3.out).below (Nat.le_refl _) bW)
        have L2 := hide ((I2.out.below (Nat.le_refl _) B3.out).below (Nat.le_refl _) bW)
        have M0 := hide (K0.out.below (Nat.le_refl _) bW)
        have M1 := hide (K1.out.below (Nat.le_refl _) bW)
        have M2 := hide (J2.out.below (Nat.le_refl _) bW)
        have B4 := hide (B3.out.trans (bW.mono B3.out.size))
        have HL := hide hl
        generalize W3.heap.size = BB at F0 F1 F2 F3 ⊢
        clear f0 bA sz bW f4 bl4 I0 I1 I2 K0 K1 J2 B3 hl
        go_upto_block 2 with fail
        go_cut [18] (fun s18 wx => s18 = .int .i64 i ∧ wx = W4)
        case first =>
          go_wp2_with fail
          go_loopg [18] s.size (fun g j wr => ∃ k : Nat, g = s.size - k ∧ k ≤ s.size ∧ (∀ j (h : j < s.size), j < k → sp ((s[j].toNat : Nat) : Int) = true) ∧ j = .int .i64 k ∧ wr = W4)
          case atStart => exact ⟨0, rfl, Nat.zero_le _, fun j _ h => absurd h (Nat.not_lt_zero _), rfl, rfl⟩
          case round =>
            obtain ⟨k2, hg2, hk2, hall, rfl, rfl⟩ := hrel
            have HA := hide hall
            clear hall
            by_cases hlt2 : k2 < s.size
            · go_wp2_with fail
              refine (space11 _ _).mono ?_
              rintro e w' ⟨rfl, rfl⟩
              by_cases hsp : sp ((s[k2].toNat : Nat) : Int) = true
              · go_wp2
                go_roundg (s.size - (k2 + 1))
                case measure => omega
                case rel =>
                  refine ⟨k2 + 1, rfl, by omega, fun j h hj => ?_, by go_num, rfl⟩
                  by_cases hjk : j < k2
                  · exact HA.out j h hjk
                  · obtain rfl : j = k2 := by omega
                    exact hsp
              · have hsp' : sp ((s[k2].toNat : Nat) : Int) = false := by simpa using hsp
                clear hsp
                go_wp2
                go_meet
                exact ⟨by rw [HL.out.same ⟨hk2, HA.out, fun _ => hsp'⟩], rfl⟩
            · go_wp2
              go_meet
              exact ⟨by rw [HL.out.same ⟨hk2, HA.out, fun h => absurd h hlt2⟩], rfl⟩
        case rest =>
          obtain ⟨rfl, rfl⟩ := hcut
          have hi := HL.out.le
          go_upto_region 17 with fail
          have hts : (s.extract i s.size).size ≤ s.size := by rw [ByteArray.size_extract]; omega
          generalize s.extract i s.size = t at HGT hts ⊢
          have htl : t.size ≤ 140737488351232 := by omega
          go_cut [20] (fun s20 wx => s20 = .bool (w1 t) ∧ wx = wc)
          case first =>
            by_cases ht0 : (0 : Int) < (t.size : Int)
            · go_wp2_with fail
              refine (digit12 _ _).mono ?_
              rintro e w' ⟨rfl, rfl⟩
              go_wp2
              go_meet
              refine ⟨?_, rfl⟩
              rw [bt_eq t 0 (by omega), w1, decide_eq_true (by omega : 0 < t.size)]
              rfl
            · go_wp2
              go_meet
              refine ⟨?_, rfl⟩
              rw [w1, decide_eq_false (by omega : ¬ 0 < t.size)]
              rfl
          case rest =>
            obtain ⟨rfl, rfl⟩ := hcut
            go_upto_region 18 with fail
            go_cut [20, 111] (fun s20 s111 wx => s20 = .bool (w1 t) ∧ s111 = .bool (v1 t) ∧ wx = wc)
            case first =>
              cases hw : w1 t
              · by_cases ht3 : (3 : Int) ≤ (t.size : Int)
                · have q0 : (0 : Int) < (t.size : Int) := by omega
                  have q1 : (1 : Int) < (t.size : Int) := by omega
                  have q2 : (2 : Int) < (t.size : Int) := by omega
                  have z0 := bt_eq t 0 (by omega)
                  have z1 := bt_eq t 1 (by omega)
                  have z2 := bt_eq t 2 (by omega)
                  by_cases p0 : bt t 0 = 70
                  · by_cases p1 : bt t 1 = 76
                    · have hv : Hid (v1 t = dg (bt t 2)) := by unfold Hid v1; rw [hw, p0, p1, decide_eq_true (by omega : 3 ≤ t.size)]; rfl
                      have HW := hide hw
                      go_wp2_with fail
                      refine (digit12 _ _).mono ?_
                      rintro e w' ⟨rfl, rfl⟩
                      go_wp2
                      go_meet
                      exact ⟨by rw [HW.out], by rw [hv.out], rfl⟩
                    · have hv : Hid (v1 t = false) := by unfold Hid v1; simp [p1]
                      have HW := hide hw
                      go_wp2
                      go_meet
                      exact ⟨by rw [HW.out], by rw [hv.out], rfl⟩
                  · have hv : Hid (v1 t = false) := by unfold Hid v1; simp [p0]
                    have HW := hide hw
                    go_wp2
                    go_meet
                    exact ⟨by rw [HW.out], by rw [hv.out], rfl⟩
                · have hv : Hid (v1 t = false) := by unfold Hid v1; rw [decide_eq_false (by omega : ¬ 3 ≤ t.size)]; simp
                  have HW := hide hw
                  go_wp2
                  go_meet
                  exact ⟨by rw [HW.out], by rw [hv.out], rfl⟩
              · have hv : Hid (v1 t = false) := by unfold Hid v1; rw [hw]; rfl
                have HW := hide hw
                go_wp2
                go_meet
                exact ⟨by rw [HW.out], by rw [hv.out], rfl⟩
            case rest =>
              obtain ⟨rfl, rfl, rfl⟩ := hcut
              go_upto_if 111 with fail
              go_cut [20] (fun s20 wx => s20 = .bool (num t.data.toList) ∧ wx = wc)
              case first =>
                cases hv : v1 t
                · go_wp2
                  go_meet
                  exact ⟨by rw [num_eq, hv, Bool.or_false], rfl⟩
                · go_wp2
                  go_meet
                  exact ⟨by rw [num_eq, hv, Bool.or_true], rfl⟩
              case rest =>
                obtain ⟨rfl, rfl⟩ := hcut
                go_upto_block 4 with fail
                go_cut [20] (fun s20 wx => s20 = .bool g ∧ ∃ q, wx = wc.drewN q)
                case first =>
                  go_wp2_with fail
                  go_loopg [20, 21] n0 (fun gk s20 s21 wr => ∃ (k q : Nat) (bb : Bool), gk = n0 - k ∧ k ≤ n0 ∧ s21 = .int .i64 k ∧ s20 = .bool bb ∧ (bb = true → g = true) ∧ (bb = false → num t.data.toList = false ∧ some1 t x0 k = false) ∧ wr = wc.drewN q)
                  case atStart =>
                    refine ⟨0, 0, num t.data.toList, rfl, Nat.zero_le _, rfl, rfl, fun h => ?_, fun h => ⟨h, rfl⟩, rfl⟩
                    rw [HGT.out, h]; rfl
                  case round =>
                    obtain ⟨k3, q, bb, hg3, hk3, rfl, rfl, hb1, hb2, rfl⟩ := hrel
                    have HG3 := hide hg3
                    clear hg3
                    cases bb with
                    | true =>
                      have HB := hide (hb1 rfl)
                      clear hb1 hb2
                      by_cases hlt3 : k3 < n0
                      · go_wp2
                        go_meet
                        exact ⟨by rw [HB.out], _, rfl⟩
                      · go_wp2
                        go_meet
                        exact ⟨by rw [HB.out], _, rfl⟩
                    | false =>
                      have HB := hide (hb2 rfl)
                      clear hb1 hb2
                      by_cases hlt3 : k3 < n0
                      · obtain ⟨b, off, rfl, hlb, hcb⟩ := L0.out.read (by omega)
                        have gw := hcb k3 hlt3
                        have gx := HX.out k3 hlt3
                        clear hcb
                        go_wp2_with fail
                        refine (prefix13 t (x0 k3) _ htl gx).mono ?_
                        rintro e w' ⟨rfl, q3, rfl⟩
                        by_cases hp : Lib.hasPrefix t.data.toList (x0 k3).data.toList = true
                        · have HP := hide hp
                          go_wp2
                          go_roundg (n0 - (k3 + 1))
                          case measure => rw [HG3.out]; omega
                          case rel => exact ⟨k3 + 1, _, true, rfl, by omega, by go_num, rfl, fun _ => by rw [HGT.out, some1_of hlt3 HP.out, Bool.or_true], fun h => (by cases h), rfl⟩
                        · have hp' : Lib.hasPrefix t.data.toList (x0 k3).data.toList = false := by simpa using hp
                          have HP := hide hp'
                          clear hp
                          go_wp2
                          go_roundg (n0 - (k3 + 1))
                          case measure => rw [HG3.out]; omega
                          case rel => exact ⟨k3 + 1, _, false, rfl, by omega, by go_num, rfl, fun h => (by cases h), fun _ => ⟨HB.out.1, by rw [some1_step, HB.out.2, HP.out]; rfl⟩, rfl⟩
                      · have HE : Hid (k3 = n0) := (by omega : k3 = n0)
                        go_wp2
                        go_meet
                        refine ⟨?_, _, rfl⟩
                        have hb := HB.out
                        rw [HE.out] at hb
                        rw [HGT.out, hb.1, hb.2]
                        rfl
                case rest =>
                  obtain ⟨rfl, q, rfl⟩ := hcut
                  go_wp2_with fail
                  refine (same14 _ _ _ _ _ x0 _ (L0.out.drew _) (M0.out.drew _) m0 e0).mono ?_
                  rintro e w' ⟨rfl, q1, rfl⟩
                  go_wp2_with fail
                  refine (same14 _ _ _ _ _ x1 _ (L1.out.drew _) (M1.out.drew _) m1 e1).mono ?_
                  rintro e w' ⟨rfl, q2, rfl⟩
                  go_wp2_with fail
                  refine (same14 _ _ _ _ _ x2 _ (L2.out.drew _) (M2.out.drew _) m2 e2).mono ?_
                  rintro e w' ⟨rfl, q3, rfl⟩
                  go_wp2_with fail
                  refine (same14 _ _ _ _ _ x0 _ (L0.out.drew _) (M0.out.drew _) m0 e0).mono ?_
                  rintro e w' ⟨rfl, q4, rfl⟩
                  go_wp2_with fail
                  refine (same14 _ _ _ _ _ x1 _ (L1.out.drew _) (M1.out.drew _) m1 e1).mono ?_
                  rintro e w' ⟨rfl, q5, rfl⟩
                  go_wp2_with fail
                  refine (same14 _ _ _ _ _ x2 _ (L2.out.drew _) (M2.out.drew _) m2 e2).mono ?_
                  rintro e w' ⟨rfl, q6, rfl⟩
                  go_wp2_with fail
                  go_ret
                  exact ⟨rfl, below_drewN B4.out _⟩
end Go.Proofs.Ybulkfeoq
