import Derived.Test.YbulkfcoyDoorYi
namespace Go.Proofs.YbulkfcoyDoor
open Go.RowKit
set_option linter.unusedVariables false
set_option linter.unusedSimpArgs false

def szOf (six : Bool) : Nat := if six then 16 else 4
/-- The address's two words, of the bytes from place o on. -/
def hiOf (six : Bool) (x : Nat → Int) (o : Nat) : Int := if six then be64 (x (o + 0)) (x (o + 1)) (x (o + 2)) (x (o + 3)) (x (o + 4)) (x (o + 5)) (x (o + 6)) (x (o + 7)) else 0
def loOf (six : Bool) (x : Nat → Int) (o : Nat) : Int := if six then be64 (x (o + 8)) (x (o + 9)) (x (o + 10)) (x (o + 11)) (x (o + 12)) (x (o + 13)) (x (o + 14)) (x (o + 15)) else ad4 (x (o + 0)) (x (o + 1)) (x (o + 2)) (x (o + 3))
def ptOf (six : Bool) (p4 p6 : Option Addr) : Option Addr := if six then p6 else p4
def vals (six : Bool) (x : Nat → Int) (p4 p6 : Option Addr) (k : Nat) : List Value :=
  (List.range k).flatMap (fun i => [.int .u64 (hiOf six x (i * szOf six)), .int .u64 (loOf six x (i * szOf six)), .pointer (ptOf six p4 p6)])
theorem vals_succ (six : Bool) (x : Nat → Int) (p4 p6 : Option Addr) (k : Nat) :
    vals six x p4 p6 (k + 1) = vals six x p4 p6 k ++ [.int .u64 (hiOf six x (k * szOf six)), .int .u64 (loOf six x (k * szOf six)), .pointer (ptOf six p4 p6)] := by
  simp [vals, List.range_succ]
def wantN (s cnt : Nat) : Nat := if 0 < s ∧ s < cnt then s else cnt

theorem fromSlice_any (six : Bool) (b o c : Nat) (x : Nat → Int) (p4 p6 : Option Addr) (w : World) (h4 : w.cell? ⟨0, 0, none⟩ = some (.pointer p4)) (h6 : w.cell? ⟨1, 0, none⟩ = some (.pointer p6))
    (h : ∀ j, j < szOf six → w.cell? ⟨b, o + j, none⟩ = some (.int .u8 (x (o + j)))) :
    Calls Ybad.prog 10 #[.slice (some ⟨b, o, none⟩) (szOf six) c] w fun e w' => e = .returned (.tuple #[.agg #[.int .u64 (hiOf six x o), .int .u64 (loOf six x o), .pointer (ptOf six p4 p6)], .bool true]) ∧ Below w.heap.size w w' := by
  cases six
  · have e1 : hiOf false x o = 0 := by simp [hiOf]
    have e2 : loOf false x o = ad4 (x (o + 0)) (x (o + 1)) (x (o + 2)) (x (o + 3)) := by simp only [loOf, Bool.false_eq_true, if_false]
    have e3 : ptOf false p4 p6 = p4 := rfl
    have e4 : szOf false = 4 := rfl
    rw [e4] at h
    have := fromSlice4 b o c (fun j => x (o + j)) p4 w h4 h
    unfold val4 at this
    rw [e1, e2, e3, e4]
    exact this
  · have e1 : hiOf true x o = be64 (x (o + 0)) (x (o + 1)) (x (o + 2)) (x (o + 3)) (x (o + 4)) (x (o + 5)) (x (o + 6)) (x (o + 7)) := by simp only [hiOf, if_true]
    have e2 : loOf true x o = be64 (x (o + 8)) (x (o + 9)) (x (o + 10)) (x (o + 11)) (x (o + 12)) (x (o + 13)) (x (o + 14)) (x (o + 15)) := by simp only [loOf, if_true]
    have e3 : ptOf true p4 p6 = p6 := rfl
    have e4 : szOf true = 16 := rfl
    rw [e4] at h
    have := fromSlice16 b o c (fun j => x (o + j)) p6 w h6 h
    unfold val16 at this
    rw [e1, e2, e3, e4]
    exact this

theorem grown_of_below {w w' : World} (h : Below w.heap.size w w') : w.grownBy w' none := ⟨h.os, h.tape, h.output, h.size, fun k hk _ => h.block k hk⟩

set_option maxHeartbeats 2000000 in
theorem iter_any (six : Bool) (gG gC gS gB gA base n cnt s : Nat) (x : Nat → Int) (p4 p6 : Option Addr) (w : World)
    (hcG : w.cell? ⟨gG, 0, none⟩ = some (.slice none 0 0)) (hcC : w.cell? ⟨gC, 0, none⟩ = some (.int .i64 0)) (hcS : w.cell? ⟨gS, 0, none⟩ = some (.int .i64 s))
    (hB1 : w.cell? ⟨gB, 1, none⟩ = some (.slice (some ⟨gA, 0, none⟩) n n)) (hB2 : w.cell? ⟨gB, 2, none⟩ = some (.int .i64 (szOf six)))
    (h4 : w.cell? ⟨0, 0, none⟩ = some (.pointer p4)) (h6 : w.cell? ⟨1, 0, none⟩ = some (.pointer p6))
    (hx : ∀ j, j < n → w.cell? ⟨gA, j, none⟩ = some (.int .u8 (x j)))
    (hfG : w.frozen? ⟨gG, 0, none⟩ = false) (hfC : w.frozen? ⟨gC, 0, none⟩ = false)
    (hGC : gG ≠ gC) (hGS : gG ≠ gS) (hCS : gC ≠ gS) (hGB : gB ≠ gG) (hCB : gB ≠ gC) (hGA : gA ≠ gG) (hCA : gA ≠ gC) (hG1 : 1 < gG) (hC1 : 1 < gC)
    (hG : gG < base) (hC : gC < base) (hS : gS < base) (hB : gB < base) (hA : gA < base) (hb : base ≤ w.heap.size) (hn : n = cnt * szOf six) (hn2 : n ≤ 1048576) (hs : s ≤ 255) :
    Calls Ybad.prog 9 #[.func (.func 6) #[] #[.pointer (some ⟨gG, 0, none⟩), .pointer (some ⟨gC, 0, none⟩), .pointer (some ⟨gS, 0, none⟩)], .pointer (some ⟨gB, 0, none⟩)] w fun e w' =>
      e = .returned (.tuple #[]) ∧ ∃ v', w'.cell? ⟨gG, 0, none⟩ = some v' ∧ w'.ownsRow base 38 3 v' (wantN s cnt) (vals six x p4 p6 (wantN s cnt)) ∧
        w'.cell? ⟨gC, 0, none⟩ = some (.int .i64 (wantN s cnt)) ∧ Keep gG gC base w w' := by
  have HX : Hid (∀ j, j < n → w.cell? ⟨gA, j, none⟩ = some (.int .u8 (x j))) := hx
  have HN : Hid (n = cnt * szOf six) := hn
  obtain ⟨Z, hZ⟩ : ∃ Z, Z = szOf six := ⟨_, rfl⟩
  have hZ16 : Z ≤ 16 := by rw [hZ]; cases six <;> decide
  have hZ1 : 1 ≤ Z := by rw [hZ]; cases six <;> decide
  have HZ : Hid (Z = szOf six) := hZ
  rw [← hZ] at hB2
  clear hx hn hZ
  have KB1 : Hid (w.cell? ⟨gB, 1, none⟩ = some (.slice (some ⟨gA, 0, none⟩) n n)) := hB1
  have KB2 : Hid (w.cell? ⟨gB, 2, none⟩ = some (.int .i64 Z)) := hB2
  have K4 : Hid (w.cell? ⟨0, 0, none⟩ = some (.pointer p4)) := h4
  have K6 : Hid (w.cell? ⟨1, 0, none⟩ = some (.pointer p6)) := h6
  have KS : Hid (w.cell? ⟨gS, 0, none⟩ = some (.int .i64 s)) := hcS
  clear hB1 hB2 h4 h6 hcS
  go_enter Ybad.func9, Ybad.ntmps9
  go_wp2
  go_loopw [3] (fun i wr => ∃ (k : Nat) (v : Value), k ≤ cnt ∧ (s = 0 ∨ k < s) ∧ i = .int .i64 (k * Z : Nat) ∧ wr.cell? ⟨gG, 0, none⟩ = some v ∧ wr.ownsRow base 38 3 v k (vals six x p4 p6 k) ∧
      wr.cell? ⟨gC, 0, none⟩ = some (.int .i64 k) ∧ wr.frozen? ⟨gG, 0, none⟩ = false ∧ wr.frozen? ⟨gC, 0, none⟩ = false ∧ Keep gG gC base w wr)
    (fun i _ => n - (intOf i).toNat)
  case atStart => exact ⟨0, _, Nat.zero_le _, by omega, by simp, hcG, World.ownsRow_nil _ _ _ _, hcC, hfG, hfC, Keep.refl _ _ _ _⟩
  case round =>
    obtain ⟨k, v, hk, hsk, rfl, cG, own, cC, fG, fC, kp⟩ := hrel
    clear hcG hcC hfG hfC
    have HO : Hid (wr.ownsRow base 38 3 v k (vals six x p4 p6 k)) := own
    have HK : Hid (Keep gG gC base w wr) := kp
    have hsz := kp.size
    clear own kp
    have dB1 : wr.cell? ⟨gB, 1, none⟩ = some (.slice (some ⟨gA, 0, none⟩) n n) := (HK.out.cell (p := ⟨gB, 1, none⟩) hB hGB hCB).trans KB1.out
    have dB2 : wr.cell? ⟨gB, 2, none⟩ = some (.int .i64 Z) := (HK.out.cell (p := ⟨gB, 2, none⟩) hB hGB hCB).trans KB2.out
    obtain ⟨i, hi⟩ : ∃ i, i = k * Z := ⟨_, rfl⟩
    rw [← hi]
    by_cases hlt : k < cnt
    · have hiZ : i + Z ≤ n := by
        have : (k + 1) * Z ≤ cnt * Z := Nat.mul_le_mul_right _ hlt
        rw [HN.out, ← HZ.out, hi]; rw [Nat.add_mul] at this; omega
      have hin : i < n := by omega
      have HI : Hid (i = k * Z) := hi
      clear hi
      go_wp2_with fail
      rw [HZ.out]
      refine (fromSlice_any six gA i _ x p4 p6 _ ?_ ?_ ?_).mono ?_
      · exact (HK.out.cell (p := ⟨0, 0, none⟩) (by simp; omega) (by simp; omega) (by simp; omega)).trans K4.out
      · exact (HK.out.cell (p := ⟨1, 0, none⟩) (by simp; omega) (by simp; omega) (by simp; omega)).trans K6.out
      · intro j hj
        exact (HK.out.cell (p := ⟨gA, i + j, none⟩) hA hGA hCA).trans (HX.out _ (by rw [← HZ.out] at hj; omega))
      rintro e w1 ⟨rfl, hb1⟩
      have hs1 := hb1.size
      have eG : w1.cell? ⟨gG, 0, none⟩ = some v := (hb1.cell (p := ⟨gG, 0, none⟩) (by simp; omega)).trans cG
      have eC : w1.cell? ⟨gC, 0, none⟩ = some (.int .i64 k) := (hb1.cell (p := ⟨gC, 0, none⟩) (by simp; omega)).trans cC
      have HB1 : Hid (Below wr.heap.size wr w1) := hb1
      clear hb1
      go_wp2_with fail
      have HP : Hid (Keep gG gC base w (w1.alloc (.cells #[.int .u64 (hiOf six x i), .int .u64 (loOf six x i), .pointer (ptOf six p4 p6)] 38))) :=
        HK.out.trans (Keep.ofBelow ((HB1.out.mono (by omega)).alloc (by omega) _))
      refine (yield_any gG gC gS base k s (hiOf six x i) (loOf six x i) (ptOf six p4 p6) v (vals six x p4 p6 k) _ ?_ ?_ ?_ ?_ ?_ ?_ hGC hGS hCS hG hC hS ?_ ?_ hs).mono ?_
      · exact (World.cell?_alloc_past _ _ _ (by omega)).trans eG
      · exact (World.cell?_alloc_past _ _ _ (by omega)).trans eC
      · exact (HP.out.cell (p := ⟨gS, 0, none⟩) hS hGS.symm hCS.symm).trans KS.out
      · exact (World.frozen?_alloc_past _ _ _ (by omega)).trans ((HB1.out.frozen (p := ⟨gG, 0, none⟩) (by simp; omega)).trans fG)
      · exact (World.frozen?_alloc_past _ _ _ (by omega)).trans ((HB1.out.frozen (p := ⟨gC, 0, none⟩) (by simp; omega)).trans fC)
      · exact (HO.out.kept (grown_of_below HB1.out) (by cases v.ownBlock <;> simp)).alloc _
      · simp; omega
      · have : k * 1 ≤ k * Z := Nat.mul_le_mul_left _ hZ1
        have := HI.out
        omega
      rintro e w2 ⟨v2, rfl, c2G, own2, c2C, f2G, f2C, kp2⟩
      have HP2 : Hid (Keep gG gC base w w2) := HP.out.trans kp2
      have HO2 : Hid (w2.ownsRow base 38 3 v2 (k + 1) (vals six x p4 p6 (k + 1))) := by
        rw [vals_succ, ← HZ.out, ← HI.out]; exact own2
      clear own2 kp2 HP
      have d2B : w2.cell? ⟨gB, 2, none⟩ = some (.int .i64 Z) := (HP2.out.cell (p := ⟨gB, 2, none⟩) hB hGB hCB).trans KB2.out
      clear eG eC cG cC fG fC dB1 dB2
      by_cases hgo : s = 0 ∨ k + 1 < s
      · rw [decide_eq_true hgo]
        go_wp2
        go_roundw
        case rel => exact ⟨k + 1, v2, by omega, hgo, (by rw [HI.out, Nat.add_mul, Nat.one_mul]; go_num), c2G, HO2.out, c2C, f2G, f2C, HP2.out⟩
        case measure => simp [intOf]; omega
      · rw [decide_eq_false hgo]
        have hw : wantN s cnt = k + 1 := by unfold wantN; split <;> omega
        go_wp2
        first | go_end0 | refine bodyPost_ret (results_none rfl _ _ _) rfl ?_
        rw [hw]
        exact ⟨rfl, v2, c2G, HO2.out, c2C, HP2.out⟩
    · have hkc : k = cnt := by omega
      have hw : wantN s cnt = k := by unfold wantN; split <;> omega
      have hin : ¬ i < n := by rw [hi, hkc, HN.out, HZ.out]; omega
      clear hi
      go_wp2
      first | go_end0 | refine bodyPost_ret (results_none rfl _ _ _) rfl ?_
      rw [hw]
      exact ⟨rfl, v, cG, HO.out, cC, HK.out⟩
end Go.Proofs.YbulkfcoyDoor
