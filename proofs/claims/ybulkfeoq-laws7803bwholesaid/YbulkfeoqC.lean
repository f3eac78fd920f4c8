import Derived.Test.YbulkfeoqB
namespace Go.Proofs.Ybulkfeoq
open Go.RowKit
set_option linter.unusedVariables false
set_option linter.unusedSimpArgs false

theorem lit34 (s p : ByteArray) (B : Nat) (w : World) (h : w.cell? ⟨B, 0, none⟩ = some (.string s)) :
    Calls Yba.prog 34 #[.string p, .pointer (some ⟨B, 0, none⟩)] w fun e w' => e = .returned (.bool (Lib.hasPrefix s.data.toList p.data.toList)) ∧ w' = w := by
  go_enter Yba.func34, Yba.ntmps34
  go_wp2_with fail
  refine (has35 s p _).mono ?_
  rintro e w' ⟨rfl, rfl⟩
  go_wp2
  go_ret
  exact ⟨rfl, rfl⟩

/-- Some word of the first n is a prefix of s. -/
def some1 (s : ByteArray) (x : Nat → ByteArray) (n : Nat) : Bool := (List.range n).any fun j => Lib.hasPrefix s.data.toList (x j).data.toList

theorem some1_step (s : ByteArray) (x : Nat → ByteArray) (k : Nat) : some1 s x (k + 1) = (some1 s x k || Lib.hasPrefix s.data.toList (x k).data.toList) := by
  simp [some1, List.range_succ, List.any_append]
theorem some1_of {s : ByteArray} {x : Nat → ByteArray} {k n : Nat} (h : k < n) (hk : Lib.hasPrefix s.data.toList (x k).data.toList = true) : some1 s x n = true := by
  unfold some1
  exact List.any_eq_true.2 ⟨k, List.mem_range.2 h, hk⟩

set_option maxRecDepth 100000 in
theorem index47 (s : ByteArray) (B : Nat) (a : Option Addr) (n c : Nat) (x : Nat → ByteArray) (w : World) (h : w.cell? ⟨B, 0, none⟩ = some (.string s)) (ha : IsS w a n x) (hn : n ≤ 1048576) :
    Calls Yba.prog 47 #[.slice a n c, .func (.func 34) #[] #[.pointer (some ⟨B, 0, none⟩)]] w fun e w' => (∃ k : Int, e = .returned (.int .i64 k) ∧ (decide (0 ≤ k) = some1 s x n)) ∧ w' = w := by
  have HA := hide ha
  clear ha
  go_enter Yba.func47, Yba.ntmps47
  go_wp2
  go_loopg [8] n (fun g j wr => ∃ k : Nat, g = n - k ∧ k ≤ n ∧ some1 s x k = false ∧ j = .int .i64 k ∧ wr = w)
  case atStart => exact ⟨0, rfl, Nat.zero_le _, rfl, rfl, rfl⟩
  case round =>
    obtain ⟨k, hg, hk, hall, rfl, rfl⟩ := hrel
    have HS := hide hall
    clear hall
    by_cases hlt : k < n
    · obtain ⟨b1, o1, rfl, hl1, hc1⟩ := HA.out.read (by omega)
      have g1 := hc1 k hlt
      clear hc1
      go_wp2_with fail
      refine (lit34 s (x k) B _ h).mono ?_
      rintro e w' ⟨rfl, rfl⟩
      by_cases hp : Lib.hasPrefix s.data.toList (x k).data.toList = true
      · go_wp2
        go_ret
        refine ⟨⟨k, rfl, ?_⟩, rfl⟩
        rw [some1_of hlt hp]
        exact decide_eq_true (by omega)
      · have hp' : Lib.hasPrefix s.data.toList (x k).data.toList = false := by simpa using hp
        clear hp
        go_wp2
        go_roundg (n - (k + 1))
        case measure => omega
        case rel => exact ⟨k + 1, rfl, by omega, by rw [some1_step, HS.out, hp']; rfl, by go_num, rfl⟩
    · obtain rfl : k = n := by omega
      go_wp2
      go_ret
      refine ⟨⟨-1, rfl, ?_⟩, rfl⟩
      rw [HS.out]
      rfl

set_option maxRecDepth 100000 in
theorem has33 (s : ByteArray) (B : Nat) (a : Option Addr) (n c : Nat) (x : Nat → ByteArray) (w : World) (h : w.cell? ⟨B, 0, none⟩ = some (.string s)) (ha : IsS w a n x) (hn : n ≤ 1048576) :
    Calls Yba.prog 33 #[.slice a n c, .func (.func 34) #[] #[.pointer (some ⟨B, 0, none⟩)]] w fun e w' => e = .returned (.bool (some1 s x n)) ∧ w' = w := by
  have HA := hide ha
  clear ha
  go_enter Yba.func33, Yba.ntmps33
  go_wp2_with fail
  refine (index47 s B a n c x _ h HA.out hn).mono ?_
  rintro e w' ⟨⟨k, rfl, hk⟩, rfl⟩
  have HK := hide hk
  clear hk
  go_wp2
  go_ret
  exact ⟨by rw [← HK.out]; rfl, rfl⟩

theorem cut31' (s : ByteArray) (w : World) :
    Calls Yba.prog 31 #[.string s, .string ⟨#[70, 76]⟩] w fun e w' => (∃ m b, e = .returned (.tuple #[.string m, .bool b]) ∧ m.data.toList = Lib.trimPrefix s.data.toList [70, 76]) ∧ w' = w :=
  (cut31 s ⟨#[70, 76]⟩ w).mono fun _ _ ⟨h1, h2⟩ => ⟨⟨_, _, h1, by simp⟩, h2⟩
theorem trim30' (s : ByteArray) (w : World) (hs : s.size ≤ 140737488351232) : Calls Yba.prog 30 #[.string s] w fun e w' => (∃ t i, e = .returned (.string t) ∧ Lead s i ∧ t = s.extract i s.size) ∧ w' = w :=
  (trim30 s w hs).mono fun _ _ ⟨⟨i, hl, he⟩, h2⟩ => ⟨⟨_, i, he, hl, rfl⟩, h2⟩

/-- What stands behind 'FL', where 'FL' stands ahead, begins with a digit. -/
def num (t : List UInt8) : Bool := match Lib.trimPrefix t [70, 76] with
  | [] => false
  | c :: _ => dg ((c.toNat : Nat) : Int)

theorem digits32' (m : ByteArray) (c0 : UInt8) (l : List UInt8) (h : m.data.toList = c0 :: l) (w : World) : Calls Yba.prog 32 #[.string (m.extract 0 1)] w fun e w' => e = .returned (.bool (dg ((c0.toNat : Nat) : Int))) ∧ w' = w := by
  have hl : (m.extract 0 1).data.toList = [c0] := by rw [Lib.extract_data, h]; rfl
  have hz : (m.extract 0 1).size = 1 := by rw [Lib.size_eq, hl]; rfl
  have hg : (m.extract 0 1)[0]'(by omega) = c0 := by
    rw [ByteArray.getElem_eq_getElem_data, ← Array.getElem_toList]
    simp only [hl]
    rfl
  refine (digits32 (m.extract 0 1) w (by omega) (by omega)).mono fun e w' h' => ?_
  rw [hg] at h'
  exact h'
theorem cell_new (w : World) (v : Value) (t : TypeId) : (w.alloc (.cells #[v] t)).cell? ⟨w.heap.size, 0, none⟩ = some v := by
  rw [cell_of_row _ _ _ _ _ _ (Go.heap_alloc_new w (.cells #[v] t))]
  rfl

set_option maxRecDepth 100000 in
theorem beg10 (s : ByteArray) (F : Nat) (a : Option Addr) (n c : Nat) (x : Nat → ByteArray) (w : World) (hF : w.cell? ⟨F, 0, none⟩ = some (.slice a n c)) (ha : IsS w a n x) (hn : n ≤ 1048576) (hs : s.size ≤ 1048576) :
    Calls Yba.prog 10 #[.pointer (some ⟨F, 0, none⟩), .string s] w fun e w' => (∃ i, Lead s i ∧ e = .returned (.bool (num (s.extract i s.size).data.toList || some1 (s.extract i s.size) x n))) ∧ Below w.heap.size w w' := by
  have HA := hide ha
  clear ha
  have hFl : F < w.heap.size := block_lt_of_cell hF
  go_enter Yba.func10, Yba.ntmps10
  go_wp2_with fail
  refine (trim30' s _ (by omega)).mono ?_
  rintro e w' ⟨⟨t, i, rfl, hl, ht⟩, rfl⟩
  have HT := hide ht
  clear ht
  go_wp2_with fail
  refine (cut31' t _).mono ?_
  rintro e w' ⟨⟨m, b, rfl, hm⟩, rfl⟩
  have HM := hide hm
  clear hm
  cases hmm : m.data.toList with
  | nil =>
    have hN : num t.data.toList = false := by unfold num; rw [← HM.out, hmm]
    have hempty : (m.toList == ([] : List UInt8)) = true := by rw [Lib.toList_data, hmm]; rfl
    have HN := hide hN
    clear hmm hN HM
    go_wp2_with fail
    refine (has33 t w.heap.size a n c x _ (cell_new _ _ _) (HA.out.below (Nat.le_refl _) ((Below.refl _ _).alloc (Nat.le_refl _) _)) hn).mono ?_
    rintro e w' ⟨rfl, rfl⟩
    go_wp2
    go_ret
    exact ⟨⟨i, hl, by rw [← HT.out, HN.out]; rfl⟩, (Below.refl _ _).alloc (Nat.le_refl _) _⟩
  | cons c0 l =>
    have hN : num t.data.toList = dg ((c0.toNat : Nat) : Int) := by unfold num; rw [← HM.out, hmm]
    have hempty : (m.toList == ([] : List UInt8)) = false := by rw [Lib.toList_data, hmm]; rfl
    have hsz : 1 ≤ m.size := by rw [Lib.size_eq, hmm]; simp
    have HN := hide hN
    have HMM := hide hmm
    clear hmm hN HM
    go_wp2_with fail
    refine (digits32' m c0 l HMM.out _).mono ?_
    rintro e w' ⟨rfl, rfl⟩
    by_cases hd : dg ((c0.toNat : Nat) : Int) = true
    · go_wp2
      go_ret
      exact ⟨⟨i, hl, by rw [← HT.out, HN.out, hd]; rfl⟩, (Below.refl _ _).alloc (Nat.le_refl _) _⟩
    · have hd' : dg ((c0.toNat : Nat) : Int) = false := by simpa using hd
      clear hd
      go_wp2_with fail
      refine (has33 t w.heap.size a n c x _ (cell_new _ _ _) (HA.out.below (Nat.le_refl _) ((Below.refl _ _).alloc (Nat.le_refl _) _)) hn).mono ?_
      rintro e w' ⟨rfl, rfl⟩
      go_wp2
      go_ret
      exact ⟨⟨i, hl, by rw [← HT.out, HN.out, hd']; rfl⟩, (Below.refl _ _).alloc (Nat.le_refl _) _⟩
end Go.Proofs.Ybulkfeoq
