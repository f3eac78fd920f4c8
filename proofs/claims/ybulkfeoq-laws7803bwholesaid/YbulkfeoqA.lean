import Derived.Test.YbulkfeoqProg
import Derived.WalkKit
import Derived.WalkSpells
import Derived.Deep.QuietTactic
import Derived.BigQuiet
import Derived.WalkSmall
import Derived.Deep.LoopGhost
import Derived.Lib.Strings
import Derived.Lib.Slices
import Derived.Lib.Walk
namespace Go.Proofs.Ybulkfeoq
open Go.RowKit
set_option linter.unusedVariables false
set_option linter.unusedSimpArgs false

theorem hide {p : Prop} (h : p) : Hid p := h
theorem retb {a b : Bool} (h : a = b) : Ending.returned (.bool b) = Ending.returned (.bool a) := by rw [h]

/-- One of the six white space bytes. -/
def sp (c : Int) : Bool := c == 32 || c == 9 || c == 10 || c == 13 || c == 11 || c == 12
/-- A digit. -/
def dg (c : Int) : Bool := decide (48 ≤ c) && decide (c ≤ 57)

theorem space11 (c : Int) (w : World) : Calls Yba.prog 11 #[.int .u8 c] w fun e w' => e = .returned (.bool (sp c)) ∧ w' = w := by
  go_enter Yba.func11, Yba.ntmps11
  go_wp2
  all_goals (go_ret; refine ⟨?_, rfl⟩; simp_all [sp])

theorem space44 (c : Int) (w : World) : Calls Yba.prog 44 #[.int .u8 c] w fun e w' => e = .returned (.bool (sp c)) ∧ w' = w := by
  go_enter Yba.func44, Yba.ntmps44
  go_wp2
  all_goals (go_ret; refine ⟨?_, rfl⟩; simp_all [sp])

theorem digit12 (c : Int) (w : World) : Calls Yba.prog 12 #[.int .u8 c] w fun e w' => e = .returned (.bool (dg c)) ∧ w' = w := by
  go_enter Yba.func12, Yba.ntmps12
  go_wp2
  all_goals (go_ret; refine ⟨?_, rfl⟩; simp_all [dg]; try omega)

/-- 'i' is the length of the white space that 's' starts with. -/
structure Lead (s : ByteArray) (i : Nat) : Prop where
  le : i ≤ s.size
  all : ∀ j (h : j < s.size), j < i → sp ((s[j].toNat : Nat) : Int) = true
  stop : ∀ h : i < s.size, sp ((s[i].toNat : Nat) : Int) = false

theorem Lead.same {s : ByteArray} {i j : Nat} (a : Lead s i) (b : Lead s j) : i = j := by
  rcases Nat.lt_trichotomy i j with h | h | h
  · have h1 : i < s.size := Nat.lt_of_lt_of_le h b.le
    have := a.stop h1
    rw [b.all i h1 h] at this
    cases this
  · exact h
  · have h1 : j < s.size := Nat.lt_of_lt_of_le h a.le
    have := b.stop h1
    rw [a.all j h1 h] at this
    cases this

theorem trim30 (s : ByteArray) (w : World) (hs : s.size ≤ 140737488351232) : Calls Yba.prog 30 #[.string s] w fun e w' => (∃ i, Lead s i ∧ e = .returned (.string (s.extract i s.size))) ∧ w' = w := by
  go_enter Yba.func30, Yba.ntmps30
  go_wp2
  go_loopg [3] s.size (fun g j wr => ∃ k : Nat, g = s.size - k ∧ k ≤ s.size ∧ (∀ j (h : j < s.size), j < k → sp ((s[j].toNat : Nat) : Int) = true) ∧ j = .int .i64 k ∧ wr = w)
  case atStart => exact ⟨0, rfl, Nat.zero_le _, fun j _ h => absurd h (Nat.not_lt_zero _), rfl, rfl⟩
  case round =>
    obtain ⟨k, hg, hk, hall, rfl, rfl⟩ := hrel
    by_cases hlt : k < s.size
    · have HA := hide hall
      clear hall
      go_wp2_with fail
      refine (space44 _ _).mono ?_
      rintro e w' ⟨rfl, rfl⟩
      by_cases hsp : sp ((s[k].toNat : Nat) : Int) = true
      · go_wp2
        go_roundg (s.size - (k + 1))
        case measure => omega
        case rel =>
          refine ⟨k + 1, rfl, by omega, fun j h hj => ?_, by go_num, rfl⟩
          by_cases hjk : j < k
          · exact HA.out j h hjk
          · obtain rfl : j = k := by omega
            exact hsp
      · have hsp' : sp ((s[k].toNat : Nat) : Int) = false := by simpa using hsp
        clear hsp
        go_wp2
        go_ret
        exact ⟨⟨k, ⟨hk, HA.out, fun _ => hsp'⟩, rfl⟩, rfl⟩
    · have HA := hide hall
      clear hall
      go_wp2
      go_ret
      exact ⟨⟨k, ⟨hk, HA.out, fun h => absurd h hlt⟩, rfl⟩, rfl⟩

/-- strings.HasPrefix, walked. -/
theorem has35 (s p : ByteArray) (w : World) : Calls Yba.prog 35 #[.string s, .string p] w fun e w' => e = .returned (.bool (Lib.hasPrefix s.data.toList p.data.toList)) ∧ w' = w := by
  rw [← Lib.hasPrefix_of_take, ← Lib.size_eq, ← Lib.size_eq]
  go_enter Yba.func35, Yba.ntmps35
  go_wp2
  · rename_i h
    go_ret
    refine ⟨?_, rfl⟩
    show Ending.returned (Value.bool ((s.extract 0 p.size).toList == p.toList)) = _
    rw [Lib.extract_toList, Lib.toList_data]
    simp [h]
  · rename_i h
    go_ret
    refine ⟨?_, rfl⟩
    show Ending.returned (Value.bool false) = _
    simp [h]

/-- strings.CutPrefix, walked. -/
theorem cut31 (s p : ByteArray) (w : World) :
    Calls Yba.prog 31 #[.string s, .string p] w fun e w' => e = .returned (.tuple #[.string ⟨(Lib.trimPrefix s.data.toList p.data.toList).toArray⟩, .bool (Lib.hasPrefix s.data.toList p.data.toList)]) ∧ w' = w := by
  go_enter Yba.func31, Yba.ntmps31
  go_wp2
  · have h2 : (!((s.extract 0 p.size).toList == p.toList)) = true := by assumption
    have h3 : (decide (p.size ≤ s.size) && ((s.extract 0 p.size).toList == p.toList)) = false := by
      have : ((s.extract 0 p.size).toList == p.toList) = false := by simpa using h2
      rw [this]
      simp
    go_ret2
    refine ⟨?_, rfl⟩
    rw [Lib.trimPrefix_miss s p h3, ← Lib.hasPrefix_raw, h3]
    rfl
  · have h1 : p.size ≤ s.size := by assumption
    have h2 : (!((s.extract 0 p.size).toList == p.toList)) = false := by assumption
    have h2' : ((s.extract 0 p.size).toList == p.toList) = true := by simpa using h2
    go_ret2
    refine ⟨?_, rfl⟩
    rw [Lib.trimPrefix_hit s p h1 h2', ← Lib.hasPrefix_raw, h2', decide_eq_true h1]
    rfl
  · have h1 : ¬ p.size ≤ s.size := by assumption
    have h3 : (decide (p.size ≤ s.size) && ((s.extract 0 p.size).toList == p.toList)) = false := by simp [h1]
    go_ret2
    refine ⟨?_, rfl⟩
    rw [Lib.trimPrefix_miss s p h3, ← Lib.hasPrefix_raw, h3]
    rfl

/-- allIn at one byte, from '0' to '9'. -/
theorem all46 (s : ByteArray) (w : World) (hle : s.size ≤ 1) (hge : 0 < s.size) : Calls Yba.prog 46 #[.string s, .int .u8 48, .int .u8 57] w fun e w' => e = .returned (.bool (dg ((s[0].toNat : Nat) : Int))) ∧ w' = w := by
  have hemp : (s.toList == ([] : List UInt8)) = false := by
    rw [Lib.toList_data]
    have : 0 < s.data.toList.length := by rw [← Lib.size_eq]; exact hge
    cases h : s.data.toList with
    | nil => rw [h] at this; cases this
    | cons a l => rfl
  go_enter Yba.func46, Yba.ntmps46
  go_wp2
  go_loopg [7] 1 (fun g j wr => ∃ k : Nat, g = 1 - k ∧ k ≤ 1 ∧ (k = 0 ∨ dg ((s[0].toNat : Nat) : Int) = true) ∧ j = .int .i64 k ∧ wr = w)
  case atStart => exact ⟨0, rfl, Nat.zero_le _, .inl rfl, rfl, rfl⟩
  case round =>
    obtain ⟨k, hg, hk, hd, rfl, rfl⟩ := hrel
    have HD := hide hd
    clear hd
    by_cases hlt : k < 1
    · obtain rfl : k = 0 := by omega
      have h00 : ((0 : Nat) : Int) < (s.size : Int) := by omega
      by_cases hd : dg ((s[0].toNat : Nat) : Int) = true
      · have h1 : ¬ ((s[0].toNat : Nat) : Int) < 48 := by simp [dg] at hd; omega
        have h2 : ¬ (57 : Int) < ((s[0].toNat : Nat) : Int) := by simp [dg] at hd; omega
        have HH := hide hd
        clear hd
        go_wp2
        go_roundg 0
        case measure => omega
        case rel => exact ⟨1, rfl, Nat.le_refl _, .inr HH.out, by go_num, rfl⟩
      · have hd' : dg ((s[0].toNat : Nat) : Int) = false := by simpa using hd
        have HH := hide hd'
        clear hd hd'
        by_cases h1 : ((s[0].toNat : Nat) : Int) < 48
        · go_wp2
          go_ret
          exact ⟨retb HH.out, rfl⟩
        · have h2 : (57 : Int) < ((s[0].toNat : Nat) : Int) := by have := HH.out; simp [dg] at this; omega
          go_wp2
          go_ret
          exact ⟨retb HH.out, rfl⟩
    · have h00 : ¬ (k : Int) < (s.size : Int) := by omega
      have HD' := hide (HD.out.resolve_left (by omega))
      go_wp2
      go_ret
      exact ⟨retb HD'.out, rfl⟩

theorem digits32 (s : ByteArray) (w : World) (hle : s.size ≤ 1) (hge : 0 < s.size) : Calls Yba.prog 32 #[.string s] w fun e w' => e = .returned (.bool (dg ((s[0].toNat : Nat) : Int))) ∧ w' = w := by
  go_enter Yba.func32, Yba.ntmps32
  go_wp2_with fail
  refine (all46 s _ hle hge).mono ?_
  rintro e w' ⟨rfl, rfl⟩
  go_wp2
  go_ret
  exact ⟨rfl, rfl⟩

theorem pre_false {t p : ByteArray} {k : Nat} (hk : k < p.size) (hk' : k < t.size) (hne : t[k] ≠ p[k]) : Lib.hasPrefix t.data.toList p.data.toList = false := by
  unfold Lib.hasPrefix
  cases h : p.data.toList.isPrefixOf t.data.toList with
  | false => rfl
  | true =>
    exfalso
    apply hne
    have h' := List.isPrefixOf_iff_prefix.1 h
    have hk2 : k < p.data.toList.length := by rw [← Lib.size_eq]; exact hk
    have := h'.getElem hk2
    simpa [ByteArray.getElem_eq_getElem_data] using this.symm

theorem pre_long {t p : ByteArray} (h : t.size < p.size) : Lib.hasPrefix t.data.toList p.data.toList = false := by
  unfold Lib.hasPrefix
  cases h' : p.data.toList.isPrefixOf t.data.toList with
  | false => rfl
  | true =>
    have := (List.isPrefixOf_iff_prefix.1 h').length_le
    rw [← Lib.size_eq, ← Lib.size_eq] at this
    omega

theorem pre_true {t p : ByteArray} (hl : p.size ≤ t.size) (h : ∀ k (h : k < p.size) (h' : k < t.size), t[k] = p[k]) : Lib.hasPrefix t.data.toList p.data.toList = true := by
  unfold Lib.hasPrefix
  rw [List.isPrefixOf_iff_prefix, List.prefix_iff_eq_take]
  refine List.ext_getElem ?_ ?_
  · rw [List.length_take, ← Lib.size_eq, ← Lib.size_eq]; omega
  · intro k h1 h2
    rw [List.getElem_take]
    have hk : k < p.size := by rw [Lib.size_eq]; exact h1
    have := h k hk (by omega)
    simpa [ByteArray.getElem_eq_getElem_data] using this.symm

/-- zzs7803bprefix is strings.HasPrefix. -/
theorem prefix13 (t p : ByteArray) (w : World) (ht : t.size ≤ 140737488351232) (hp : p.size ≤ 140737488351232) :
    Calls Yba.prog 13 #[.string t, .string p] w fun e w' => e = .returned (.bool (Lib.hasPrefix t.data.toList p.data.toList)) ∧ ∃ q, w' = w.drewN q := by
  go_enter Yba.func13, Yba.ntmps13
  by_cases hlen : (t.size : Int) < (p.size : Int)
  · go_wp2
    go_ret
    exact ⟨retb (pre_long (by omega)), 0, rfl⟩
  · go_wp2
    go_loopg [5] p.size (fun g j wr => ∃ k q : Nat, g = p.size - k ∧ k ≤ p.size ∧ (∀ j (h : j < p.size) (h' : j < t.size), j < k → t[j] = p[j]) ∧ j = .int .i64 k ∧ wr = w.drewN q)
    case atStart => exact ⟨0, 0, rfl, Nat.zero_le _, fun j _ _ h => absurd h (Nat.not_lt_zero _), rfl, rfl⟩
    case round =>
      obtain ⟨k, q, hg, hk, hall, rfl, rfl⟩ := hrel
      have HA := hide hall
      clear hall
      by_cases hlt : k < p.size
      · have hlt' : k < t.size := by omega
        by_cases he : t[k] = p[k]
        · have he' : ((t[k].toNat : Nat) : Int) = ((p[k].toNat : Nat) : Int) := by rw [he]
          have HE := hide he
          clear he
          go_wp2
          go_quiet (fail)
          go_wp2
          go_roundg (p.size - (k + 1))
          case measure => omega
          case rel =>
            refine ⟨k + 1, _, rfl, by omega, fun j h h' hj => ?_, by go_num, rfl⟩
            by_cases hjk : j < k
            · exact HA.out j h h' hjk
            · obtain rfl : j = k := by omega
              exact HE.out
        · have he' : ¬ ((t[k].toNat : Nat) : Int) = ((p[k].toNat : Nat) : Int) := fun h => he (UInt8.toNat_inj.1 (by omega))
          have HE := hide he
          clear he
          go_wp2
          go_quiet (fail)
          go_wp2
          go_ret
          exact ⟨retb (pre_false hlt hlt' HE.out), _, World.drewN_drewN _ _ _⟩
      · go_wp2
        go_ret
        exact ⟨retb (pre_true (by omega) fun j h h' => HA.out j h h' (by omega)), _, rfl⟩
end Go.Proofs.Ybulkfeoq
