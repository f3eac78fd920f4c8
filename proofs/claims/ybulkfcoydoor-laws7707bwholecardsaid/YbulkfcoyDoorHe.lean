import Derived.Test.YbulkfcoyDoorCl
import Derived.Test.YbulkfcoyDoorMo
import Derived.Laws.CopyOwn
import Derived.Deep.DeepMust
import Derived.LaidEqlPtr
namespace Go.Proofs.YbulkfcoyDoor
open Go.RowKit
set_option linter.unusedVariables false
set_option linter.unusedSimpArgs false

theorem hide {p : Prop} (h : p) : Hid p := h
theorem own_full {w : World} {base g n : Nat} {xs : List Value} (h : w.ownsRow base 5 1 (.slice (some ⟨g, 0, none⟩) n n) n xs) : w.heap[g]? = some (.cells xs.toArray 5 (0, 0)) := by
  rcases h.2 with ⟨h1, _⟩ | ⟨g', cap, cur, h1, _, hg, _, _, h5, h6⟩
  · cases h1
  · obtain ⟨rfl, rfl⟩ : g = g' ∧ n = cap := by injection h1 with e1 e2 e3; injection e1 with e1; exact ⟨(Addr.mk.inj e1).1, e3⟩
    rw [hg, ← h6, List.take_of_length_le (by simp; omega)]
theorem own_of {w : World} {base g n : Nat} {xs : List Value} (h : w.heap[g]? = some (.cells xs.toArray 5 (0, 0))) (hb : base ≤ g) (hl : xs.length = n) (hm : n ≤ maxLen) : w.ownsRow base 5 1 (.slice (some ⟨g, 0, none⟩) n n) n xs :=
  ⟨by omega, .inr ⟨g, n, xs.toArray, rfl, hb, h, Nat.le_refl _, hm, by simp; omega, List.take_of_length_le (by simp; omega)⟩⟩
theorem below_of_grown {w w' : World} (h : w.grownBy w' none) : Below w.heap.size w w' := ⟨h.os, h.tape, h.output, h.size, fun k hk => h.block k hk (by simp)⟩
theorem made_length (z : Array Value) (n : Nat) : (madeCells z n).toList.length = n := by rw [Array.length_toList, size_madeCells]
theorem splice_full {α : Type} (L cs : List α) (h : cs.length = L.length) : splice L 0 cs = cs := by simp [splice, h]
theorem own_form {w : World} {base n : Nat} {e : TypeId} {k : Nat} {v : Value} {xs : List Value} (h : w.ownsRow base e k v n xs) : ∃ a c, v = .slice a n c := by
  rcases h.2 with ⟨rfl, rfl⟩ | ⟨g, cap, cur, rfl, _⟩
  · exact ⟨_, _, rfl⟩
  · exact ⟨_, _, rfl⟩
theorem copy_pos {w w1 : World} {a : Option Addr} {n c : Nat} {x : Nat → Int} (h : IsB w a n c x) (hb : Below w.heap.size w w1) (m : Nat) (hm : m ≤ n) {g : Nat} :
    0 < (bs x m).length → (some ⟨g, 0, none⟩ : Option Addr) = some ⟨g, 0, none⟩ ∧ ∃ ad, a = some ad ∧ ∀ j v, (bs x m)[j]? = some v → w1.cell? (ad.add j) = some v := by
  intro h0
  rw [bs_length] at h0
  obtain ⟨b, off, rfl, hlt, hc⟩ := h.some (by omega)
  refine ⟨rfl, _, rfl, fun j v hj => ?_⟩
  obtain ⟨hjm, rfl⟩ := bs_at x m j v hj
  rw [Addr.add_lit]
  exact (hb.cell (p := ⟨b, off + j, none⟩) hlt).trans (hc j (by omega))

theorem below_of_keep {w6 W w8 : World} {gG gC base : Nat} (h5 : Below w6.heap.size w6 W) (hk : Keep gG gC base W w8) (h1 : w6.heap.size ≤ gG) (h2 : w6.heap.size ≤ gC) (h3 : w6.heap.size ≤ base) : Below w6.heap.size w6 w8 :=
  h5.trans ⟨hk.os, hk.tape, hk.output, hk.size, fun k hk' => hk.block k (by omega) (by omega) (by omega)⟩
theorem eqp34 (d : Nat) (p : Option Addr) (w : World) : (Op.equalIn (d + 1) 34 (.pointer p) (.pointer p)).run Ybad.prog w = .ok true w := by
  obtain ⟨i0, hi, hz0, hz1, hz2⟩ := info_parts (show (Ybad.prog.info? 69).map (fun i => (i.zero, i.size, i.bytes)) = some (some (.agg #[.bool false, .string ByteArray.empty]), 2, 24) by kernel_rfl)
  cases p with
  | none => simp [Op.equalIn, run_underlying Ybad.underlying34]
  | some a => simp [Op.equalIn, run_underlying Ybad.underlying34, sizeOf, typeInfo, hi, run_sameAddr_same]
theorem neq38 (h l : Int) (p : Option Addr) (w : World) : (binOp .neq 38 (.agg #[.int .u64 h, .int .u64 l, .pointer p]) (.agg #[.int .u64 h, .int .u64 l, .pointer p])).run Ybad.prog w = .ok (.bool false) w := by
  rw [run_neq_struct, run_equalIn_agg _ _ _ _ _ (by kernel_rfl) (by kernel_rfl)]
  simp [go_sem, Ybad.underlying38, eqp34 9997]
theorem five (w : World) (A B C D E : Obj) : (((((w.alloc A).alloc B).alloc C).alloc D).alloc E).heap[w.heap.size]? = some A ∧ (((((w.alloc A).alloc B).alloc C).alloc D).alloc E).heap[w.heap.size + 1]? = some B ∧
    (((((w.alloc A).alloc B).alloc C).alloc D).alloc E).heap[w.heap.size + 1 + 1]? = some C ∧ (((((w.alloc A).alloc B).alloc C).alloc D).alloc E).heap[w.heap.size + 1 + 1 + 1]? = some D ∧
    (((((w.alloc A).alloc B).alloc C).alloc D).alloc E).heap[w.heap.size + 1 + 1 + 1 + 1]? = some E ∧ Below w.heap.size w (((((w.alloc A).alloc B).alloc C).alloc D).alloc E) ∧
    (((((w.alloc A).alloc B).alloc C).alloc D).alloc E).heap.size = w.heap.size + 5 := by
  have e : (((((w.alloc A).alloc B).alloc C).alloc D).alloc E).heap = ((((w.heap.push A).push B).push C).push D).push E := rfl
  rw [e]
  simp only [Array.getElem?_push, Array.size_push]
  refine ⟨?_, ?_, ?_, ?_, ?_, ?_, trivial⟩
  · rw [if_neg (by omega), if_neg (by omega), if_neg (by omega), if_neg (by omega), if_pos trivial]
  · rw [if_neg (by omega), if_neg (by omega), if_neg (by omega), if_pos trivial]
  · rw [if_neg (by omega), if_neg (by omega), if_pos trivial]
  · rw [if_neg (by omega), if_pos trivial]
  · rw [if_pos trivial]
  · exact (((((Below.refl _ _).alloc (Nat.le_refl _) _).alloc (by simp) _).alloc (by simp; omega) _).alloc (by simp; omega) _).alloc (by simp; omega) _

theorem model_any (six : Bool) (b o c : Nat) (x : Nat → Int) (p4 p6 : Option Addr) (w : World) (h4 : w.cell? ⟨0, 0, none⟩ = some (.pointer p4)) (h6 : w.cell? ⟨1, 0, none⟩ = some (.pointer p6))
    (h : ∀ j, j < szOf six → w.cell? ⟨b, o + j, none⟩ = some (.int .u8 (x (o + j)))) :
    Calls Ybad.prog 7 #[.slice (some ⟨b, o, none⟩) (szOf six) c] w fun e w' => e = .returned (.agg #[.int .u64 (hiOf six x o), .int .u64 (loOf six x o), .pointer (ptOf six p4 p6)]) ∧ Below w.heap.size w w' := by
  cases six
  · have e1 : hiOf false x o = 0 := by simp [hiOf]
    have e2 : loOf false x o = ad4 (x (o + 0)) (x (o + 1)) (x (o + 2)) (x (o + 3)) := by simp only [loOf, Bool.false_eq_true, if_false]
    have e3 : ptOf false p4 p6 = p4 := rfl
    have e4 : szOf false = 4 := rfl
    rw [e4] at h
    have := model4 b o c (fun j => x (o + j)) p4 w h4 h
    unfold val4 at this
    rw [e1, e2, e3, e4]
    exact this
  · have e1 : hiOf true x o = be64 (x (o + 0)) (x (o + 1)) (x (o + 2)) (x (o + 3)) (x (o + 4)) (x (o + 5)) (x (o + 6)) (x (o + 7)) := by simp only [hiOf, if_true]
    have e2 : loOf true x o = be64 (x (o + 8)) (x (o + 9)) (x (o + 10)) (x (o + 11)) (x (o + 12)) (x (o + 13)) (x (o + 14)) (x (o + 15)) := by simp only [loOf, if_true]
    have e3 : ptOf true p4 p6 = p6 := rfl
    have e4 : szOf true = 16 := rfl
    rw [e4] at h
    have := model16 b o c (fun j => x (o + j)) p6 w h6 h
    unfold val16 at this
    rw [e1, e2, e3, e4]
    exact this
theorem vals_length (six : Bool) (x : Nat → Int) (p4 p6 : Option Addr) (m : Nat) : (vals six x p4 p6 m).length = m * 3 := by
  induction m with
  | zero => rfl
  | succ m ih => rw [vals_succ, List.length_append, ih]; simp; omega
theorem vals_at (six : Bool) (x : Nat → Int) (p4 p6 : Option Addr) (m k : Nat) (h : k < m) :
    (vals six x p4 p6 m)[k * 3]? = some (.int .u64 (hiOf six x (k * szOf six))) ∧ (vals six x p4 p6 m)[k * 3 + 1]? = some (.int .u64 (loOf six x (k * szOf six))) ∧ (vals six x p4 p6 m)[k * 3 + 2]? = some (.pointer (ptOf six p4 p6)) := by
  induction m with
  | zero => omega
  | succ m ih =>
    have hl := vals_length six x p4 p6 m
    rw [vals_succ]
    by_cases hk : k < m
    · obtain ⟨h1, h2, h3⟩ := ih hk
      rw [List.getElem?_append_left (by omega), List.getElem?_append_left (by omega), List.getElem?_append_left (by omega)]
      exact ⟨h1, h2, h3⟩
    · obtain rfl : k = m := by omega
      rw [List.getElem?_append_right (by omega), List.getElem?_append_right (by omega), List.getElem?_append_right (by omega), hl]
      have e0 : k * 3 - k * 3 = 0 := by omega
      have e1 : k * 3 + 1 - k * 3 = 1 := by omega
      have e2 : k * 3 + 2 - k * 3 = 2 := by omega
      rw [e0, e1, e2]
      exact ⟨rfl, rfl, rfl⟩
theorem own_cases {w : World} {base n : Nat} {v : Value} {xs : List Value} (h : w.ownsRow base 38 3 v n xs) :
    (n = 0 ∧ v = .slice none 0 0) ∨ ∃ g c, v = .slice (some ⟨g, 0, none⟩) n c ∧ base ≤ g ∧ g < w.heap.size ∧ n ≤ c ∧ ∀ j u, xs[j]? = some u → w.cell? ⟨g, j, none⟩ = some u := by
  rcases h.2 with ⟨h1, h2⟩ | ⟨g, cap, cur, rfl, hb, hg, hn, _⟩
  · exact .inl ⟨h2, h1⟩
  · refine .inr ⟨g, cap, rfl, hb, (Array.getElem?_eq_some_iff.1 hg).1, hn, fun j u hj => ?_⟩
    have := h.cells (g := g) rfl j u hj
    rwa [Addr.add_lit, Nat.zero_add] at this
theorem own_below {w w' : World} {base n : Nat} {v : Value} {xs : List Value} (h : w.ownsRow base 5 1 v n xs) (hb : Below w.heap.size w w') : w'.ownsRow base 5 1 v n xs :=
  h.kept (grown_of_below hb) (by cases v.ownBlock <;> simp)
theorem own_draws {w : World} {base n : Nat} {v : Value} {xs : List Value} (h : w.ownsRow base 5 1 v n xs) (q : Nat) : (w.drewN q).ownsRow base 5 1 v n xs :=
  own_below h (below_drewN (Below.refl _ _) q)
theorem wrap_in (x : Int) (h1 : -9223372036854775808 ≤ x) (h2 : x ≤ 9223372036854775807) : IntKind.i64.wrap x = x := by
  rw [IntKind.wrap_i64]; omega
end Go.Proofs.YbulkfcoyDoor
