import Derived.Test.YbulkfeocDoorFi
namespace Go.Proofs.YbulkfeocDoor
open Go.Conc Go.Conc.Locks Go.RowKit Go.MuLone
set_option linter.unusedVariables false
set_option linter.unusedSimpArgs false

theorem add64_zero (b o : Nat) (x : Int) (w : World) (hx : -9223372036854775808 ≤ x ∧ x ≤ 9223372036854775807) (hc : w.cell? ⟨b, o, none⟩ = some (.int .i64 x)) (hz : w.frozen? ⟨b, o, none⟩ = false) :
    Calls Ybad.prog 15 #[.pointer (some ⟨b, o, none⟩), .int .i64 0] w fun e w' => e = .returned (.int .i64 x) ∧ w' = w := by
  have e : wrap64 (x + 0) = x := by unfold wrap64; omega
  have h := add64 b o x 0 w hc hz
  rw [e, setCell_self w b o _ hc] at h
  exact h

theorem chan_setCell (w : World) (b o c cap s r : Nat) (buf : Array Value) (cl tm : Bool) (v : Value) (h : b ≠ c) : (w.setChan c cap buf cl s r tm).setCell ⟨b, o, none⟩ v = (w.setCell ⟨b, o, none⟩ v).setChan c cap buf cl s r tm := by
  have e : ((w.setChan c cap buf cl s r tm).setCell ⟨b, o, none⟩ v).heap = ((w.setCell ⟨b, o, none⟩ v).setChan c cap buf cl s r tm).heap := by
    apply Array.ext_getElem?
    intro i
    simp only [World.setCell, World.setChan, Array.getElem?_modify, Array.getElem?_setIfInBounds, Array.size_modify]
    by_cases hi : b = i
    · subst hi
      have : ¬ c = b := fun e => h e.symm
      simp [this]
    · simp [hi]
  cases w
  simp only [World.setCell, World.setChan] at e ⊢
  rw [e]
theorem chan_other (w : World) (c cap s r k : Nat) (buf : Array Value) (cl tm : Bool) (h : k ≠ c) : (w.setChan c cap buf cl s r tm).heap[k]? = w.heap[k]? := by
  simp only [World.setChan]
  rw [Array.getElem?_setIfInBounds_ne (fun e => h e.symm)]
theorem chan_cell (w : World) (c cap s r : Nat) (buf : Array Value) (cl tm : Bool) (a : Addr) (h : a.block ≠ c) : (w.setChan c cap buf cl s r tm).cell? a = w.cell? a := World.cell?_of_block (chan_other w c cap s r a.block buf cl tm h)
theorem chan_frozen (w : World) (c cap s r : Nat) (buf : Array Value) (cl tm : Bool) (a : Addr) (h : a.block ≠ c) : (w.setChan c cap buf cl s r tm).frozen? a = w.frozen? a := World.frozen?_of_block (chan_other w c cap s r a.block buf cl tm h)

/-- What the walks know of the scheduler's block. -/
structure Sch (w : World) (B cd : Nat) (lv : Int) (cl : Bool) : Prop where
  live : w.cell? ⟨B, 193, none⟩ = some (.int .i64 lv)
  closed : w.cell? ⟨B, 128, none⟩ = some (.int .u32 (if cl then 1 else 0))
  mu : w.cell? ⟨B, 315, none⟩ = some (.int .i32 0)
  drained : w.cell? ⟨B, 328, none⟩ = some (.chan (some cd))
  free : ∀ o, w.frozen? ⟨B, o, none⟩ = false
  ne : B ≠ cd
theorem Sch.of_block {w w' : World} {B cd : Nat} {lv : Int} {cl : Bool} (h : Sch w B cd lv cl) (hb : w'.heap[B]? = w.heap[B]?) : Sch w' B cd lv cl :=
  ⟨(World.cell?_of_block hb).trans h.live, (World.cell?_of_block hb).trans h.closed, (World.cell?_of_block hb).trans h.mu, (World.cell?_of_block hb).trans h.drained, fun o => (World.frozen?_of_block hb).trans (h.free o), h.ne⟩

set_option maxHeartbeats 1000000 in
theorem release_stay (B cd : Nat) (lv : Int) (cl : Bool) (w : World) (h : Sch w B cd lv cl) (hx : -9223372036854775808 ≤ lv ∧ lv ≤ 9223372036854775807) (hno : ¬ (lv = 0 ∧ cl = true)) :
    Calls Ybad.prog 14 #[.pointer (some ⟨B, 0, none⟩), .int .i64 0] w fun e w' => e = .returned (.tuple #[]) ∧ w' = w := by
  have h1 := h.live
  have h2 := h.closed
  have f1 := h.free 193
  by_cases hl : lv = 0
  · subst hl
    have hc : cl = false := by simpa using hno
    subst hc
    go_enter Ybad.func14, Ybad.ntmps14
    go_wp2_with (first | (go_at_call 15; refine (add64_zero _ _ _ _ hx h1 f1).mono ?_; rintro e w' ⟨rfl, rfl⟩) | (go_at_call 9; refine (loadBool _ _ false _ h2).mono ?_; rintro e w' ⟨rfl, rfl⟩))
    go_end0
    exact ⟨rfl, rfl⟩
  · have hl' : (lv == 0) = false := by simpa using hl
    go_enter Ybad.func14, Ybad.ntmps14
    go_wp2_with (first | (go_at_call 15; refine (add64_zero _ _ _ _ hx h1 f1).mono ?_; rintro e w' ⟨rfl, rfl⟩))
    go_end0
    exact ⟨rfl, rfl⟩

set_option maxHeartbeats 1000000 in
theorem release_drain (B cd : Nat) (w : World) (h : Sch w B cd 0 true) (hc : w.heap[cd]? = some (.chan 0 #[] false 0 0 false)) :
    Calls Ybad.prog 14 #[.pointer (some ⟨B, 0, none⟩), .int .i64 0] w fun e w' => e = .returned (.tuple #[]) ∧ w' = w.setChan cd 0 #[] true 0 0 false := by
  have h1 := h.live
  have h2 := h.closed
  have f1 := h.free 193
  have f2 := h.free 315
  have h3 := h.mu
  have HS : Hid (Sch w B cd 0 true) := h
  have d1 : (w.setCell ⟨B, 315, none⟩ (.int .i32 1)).cell? ⟨B, 328, none⟩ = some (.chan (some cd)) := (World.cell?_setCell_other _ _ _ _ (by simp)).trans h.drained
  have d2 : (w.setCell ⟨B, 315, none⟩ (.int .i32 1)).heap[cd]? = some (.chan 0 #[] false 0 0 false) := (heap_setCell_other _ _ _ _ (fun e => h.ne e.symm)).trans hc
  have d3 : (w.setCell ⟨B, 315, none⟩ (.int .i32 1)).cell? ⟨B, 315, none⟩ = some (.int .i32 1) := World.cell?_setCell_same _ _ _ h3
  have HD1 : Hid ((w.setCell ⟨B, 315, none⟩ (.int .i32 1)).cell? ⟨B, 328, none⟩ = some (.chan (some cd))) := d1
  have HD2 : Hid ((w.setCell ⟨B, 315, none⟩ (.int .i32 1)).heap[cd]? = some (.chan 0 #[] false 0 0 false)) := d2
  have HD3 : Hid ((w.setCell ⟨B, 315, none⟩ (.int .i32 1)).cell? ⟨B, 315, none⟩ = some (.int .i32 1)) := d3
  clear h d1 d2 d3 hc
  go_enter Ybad.func14, Ybad.ntmps14
  go_wp2_with (first
    | (go_at_call 15; refine (add64_zero _ _ _ _ (by omega) h1 f1).mono ?_; rintro e w' ⟨rfl, rfl⟩)
    | (go_at_call 9; refine (loadBool _ _ true _ h2).mono ?_; rintro e w' ⟨rfl, rfl⟩)
    | (go_at_call 21; refine (lock_free muLib ⟨B, 315, none⟩ _ h3 f2).mono ?_; rintro e w' ⟨rfl, rfl⟩))
  refine (closeDrained_open B cd 0 0 _ HD1.out HD2.out).mono ?_
  rintro e w' ⟨rfl, rfl⟩
  go_wp2_with fail
  refine (unlock_held muLib ⟨B, 315, none⟩ _ ?_ ?_).mono ?_
  · exact (chan_cell _ _ _ _ _ _ _ _ _ HS.out.ne).trans HD3.out
  · exact (chan_frozen _ _ _ _ _ _ _ _ _ HS.out.ne).trans (by simpa using f2)
  rintro e w' ⟨rfl, rfl⟩
  go_wp2
  go_end0
  refine ⟨rfl, ?_⟩
  rw [chan_setCell _ _ _ _ _ _ _ _ _ _ _ HS.out.ne, setCell_back _ B 315 _ _ h3]

/-- Of what was there, only blocks of S have turned. -/
structure Kept (S : Nat → Prop) (w w' : World) : Prop where
  os : w'.os = w.os
  tape : w'.tape = w.tape
  output : w'.output = w.output
  size : w.heap.size ≤ w'.heap.size
  block : ∀ k, k < w.heap.size → ¬ S k → w'.heap[k]? = w.heap[k]?
theorem Kept.refl (S : Nat → Prop) (w : World) : Kept S w w := ⟨rfl, rfl, rfl, Nat.le_refl _, fun _ _ _ => rfl⟩
theorem Kept.trans {S : Nat → Prop} {a b c : World} (h : Kept S a b) (k : Kept S b c) : Kept S a c :=
  ⟨k.os.trans h.os, k.tape.trans h.tape, k.output.trans h.output, Nat.le_trans h.size k.size, fun i hi hs => (k.block i (Nat.lt_of_lt_of_le hi h.size) hs).trans (h.block i hi hs)⟩
theorem Kept.mono {S T : Nat → Prop} {a b : World} (h : Kept S a b) (hst : ∀ k, S k → T k) : Kept T a b := ⟨h.os, h.tape, h.output, h.size, fun k hk ht => h.block k hk (fun hs => ht (hst k hs))⟩
theorem Kept.ofBelow {S : Nat → Prop} {a b : World} (h : Below a.heap.size a b) : Kept S a b := ⟨h.os, h.tape, h.output, h.size, fun k hk _ => h.block k hk⟩
theorem Kept.cell {S : Nat → Prop} {w w' : World} (h : Kept S w w') {p : Addr} (h1 : p.block < w.heap.size) (h2 : ¬ S p.block) : w'.cell? p = w.cell? p := World.cell?_of_block (h.block p.block h1 h2)
theorem Kept.frozen {S : Nat → Prop} {w w' : World} (h : Kept S w w') {p : Addr} (h1 : p.block < w.heap.size) (h2 : ¬ S p.block) : w'.frozen? p = w.frozen? p := World.frozen?_of_block (h.block p.block h1 h2)
theorem Kept.setCell {S : Nat → Prop} {a w : World} (h : Kept S a w) (b o : Nat) (v : Value) (hb : S b ∨ a.heap.size ≤ b) : Kept S a (w.setCell ⟨b, o, none⟩ v) :=
  ⟨h.os, h.tape, h.output, by rw [show (w.setCell ⟨b, o, none⟩ v).heap.size = w.heap.size by simp [World.setCell]]; exact h.size, fun k hk hs => by
    have : k ≠ b := fun e => by subst e; rcases hb with h1 | h1; exact hs h1; omega
    exact (heap_setCell_other _ _ _ _ this).trans (h.block k hk hs)⟩
theorem Kept.setChan {S : Nat → Prop} {a w : World} (h : Kept S a w) (c cap s r : Nat) (buf : Array Value) (cl tm : Bool) (hb : S c ∨ a.heap.size ≤ c) : Kept S a (w.setChan c cap buf cl s r tm) :=
  ⟨h.os, h.tape, h.output, by rw [size_setChan]; exact h.size, fun k hk hs => by
    have : k ≠ c := fun e => by subst e; rcases hb with h1 | h1; exact hs h1; omega
    exact (chan_other _ _ _ _ _ _ _ _ _ this).trans (h.block k hk hs)⟩
theorem Kept.alloc {S : Nat → Prop} {a w : World} (h : Kept S a w) (o : Obj) : Kept S a (w.alloc o) :=
  ⟨h.os, h.tape, h.output, by simp; exact Nat.le_succ_of_le h.size, fun k hk hs => (Below.heap_alloc _ _ _ (Nat.lt_of_lt_of_le hk h.size)).trans (h.block k hk hs)⟩
theorem Kept.drew {S : Nat → Prop} {a w : World} (h : Kept S a w) : Kept S a w.drew := ⟨h.os, h.tape, h.output, h.size, h.block⟩
theorem Kept.drewN {S : Nat → Prop} {a w : World} (h : Kept S a w) (q : Nat) : Kept S a (w.drewN q) := ⟨h.os, h.tape, h.output, h.size, h.block⟩

theorem release_any (B cd : Nat) (lv : Int) (cl : Bool) (w : World) (h : Sch w B cd lv cl) (hx : -9223372036854775808 ≤ lv ∧ lv ≤ 9223372036854775807) (hc : w.heap[cd]? = some (.chan 0 #[] false 0 0 false)) :
    Calls Ybad.prog 14 #[.pointer (some ⟨B, 0, none⟩), .int .i64 0] w fun e w' => e = .returned (.tuple #[]) ∧ Kept (fun k => k = cd) w w' ∧ w'.heap[cd]? = some (.chan 0 #[] (decide (lv = 0 ∧ cl = true)) 0 0 false) ∧ w'.heap.size = w.heap.size := by
  have hlt : cd < w.heap.size := (Array.getElem?_eq_some_iff.1 hc).1
  by_cases hy : lv = 0 ∧ cl = true
  · obtain ⟨rfl, rfl⟩ := hy
    refine (release_drain B cd w h hc).mono ?_
    rintro e w' ⟨rfl, rfl⟩
    exact ⟨rfl, (Kept.refl _ w).setChan _ _ _ _ _ _ _ (.inl rfl), by simpa using heap_setChan w cd 0 #[] true 0 0 false hlt, size_setChan _ _ _ _ _ _ _ _⟩
  · refine (release_stay B cd lv cl w h hx hy).mono ?_
    rintro e w' ⟨rfl, rfl⟩
    exact ⟨rfl, Kept.refl _ _, by rw [hc, decide_eq_false hy], rfl⟩
end Go.Proofs.YbulkfeocDoor
