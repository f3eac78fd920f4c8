import Derived.Test.YbulkfeocDoorRe
namespace Go.Proofs.YbulkfeocDoor
open Go.Conc Go.Conc.Locks Go.RowKit Go.MuLone
set_option linter.unusedVariables false
set_option linter.unusedSimpArgs false

theorem hide {p : Prop} (h : p) : Hid p := h
theorem wrap_in (x : Int) (h1 : -9223372036854775808 ≤ x) (h2 : x ≤ 9223372036854775807) : IntKind.i64.wrap x = x := by
  rw [IntKind.wrap_i64]; omega

theorem setCell_block {w w' : World} {b : Nat} (h : w'.heap[b]? = w.heap[b]?) (o : Nat) (v : Value) : (w'.setCell ⟨b, o, none⟩ v).heap[b]? = (w.setCell ⟨b, o, none⟩ v).heap[b]? := by
  simp only [World.setCell, Array.getElem?_modify, h]

set_option maxHeartbeats 2000000 in
theorem run_end (B cd R dn bs bc br bn bb be n : Nat) (nx bg : Nat) (lv gone : Int) (cl : Bool) (a : Option Addr) (c : Nat) (u : FrameMode) (w : World)
    (hs : w.cell? ⟨bs, 0, none⟩ = some (.pointer (some ⟨B, 0, none⟩))) (hc : w.cell? ⟨bc, 0, none⟩ = some (.int .i64 0)) (hr : w.cell? ⟨br, 0, none⟩ = some (.pointer (some ⟨R, 0, none⟩)))
    (hn : w.cell? ⟨bn, 0, none⟩ = some (.int .i64 nx)) (hb : w.cell? ⟨bb, 0, none⟩ = some (.int .i64 bg)) (he : w.cell? ⟨be, 0, none⟩ = some (.int .i64 nx))
    (hS : Sch w B cd lv cl) (hlv : -9223372036854775808 ≤ lv ∧ lv ≤ 9223372036854775807) (hcd : w.heap[cd]? = some (.chan 0 #[] false 0 0 false)) (hdn : w.heap[dn]? = some (.chan 0 #[] false 0 0 false))
    (r0 : w.cell? ⟨R, 0, none⟩ = some (.slice a n c)) (r2 : w.cell? ⟨R, 2, none⟩ = some (.int .i64 gone)) (r3 : w.cell? ⟨R, 3, none⟩ = some (.chan (some dn))) (fR : w.frozen? ⟨R, 2, none⟩ = false)
    (n1 : cd ≠ dn) (n2 : R ≠ cd) (n3 : R ≠ dn) (n4 : br ≠ R) (n5 : bn ≠ R) (n6 : bb ≠ R) (n7 : be ≠ R) (hnx : nx ≤ 65536) (hbg : bg ≤ nx) (hn16 : n ≤ 65536) :
    CallsD Ybad.prog 13 #[.pointer (some ⟨bs, 0, none⟩), .pointer (some ⟨bc, 0, none⟩), .pointer (some ⟨br, 0, none⟩), .pointer (some ⟨bn, 0, none⟩), .pointer (some ⟨bb, 0, none⟩), .pointer (some ⟨be, 0, none⟩)] u w fun e u' w' =>
      u' = u ∧ (e = .returned (.tuple #[]) ∧ Kept (fun k => k = cd ∨ k = R ∨ k = dn) w w' ∧ w'.heap[cd]? = some (.chan 0 #[] (decide (lv = 0 ∧ cl = true)) 0 0 false) ∧
        w'.heap[dn]? = some (.chan 0 #[] (decide (wrap64 (gone + ((nx : Int) - bg)) = n)) 0 0 false) ∧ w'.heap[R]? = (w.setCell ⟨R, 2, none⟩ (.int .i64 (wrap64 (gone + ((nx : Int) - bg))))).heap[R]?) := by
  have KD : Hid (∀ (b o : Nat) (v : Value), w.cell? ⟨b, o, none⟩ = some v → b ≠ cd ∧ b < w.heap.size) := fun b o v h => ⟨fun e => by subst e; simp [World.cell?, hcd] at h, block_lt_of_cell h⟩
  have m1 : bn ≠ dn := fun e => by subst e; simp [World.cell?, hdn] at hn
  have m2 : be ≠ dn := fun e => by subst e; simp [World.cell?, hdn] at he
  have Hd := hide hdn
  have Hcd := hide hcd
  clear hdn hcd
  go_enter_d Ybad.func13, Ybad.ntmps13
  go_wp2_with fail
  refine (release_any B cd lv cl w hS hlv Hcd.out).mono ?_
  rintro e w1 ⟨rfl, kp1, cd1, sz1⟩
  have s1 : ∀ {b o : Nat} {v : Value}, w.cell? ⟨b, o, none⟩ = some v → w1.cell? ⟨b, o, none⟩ = some v := fun h => (kp1.cell (p := ⟨_, _, none⟩) (KD.out _ _ _ h).2 (KD.out _ _ _ h).1).trans h
  have hr1 := s1 hr
  have hn1 := s1 hn
  have hb1 := s1 hb
  have he1 := s1 he
  have r01 := s1 r0
  have r21 := s1 r2
  have r31 := s1 r3
  have fR1 : w1.frozen? ⟨R, 2, none⟩ = false := (kp1.frozen (p := ⟨R, 2, none⟩) (KD.out _ _ _ r2).2 n2).trans fR
  have dn1 : w1.heap[dn]? = some (.chan 0 #[] false 0 0 false) := (kp1.block dn (Array.getElem?_eq_some_iff.1 Hd.out).1 (fun e => n1 e.symm)).trans Hd.out
  have HK1 := hide kp1
  have HC1 := hide cd1
  have HD1 := hide dn1
  have HR := hide (KD.out _ _ _ r2).2
  clear kp1 cd1 dn1 hs hc hr hn hb he r0 r2 r3 fR s1
  have z1 : IntKind.i64.wrap ((nx : Int) - (bg : Int)) = (nx : Int) - bg := wrap_in _ (by omega) (by omega)
  have q1 : ∀ v, (w1.setCell ⟨R, 2, none⟩ v).cell? ⟨br, 0, none⟩ = some (.pointer (some ⟨R, 0, none⟩)) := fun v => (World.cell?_setCell_other _ _ _ _ (fun e => n4 (Addr.mk.inj e).1.symm)).trans hr1
  have q2 : ∀ v, (w1.setCell ⟨R, 2, none⟩ v).cell? ⟨bn, 0, none⟩ = some (.int .i64 nx) := fun v => (World.cell?_setCell_other _ _ _ _ (fun e => n5 (Addr.mk.inj e).1.symm)).trans hn1
  have q3 : ∀ v, (w1.setCell ⟨R, 2, none⟩ v).cell? ⟨bb, 0, none⟩ = some (.int .i64 bg) := fun v => (World.cell?_setCell_other _ _ _ _ (fun e => n6 (Addr.mk.inj e).1.symm)).trans hb1
  have q4 : ∀ v, (w1.setCell ⟨R, 2, none⟩ v).cell? ⟨R, 0, none⟩ = some (.slice a n c) := fun v => (World.cell?_setCell_other _ _ _ _ (by simp)).trans r01
  have q5 : ∀ v, (w1.setCell ⟨R, 2, none⟩ v).cell? ⟨R, 3, none⟩ = some (.chan (some dn)) := fun v => (World.cell?_setCell_other _ _ _ _ (by simp)).trans r31
  have q6 : ∀ v, (w1.setCell ⟨R, 2, none⟩ v).cell? ⟨be, 0, none⟩ = some (.int .i64 nx) := fun v => (World.cell?_setCell_other _ _ _ _ (fun e => n7 (Addr.mk.inj e).1.symm)).trans he1
  go_wp2_with fail
  go_region_held (fun w' => w'.cell? ⟨br, 0, none⟩ = some (.pointer (some ⟨R, 0, none⟩)) ∧ w'.cell? ⟨bn, 0, none⟩ = some (.int .i64 nx) ∧ w'.cell? ⟨bb, 0, none⟩ = some (.int .i64 bg) ∧ w'.cell? ⟨R, 0, none⟩ = some (.slice a n c)) (go_keep)
    ((go_at_call 15; refine (add64 R 2 gone _ _ ?_ ?_).mono ?_; exact r21; exact fR1; rintro e w' ⟨rfl, rfl⟩))
  have hcl : ∀ v, (Builtin.close_ #[25] 0 #[.chan (some dn)]).run Ybad.prog (w1.setCell ⟨R, 2, none⟩ v).drew = .ok (.tuple #[]) ((w1.setCell ⟨R, 2, none⟩ v).drew.setChan dn 0 #[] true 0 0 false) := fun v =>
    run_close dn 0 0 _ ((heap_setCell_other _ _ _ _ (fun e => n3 e.symm)).trans HD1.out)
  have q7 : ∀ v, ((w1.setCell ⟨R, 2, none⟩ v).drew.setChan dn 0 #[] true 0 0 false).cell? ⟨bn, 0, none⟩ = some (.int .i64 nx) := fun v => (chan_cell _ _ _ _ _ _ _ _ ⟨bn, 0, none⟩ m1).trans (q2 v)
  have q8 : ∀ v, ((w1.setCell ⟨R, 2, none⟩ v).drew.setChan dn 0 #[] true 0 0 false).cell? ⟨be, 0, none⟩ = some (.int .i64 nx) := fun v => (chan_cell _ _ _ _ _ _ _ _ ⟨be, 0, none⟩ m2).trans (q6 v)
  by_cases hg : wrap64 (gone + ((nx : Int) - bg)) = (n : Int)
  · have hg' : (wrap64 (gone + ((nx : Int) - bg)) == (n : Int)) = true := by simpa using hg
    have HG := hide hg
    clear hg
    go_wp2
    go_end0
    refine ⟨rfl, ?_, ?_, ?_, ?_⟩
    · exact ((((HK1.out.mono (fun k hk => .inl hk)).setCell R 2 _ (.inl (.inr (.inl rfl)))).drew).setChan _ _ _ _ _ _ _ (.inl (.inr (.inr rfl))))
    · exact (chan_other _ _ _ _ _ _ _ _ _ n1).trans ((heap_setCell_other _ _ _ _ (fun e => n2 e.symm)).trans HC1.out)
    · rw [HG.out, decide_eq_true rfl]
      refine heap_setChan _ dn 0 #[] true 0 0 false ?_
      have := (Array.getElem?_eq_some_iff.1 HD1.out).1
      simpa [World.setCell] using this
    · refine (chan_other _ _ _ _ _ _ _ _ _ n3).trans ?_
      exact setCell_block (HK1.out.block R HR.out n2) _ _
  · have hg' : (wrap64 (gone + ((nx : Int) - bg)) == (n : Int)) = false := by simpa using hg
    go_wp2
    go_end0
    refine ⟨rfl, ?_, ?_, ?_, ?_⟩
    · exact (((HK1.out.mono (fun k hk => .inl hk)).setCell R 2 _ (.inl (.inr (.inl rfl)))).drew)
    · exact (heap_setCell_other _ _ _ _ (fun e => n2 e.symm)).trans HC1.out
    · rw [decide_eq_false hg]
      exact (heap_setCell_other _ _ _ _ (fun e => n3 e.symm)).trans HD1.out
    · exact setCell_block (HK1.out.block R HR.out n2) _ _
end Go.Proofs.YbulkfeocDoor
