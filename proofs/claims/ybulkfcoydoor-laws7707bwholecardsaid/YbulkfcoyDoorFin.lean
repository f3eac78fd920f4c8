import Derived.Test.YbulkfcoyDoorMa
import Derived.Test.YbulkfcoyDoorMb
import Derived.Test.YbulkfcoyDoorTie
import Derived.Test.YbulkfcoyDoorCards
import Derived.ProofKit
import Derived.OpenShut
import Derived.ShutString
import Derived.ChangeOld
import Derived.Lay
import Derived.Stop.Joined
import Derived.SizedLaws
namespace Go.Proofs.YbulkfcoyDoor
open Go.ChangeShapes Go.WideShapes Go.ChangeAt Go.RowKit
set_option linter.unusedVariables false

theorem own : ownKnob Ybad.prog.godebug = none := by kernel_rfl
theorem laidOut : laidOutB Ybad.prog = true := by kernel_rfl
theorem tz4 : (Ybad.prog.globals[0]?).map (·.type) = some 36 := by kernel_rfl
theorem tz6 : (Ybad.prog.globals[1]?).map (·.type) = some 36 := by kernel_rfl
theorem Ybad.cells36 : Ybad.prog.cellsOf 36 = 1 := by kernel_rfl
theorem Ybad.cells34 : Ybad.prog.cellsOf 34 = 1 := by kernel_rfl
theorem Ybad.cells5 : Ybad.prog.cellsOf 5 = 1 := by kernel_rfl

/-- A variable of the type 'unique.Handle' that can be read holds one pointer. -/
theorem handle_cell {H : Type} {enc : TypeId × Value → H} {W : World} {base : Nat} {sp : Nat → Bool} {held : Bool} {fuel : Nat} {cs : List Value} {x : DataW H × List MemPlace}
    (h : DataW.trod enc Ybad.prog W base sp held fuel 36 cs = some x) : ∃ p, cs = [.pointer p] := by
  obtain ⟨y0, n, rfl, hl, h0⟩ := trod_struct1 Ybad.underlying36 h
  rw [Ybad.cells36] at hl
  have h1 : DataW.trod enc Ybad.prog W base sp held n 34 cs = some y0 := by
    have e : (cs.drop 0).take (Ybad.prog.cellsOf 34) = cs := by rw [Ybad.cells34, List.drop_zero, List.take_of_length_le (by omega)]
    rw [← e]; exact h0
  rcases DataW.trod_pointer Ybad.underlying34 h1 with ⟨rfl, _⟩ | ⟨a, _, _, _, _, rfl, _⟩
  · exact ⟨_, rfl⟩
  · exact ⟨_, rfl⟩

/-- WHAT THE CONDITION GIVES THE WALK: the two variables' cells. -/
theorem of_laid {W : World} (h : laidMetH Ybad.prog Rows.lawS7707BWholeRow.laid W) : ∃ p4 p6, W.cell? ⟨0, 0, none⟩ = some (.pointer p4) ∧ W.cell? ⟨1, 0, none⟩ = some (.pointer p6) := by
  rw [MakeChecks.laidMetH_plain _ _ _ (by kernel_rfl)] at h
  obtain ⟨ps, ⟨g0, t0, cs0, f0, p0, q0, hg0, ht0, hv0, hd0, ⟨g1, t1, cs1, f1, p1, q1, hg1, ht1, hv1, hd1, _, _⟩, _⟩, _, _⟩ := h
  obtain rfl := Option.some.inj ((show Ybad.prog.globalNamed _ = some 0 by kernel_rfl).symm.trans hg0)
  obtain rfl := Option.some.inj ((show Ybad.prog.globalNamed _ = some 1 by kernel_rfl).symm.trans hg1)
  obtain rfl := Option.some.inj (tz4.symm.trans ht0)
  obtain rfl := Option.some.inj (tz6.symm.trans ht1)
  obtain ⟨a, ha⟩ := handle_cell hd0
  obtain ⟨b, hb⟩ := handle_cell hd1
  refine ⟨a, b, ?_, ?_⟩
  · have := World.var?_cell hg0 hv0 0
    rw [Array.eq_one_of_toList ha] at this
    simpa using this
  · have := World.var?_cell hg1 hv1 0
    rw [Array.eq_one_of_toList hb] at this
    simpa using this

/-- A byte slice that came in, as the walk is told of it; its length is within what its datum weighs. -/
theorem isB_of {H : Type} {enc : TypeId × Value → H} {W : World} {a : Option Addr} {len cap : Nat} {d : DataW H} {p : List MemPlace}
    (h : DataW.Trod enc Ybad.prog W 0 (fun _ => true) true 22 (.slice a len cap) d p) : (∃ x, IsB W a len cap x) ∧ (len = 0 ∨ ∃ elems spare, d = .slice elems spare ∧ len ≤ elems.length + spare.length) := by
  obtain ⟨fuel, hf⟩ := h
  rcases open_ints Ybad.underlying22 Ybad.underlying5 Ybad.cells5 hf with ⟨hcs, _⟩ | ⟨x, l, c, zs, hcs, _, hl, hm, hz, hx, hcell, hwz⟩
  · simp [Value.cells] at hcs
    obtain ⟨rfl, rfl, rfl⟩ := hcs
    exact ⟨⟨fun _ => 0, Nat.le_refl _, Nat.zero_le _, fun _ => ⟨rfl, rfl⟩, fun h => absurd rfl h⟩, .inl rfl⟩
  · simp [Value.cells] at hcs
    obtain ⟨rfl, rfl, rfl⟩ := hcs
    simp only [if_true] at hz
    simp only [Prod.mk.injEq] at hx
    refine ⟨⟨fun j => zs.getD j 0, hl, hm, by simp, fun hn => ?_⟩, .inr ⟨_, _, hx.1, ?_⟩⟩
    · obtain ⟨b, off, spot⟩ := x
      have hspot : spot = none := by simpa [Addr.add] using World.cell?_spot (hcell 0 (by omega))
      subst hspot
      have hc : ∀ j, j < len → W.cell? ⟨b, off + j, none⟩ = some (.int .u8 (zs.getD j 0)) := fun j hj => by
        have := hcell j (by omega)
        rwa [Addr.add_lit] at this
      exact ⟨b, off, rfl, block_lt_of_cell (hc 0 (by omega)), hc⟩
    · simp only [lits, List.length_map, List.length_take, List.length_drop]
      omega

set_option maxHeartbeats 400000 in
theorem law_big (a0 : Option Addr) (n0 c0 : Nat) (six : Bool) (s pr : Int) (a4 : Option Addr) (n4 c4 : Nat) (a5 : Option Addr) (n5 c5 : Nat) (w : World) (h0 : n0 ≤ 9223372036854775807) (h4 : n4 ≤ 9223372036854775807) (h5 : n5 ≤ 9223372036854775807)
    (hb : n0 + n4 + n5 ≤ 9223372036854775807) (hbig : ¬ n0 + n4 + n5 ≤ 1048576) :
    Calls Ybad.prog 3 #[.slice a0 n0 c0, .bool six, .int .u8 s, .int .u16 pr, .slice a4 n4 c4, .slice a5 n5 c5] w fun e w' => e = .returned (.bool true) ∧ Below w.heap.size w w' := by
  go_enter Ybad.func3, Ybad.ntmps3
  go_wp2
  go_ret
  exact ⟨rfl, Below.refl _ _⟩

theorem Ybad.bytes5 : Ybad.prog.bytesOf 5 = 1 := by kernel_rfl

/-- Each slice's length is within the form's own reach. -/
theorem reach_of {H : Type} {ts : List TypeId} {ds : List (DataW H)} (h : (DataW.weightsEach Ybad.prog ts ds).all (· ≤ reachBytes) = true) {j : Nat} {d : DataW H} {len : Nat} (ht : ts[j]? = some 22) (hd : ds[j]? = some d)
    (hl : len = 0 ∨ ∃ elems spare, d = .slice elems spare ∧ len ≤ elems.length + spare.length) : len ≤ 140737488351232 := by
  rcases hl with rfl | ⟨elems, spare, rfl, hle⟩
  · omega
  · have := sized_slice h (j := j) (t := 22) (e := 5) ht hd Ybad.underlying22
    rw [Ybad.bytes5] at this
    simp only [reachBytes] at this
    omega

/-! ### THE WALK, WHOLE -/
theorem walk (a0 : Option Addr) (n0 c0 : Nat) (x0 : Nat → Int) (six : Bool) (s pr : Int) (a4 : Option Addr) (n4 c4 : Nat) (x4 : Nat → Int) (a5 : Option Addr) (n5 c5 : Nat) (x5 : Nat → Int) (p4 p6 : Option Addr) (w : World)
    (b0 : IsB w a0 n0 c0 x0) (b4 : IsB w a4 n4 c4 x4) (b5 : IsB w a5 n5 c5 x5) (g4 : w.cell? ⟨0, 0, none⟩ = some (.pointer p4)) (g6 : w.cell? ⟨1, 0, none⟩ = some (.pointer p6)) (hs : (Lit.int .u8 s).wf = true)
    (h0 : n0 ≤ 140737488351232) (h4 : n4 ≤ 140737488351232) (h5 : n5 ≤ 140737488351232) :
    Calls Ybad.prog 3 #[.slice a0 n0 c0, .bool six, .int .u8 s, .int .u16 pr, .slice a4 n4 c4, .slice a5 n5 c5] w fun e w' => e = .returned (.bool true) ∧ Below w.heap.size w w' := by
  have hb := bounds_u8 hs
  obtain ⟨k, rfl⟩ : ∃ k : Nat, s = (k : Int) := ⟨s.toNat, by omega⟩
  by_cases hsm : n0 + n4 + n5 ≤ 1048576
  · cases six
    · exact law_4 a0 n0 c0 x0 k pr a4 n4 c4 x4 a5 n5 c5 x5 p4 p6 w b0 b4 b5 g4 g6 (by omega) hsm
    · exact law_16 a0 n0 c0 x0 k pr a4 n4 c4 x4 a5 n5 c5 x5 p4 p6 w b0 b4 b5 g4 g6 (by omega) hsm
  · exact law_big a0 n0 c0 six k pr a4 n4 c4 a5 n5 c5 w (by omega) (by omega) (by omega) (by omega) hsm

set_option maxRecDepth 100000 in
theorem lifted (os : Os) (started : os.Started) (H : Type) (enc : TypeId × Value → H) :
    ReturnsInHanded {} Ybad.checked os 3 .any (fun w args => (Rows.lawS7707BWholeSpec.pre enc Ybad.prog Ybad.f3 [] false w args ∧ laidMetH Ybad.prog Rows.lawS7707BWholeRow.laid w) ∧ sizedMet enc Ybad.prog Ybad.f3 (OpenSpec.ofChange Rows.lawS7707BWholeSpec) false w args)
      (Rows.lawS7707BWholeSpec.post enc Ybad.prog Ybad.f3 false true false false) := by
  refine returnsInHanded_of_change_and (C := Ybad.checked) (X := fun w _ => laidMetH Ybad.prog Rows.lawS7707BWholeRow.laid w) (fun _ _ _ hh h => h.of_heap hh) own started (by kernel_rfl) Ybad.func3
    (ChangeSpec.witness_shaped (enc := enc) (C := Ybad.checked) (os := os) (X := fun w _ => laidMetH Ybad.prog Rows.lawS7707BWholeRow.laid w) false (World.laidAll Ybad.prog os Rows.lawS7707BWholeRow.laid) #[.slice none 0 0, .bool false, .int .u8 0, .int .u16 0, .slice none 0 0, .slice none 0 0] 8 (World.laidAll_os _ _ _)
      (World.shaped_of_ZipB (by kernel_rfl) (by kernel_rfl)) (by kernel_rfl) (by kernel_rfl) (by kernel_rfl)
      (by rw [MakeChecks.laidMetH_plain _ _ _ (by kernel_rfl)]; exact laidMet_laidAll _ (by kernel_rfl) (by kernel_rfl))) ?_
  intro W base args ds gs before hval0 hW _ hsz0 hL _
  have hval : ∀ (j : Nat) t v, Ybad.f3.params[j]? = some t → args[j]? = some v → Value.okWide Ybad.prog W .any base t v := hval0
  have hsz : (DataW.weightsEach Ybad.prog (Ybad.f3.params.toList ++ Rows.lawS7707BWholeSpec.plain.varTypes Ybad.prog) (ds ++ gs)).all (· ≤ reachBytes) = true := hsz0
  have hW' := hW
  obtain ⟨p, q, hA0, hV, rfl, hfz, hnd⟩ := hW
  have hA : DataW.TrodAll enc Ybad.prog W 0 (fun _ => true) true Ybad.f3.params.toList args.toList ds p := hA0
  rw [Ybad.params3] at hA hval hsz
  obtain ⟨v0, vs0, d0, ds0, p0, q0, hargs, rfl, rfl, h0, r0⟩ := trodAll_cons hA
  obtain ⟨v1, vs1, d1, ds1, p1, q1, rfl, rfl, rfl, h1, r1⟩ := trodAll_cons r0
  obtain ⟨v2, vs2, d2, ds2, p2, q2, rfl, rfl, rfl, h2, r2⟩ := trodAll_cons r1
  obtain ⟨v3, vs3, d3, ds3, p3, q3, rfl, rfl, rfl, h3, r3⟩ := trodAll_cons r2
  obtain ⟨v4, vs4, d4, ds4, p4, q4, rfl, rfl, rfl, h4, r4⟩ := trodAll_cons r3
  obtain ⟨v5, vs5, d5, ds5, p5, q5, rfl, rfl, rfl, h5, r5⟩ := trodAll_cons r4
  obtain ⟨rfl, rfl, rfl⟩ := trodAll_nil r5
  obtain rfl : args = #[v0, v1, v2, v3, v4, v5] := by cases args; simp_all
  obtain ⟨rfl, rfl⟩ := trodVars_none hV
  obtain ⟨a0, len0, cap0, rfl⟩ := okWide_slice Ybad.underlying22 (hval 0 22 v0 rfl rfl)
  obtain ⟨six, rfl, rfl, rfl⟩ := open_bool Ybad.underlying4 (hval 1 4 v1 rfl rfl) h1
  obtain ⟨s, rfl, rfl, rfl, ws⟩ := open_int Ybad.underlying5 (hval 2 5 v2 rfl rfl) h2
  obtain ⟨pr, rfl, rfl, rfl, wpr⟩ := open_int Ybad.underlying23 (hval 3 23 v3 rfl rfl) h3
  obtain ⟨a4, len4, cap4, rfl⟩ := okWide_slice Ybad.underlying22 (hval 4 22 v4 rfl rfl)
  obtain ⟨a5, len5, cap5, rfl⟩ := okWide_slice Ybad.underlying22 (hval 5 22 v5 rfl rfl)
  have lt0 : ∀ x ∈ p0, x.block < W.heap.size := by obtain ⟨m, hm⟩ := h0; exact DataW.trod_lt m _ _ _ hm
  have lt4 : ∀ x ∈ p4, x.block < W.heap.size := by obtain ⟨m, hm⟩ := h4; exact DataW.trod_lt m _ _ _ hm
  have lt5 : ∀ x ∈ p5, x.block < W.heap.size := by obtain ⟨m, hm⟩ := h5; exact DataW.trod_lt m _ _ _ hm
  obtain ⟨⟨x0, b0⟩, l0⟩ := isB_of h0
  obtain ⟨⟨x4, b4⟩, l4⟩ := isB_of h4
  obtain ⟨⟨x5, b5⟩, l5⟩ := isB_of h5
  obtain ⟨g4, g6, hg4, hg6⟩ := of_laid hL
  have e0 := reach_of hsz (j := 0) (len := len0) rfl rfl l0
  have e4 := reach_of hsz (j := 4) (len := len4) rfl rfl l4
  have e5 := reach_of hsz (j := 5) (len := len5) rfl rfl l5
  clear hA0 hval0
  refine (walk a0 len0 cap0 x0 six s pr a4 len4 cap4 x4 a5 len5 cap5 x5 g4 g6 W b0 b4 b5 hg4 hg6 ws e0 e4 e5).mono fun e W' ⟨he, bel⟩ => ?_
  subst he
  exact ⟨_, rfl, _, _, _, [], _, [], hW', trodAll_mk1 (shut_bool Ybad.underlying4 _),
    (trodAll_cons_mk (Below.trod laidOut (by kernel_rfl) (of_decide_eq_true (by kernel_rfl)) h0 bel lt0) (trodAll_cons_mk (shut_bool Ybad.underlying4 six) (trodAll_cons_mk (shut_int Ybad.underlying5 ws) (trodAll_cons_mk (shut_int Ybad.underlying23 wpr)
      (trodAll_cons_mk (Below.trod laidOut (by kernel_rfl) (of_decide_eq_true (by kernel_rfl)) h4 bel lt4) (trodAll_cons_mk (Below.trod laidOut (by kernel_rfl) (of_decide_eq_true (by kernel_rfl)) h5 bel lt5) trodAll_mk0)))))), rfl, bel.frame _, fun h => by cases h⟩

theorem law_holds : Rows.LawS7707BWholeSaid :=
  OpenClaim.holds_of_wide 3 Ybad.f3 rfl rfl rfl rfl rfl rfl rfl ⟨rfl, rfl, rfl, rfl, rfl⟩ rfl rfl rfl rfl rfl (by kernel_rfl) Ybad.func3 (by kernel_rfl)
    (of_decide_eq_true (by kernel_rfl)) (by unfold Func.isWrapper; first | (rw [if_pos (by decide +kernel)]; kernel_rfl) | (rw [if_neg (by decide +kernel)]; exact ⟨rfl, rfl⟩))
    (fun os started H enc _ => lifted os started H enc)

/-- ████ THE STATEMENT: THE TIED CARD ████ -/
theorem proved : Rows.LawS7707BWholeCardSaid :=
  Claim7.holds_tied_plain_at .later [] [.called, .called] true (true, "a191e868d88f750232f585bfde31695c87f2c077c3e4703bc15f2fc1265dd0cd") false
    law_holds (fun _ h => by cases h) (by kernel_rfl) (fun _ h => by cases h) lawS7707BWhole_row_tie rfl ⟨rfl, rfl⟩ (by kernel_rfl) rfl
    (fun f fn hf hfn => by
      obtain rfl : f = 3 := Option.some.inj ((show Ybad.prog.funcNamed _ = some 3 by kernel_rfl).symm.trans hf) |>.symm
      obtain rfl : fn = Ybad.f3 := (Option.some.inj (Ybad.func3.symm.trans hfn)).symm
      exact ⟨by kernel_rfl, fun j t ht => by
        rw [Ybad.params3] at ht
        have hm : t ∈ [22, 4, 5, 23, 22, 22] := by simpa using Array.mem_of_getElem? ht
        have hall : ([22, 4, 5, 23, 22, 22].all fun u => !Ybad.prog.wantsStandIn u) = true := by kernel_rfl
        exact (show Ybad.prog.wantsStandIn t = false by simpa using List.all_eq_true.1 hall t hm)⟩)
    (by kernel_rfl)
end Go.Proofs.YbulkfcoyDoor
