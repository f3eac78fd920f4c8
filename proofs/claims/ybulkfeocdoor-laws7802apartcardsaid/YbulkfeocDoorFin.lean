import Derived.Test.YbulkfeocDoorLb
import Derived.Test.YbulkfeocDoorTie
import Derived.Test.YbulkfeocDoorCards
import Derived.ProofKit
import Derived.OpenShut
import Derived.ShutString
import Derived.ChangeOld
import Derived.ChangeVars
import Derived.RowKitTokens
import Derived.WalkSmall
import Derived.Lay
import Derived.LaidHandle
import Derived.Stop.Joined
import Derived.SizedLaws
namespace Go.Proofs.YbulkfeocDoor
open Go.ChangeShapes Go.WideShapes Go.ChangeAt Go.RowKit
set_option linter.unusedVariables false

theorem own : ownKnob Ybad.prog.godebug = none := by kernel_rfl
theorem laidOut : laidOutB Ybad.prog = true := by kernel_rfl
theorem Ybad.cells5 : Ybad.prog.cellsOf 5 = 1 := by kernel_rfl
theorem tz0 : (Ybad.prog.globals[0]?).map (·.type) = some 81 := by kernel_rfl

/-- A byte slice that came in, as the walk is told of it. -/
theorem isB_of {H : Type} {enc : TypeId × Value → H} {W : World} {a : Option Addr} {len cap : Nat} {d : DataW H} {p : List MemPlace}
    (h : DataW.Trod enc Ybad.prog W 0 (fun _ => true) true 22 (.slice a len cap) d p) :
    len ≤ 9223372036854775807 ∧ ∃ (ab ao : Nat) (x : Nat → Int), (len = 0 ∨ a = some ⟨ab, ao, none⟩) ∧ (∀ j, j < len → W.cell? ⟨ab, ao + j, none⟩ = some (.int .u8 (x j))) ∧ (∀ j, j < len → 0 ≤ x j ∧ x j ≤ 255) := by
  obtain ⟨fuel, hf⟩ := h
  rcases open_ints Ybad.underlying22 Ybad.underlying5 Ybad.cells5 hf with ⟨hcs, _⟩ | ⟨x, l, c, zs, hcs, _, hl, hm, hz, hx, hcell, hwz⟩
  · simp [Value.cells] at hcs
    obtain ⟨rfl, rfl, rfl⟩ := hcs
    exact ⟨by omega, 0, 0, fun _ => 0, .inl rfl, fun j hj => absurd hj (by omega), fun j hj => absurd hj (by omega)⟩
  · simp [Value.cells] at hcs
    obtain ⟨rfl, rfl, rfl⟩ := hcs
    simp only [if_true] at hz
    refine ⟨by simp only [maxLen] at hm; omega, ?_⟩
    by_cases hn : len = 0
    · exact ⟨0, 0, fun _ => 0, .inl hn, fun j hj => absurd hj (by omega), fun j hj => absurd hj (by omega)⟩
    · obtain ⟨b, off, spot⟩ := x
      have hspot : spot = none := by simpa [Addr.add] using World.cell?_spot (hcell 0 (by omega))
      subst hspot
      refine ⟨b, off, fun j => zs.getD j 0, .inr rfl, fun j hj => ?_, fun j hj => ?_⟩
      · have := hcell j (by omega)
        rwa [Addr.add_lit] at this
      · have hj' : j < zs.length := by omega
        have := bounds_u8 (hwz (zs.getD j 0) (by rw [List.getD_eq_getElem?_getD, List.getElem?_eq_getElem hj']; exact List.getElem_mem hj'))
        omega

set_option maxRecDepth 100000 in
set_option maxHeartbeats 400000 in
theorem law_big (a0 : Option Addr) (n c0 : Nat) (b e : Int) (gone live : Int) (cl : Bool) (w : World) (h0 : n ≤ 9223372036854775807) (hbig : ¬ n ≤ 65536) :
    Calls Ybad.prog 3 #[.slice a0 n c0, .int .u32 b, .int .u32 e, .int .i64 gone, .int .i64 live, .bool cl] w fun e w' => e = .returned (.bool true) ∧ Below w.heap.size w w' := by
  go_enter Ybad.func3, Ybad.ntmps3
  go_wp2
  go_ret
  exact ⟨rfl, Below.refl _ _⟩

/-! ### THE WALK, WHOLE -/
theorem walk (a0 : Option Addr) (ab ao n c0 : Nat) (x : Nat → Int) (b e : Int) (gone live : Int) (cl : Bool) (w : World) (ha : n = 0 ∨ a0 = some ⟨ab, ao, none⟩) (hx : ∀ j, j < n → w.cell? ⟨ab, ao + j, none⟩ = some (.int .u8 (x j)))
    (hxr : ∀ j, j < n → 0 ≤ x j ∧ x j ≤ 255) (wg : (Lit.int .i64 gone).wf = true) (wl : (Lit.int .i64 live).wf = true) (wb : (Lit.int .u32 b).wf = true) (we : (Lit.int .u32 e).wf = true) (hn : n ≤ 9223372036854775807) :
    Calls Ybad.prog 3 #[.slice a0 n c0, .int .u32 b, .int .u32 e, .int .i64 gone, .int .i64 live, .bool cl] w fun e w' => e = .returned (.bool true) ∧ Below w.heap.size w w' := by
  have b1 := bounds_u32 wb
  have b2 := bounds_u32 we
  have b3 := bounds_i64 wg
  have b4 := bounds_i64 wl
  obtain ⟨bk, rfl⟩ : ∃ k : Nat, b = (k : Int) := ⟨b.toNat, by omega⟩
  obtain ⟨ek, rfl⟩ : ∃ k : Nat, e = (k : Int) := ⟨e.toNat, by omega⟩
  by_cases hsm : n ≤ 65536
  · exact law_small a0 ab ao n c0 x bk ek gone live cl w ha hx hxr (by omega) (by omega) hsm (by omega) (by omega)
  · exact law_big a0 n c0 bk ek gone live cl w hn hsm

set_option maxRecDepth 100000 in
theorem lifted (os : Os) (started : os.Started) (H : Type) (enc : TypeId × Value → H) :
    ReturnsInHanded {} Ybad.checked os 3 .any (fun w args => (Rows.lawS7802APartSpec.pre enc Ybad.prog Ybad.f3 [] false w args ∧ laidMetH Ybad.prog Rows.lawS7802APartRow.laid w) ∧ sizedMet enc Ybad.prog Ybad.f3 (OpenSpec.ofChange Rows.lawS7802APartSpec) false w args)
      (Rows.lawS7802APartSpec.post enc Ybad.prog Ybad.f3 false true false false) := by
  refine returnsInHanded_of_change_and (C := Ybad.checked) (X := fun w _ => laidMetH Ybad.prog Rows.lawS7802APartRow.laid w) (fun _ _ _ hh h => h.of_heap hh) own started (by kernel_rfl) Ybad.func3
    (ChangeSpec.witness_shaped (enc := enc) (C := Ybad.checked) (os := os) (X := fun w _ => laidMetH Ybad.prog Rows.lawS7802APartRow.laid w) false (World.laidAll Ybad.prog os Rows.lawS7802APartRow.laid) #[.slice none 0 0, .int .u32 0, .int .u32 0, .int .i64 0, .int .i64 0, .bool false] 8 (World.laidAll_os _ _ _)
      (World.shaped_of_ZipB (by kernel_rfl) (by kernel_rfl)) (by kernel_rfl) (by kernel_rfl) (by kernel_rfl)
      (by rw [MakeChecks.laidMetH_plain _ _ _ (by kernel_rfl)]; exact laidMet_laidAll _ (by kernel_rfl) (by kernel_rfl))) ?_
  intro W base args ds gs before hval0 hW _ _ _ _
  have hval : ∀ (j : Nat) t v, Ybad.f3.params[j]? = some t → args[j]? = some v → Value.okWide Ybad.prog W .any base t v := hval0
  have hW' := hW
  obtain ⟨p, q, hA0, hV, rfl, hfz, hnd⟩ := hW
  have hA : DataW.TrodAll enc Ybad.prog W 0 (fun _ => true) true Ybad.f3.params.toList args.toList ds p := hA0
  rw [Ybad.params3] at hA hval
  obtain ⟨v0, vs0, d0, ds0, p0, q0, hargs, rfl, rfl, h0, r0⟩ := trodAll_cons hA
  obtain ⟨v1, vs1, d1, ds1, p1, q1, rfl, rfl, rfl, h1, r1⟩ := trodAll_cons r0
  obtain ⟨v2, vs2, d2, ds2, p2, q2, rfl, rfl, rfl, h2, r2⟩ := trodAll_cons r1
  obtain ⟨v3, vs3, d3, ds3, p3, q3, rfl, rfl, rfl, h3, r3⟩ := trodAll_cons r2
  obtain ⟨v4, vs4, d4, ds4, p4, q4, rfl, rfl, rfl, h4, r4⟩ := trodAll_cons r3
  obtain ⟨v5, vs5, d5, ds5, p5, q5, rfl, rfl, rfl, h5, r5⟩ := trodAll_cons r4
  obtain ⟨rfl, rfl, rfl⟩ := trodAll_nil r5
  obtain rfl : args = #[v0, v1, v2, v3, v4, v5] := by cases args; simp_all
  obtain ⟨g, t, cs, fuel, d, p', rfl, hg, ht, hvar, hd, rfl⟩ := trodVars_one hV
  obtain rfl := Option.some.inj ((show Ybad.prog.globalNamed _ = some 0 by kernel_rfl).symm.trans hg)
  obtain rfl := Option.some.inj (tz0.symm.trans ht)
  obtain ⟨old, hcs, ho, hx⟩ := held_of_trod_list Ybad.underlying81 hd
  simp only [Prod.mk.injEq] at hx
  obtain ⟨rfl, rfl⟩ := hx
  obtain rfl : cs = #[old] := Array.eq_one_of_toList hcs
  have hc : W.cell? ⟨0, 0, none⟩ = some old := by simpa using World.var?_cell hg hvar 0
  have hlt : 0 < W.heap.size := block_lt_of_cell hc
  obtain ⟨a0, len0, cap0, rfl⟩ := okWide_slice Ybad.underlying22 (hval 0 22 v0 rfl rfl)
  obtain ⟨b, rfl, rfl, rfl, wb⟩ := open_int Ybad.underlying23 (hval 1 23 v1 rfl rfl) h1
  obtain ⟨e, rfl, rfl, rfl, we⟩ := open_int Ybad.underlying23 (hval 2 23 v2 rfl rfl) h2
  obtain ⟨gone, rfl, rfl, rfl, wg⟩ := open_int Ybad.underlying2 (hval 3 2 v3 rfl rfl) h3
  obtain ⟨live, rfl, rfl, rfl, wl⟩ := open_int Ybad.underlying2 (hval 4 2 v4 rfl rfl) h4
  obtain ⟨cl, rfl, rfl, rfl⟩ := open_bool Ybad.underlying4 (hval 5 4 v5 rfl rfl) h5
  have lt0 : ∀ x ∈ p0, x.block < W.heap.size := by obtain ⟨m, hm⟩ := h0; exact DataW.trod_lt m _ _ _ hm
  obtain ⟨hn, ab, ao, x0, c0, c1, c2⟩ := isB_of h0
  clear hA0 hval0
  refine (walk a0 ab ao len0 cap0 x0 b e gone live cl W c0 c1 c2 wg wl wb we hn).mono fun e W' ⟨he, bel⟩ => ?_
  subst he
  exact ⟨_, rfl, _, _, _, [], _, _, hW', trodAll_mk1 (shut_bool Ybad.underlying4 _),
    (trodAll_cons_mk (Below.trod laidOut (by kernel_rfl) (of_decide_eq_true (by kernel_rfl)) h0 bel lt0) (trodAll_cons_mk (shut_int Ybad.underlying23 wb) (trodAll_cons_mk (shut_int Ybad.underlying23 we) (trodAll_cons_mk (shut_int Ybad.underlying2 wg)
      (trodAll_cons_mk (shut_int Ybad.underlying2 wl) (trodAll_cons_mk (shut_bool Ybad.underlying4 cl) trodAll_mk0)))))),
    trodVars_mk1 (fuel := 1) (d := tok enc old) (p := []) hg ht (Go.var?_below bel hg hlt hvar) (trod_held Ybad.underlying81 ho 0), bel.frame _, fun h => by cases h⟩

theorem law_holds : Rows.LawS7802APartSaid :=
  OpenClaim.holds_of_wide 3 Ybad.f3 rfl rfl rfl rfl rfl rfl rfl ⟨rfl, rfl, rfl, rfl, rfl⟩ rfl rfl rfl rfl rfl (by kernel_rfl) Ybad.func3 (by kernel_rfl)
    (of_decide_eq_true (by kernel_rfl)) (by unfold Func.isWrapper; first | (rw [if_pos (by decide +kernel)]; kernel_rfl) | (rw [if_neg (by decide +kernel)]; exact ⟨rfl, rfl⟩))
    (fun os started H enc _ => lifted os started H enc)

/-- ████ THE STATEMENT: THE TIED CARD ████ -/
theorem proved : Rows.LawS7802APartCardSaid :=
  Claim7.holds_tied_plain_at .later [] [.sentinel] true (true, "597ba52ec3838356f9f06f13e5f7670776350294621ccfbd5935a4c16eb9c63a") false
    law_holds (fun _ h => by cases h) (by kernel_rfl) (fun _ h => by cases h) lawS7802APart_row_tie rfl ⟨rfl, rfl⟩ (by kernel_rfl) rfl
    (fun f fn hf hfn => by
      obtain rfl : f = 3 := Option.some.inj ((show Ybad.prog.funcNamed _ = some 3 by kernel_rfl).symm.trans hf) |>.symm
      obtain rfl : fn = Ybad.f3 := (Option.some.inj (Ybad.func3.symm.trans hfn)).symm
      exact ⟨by kernel_rfl, fun j t ht => by
        rw [Ybad.params3] at ht
        have hm : t ∈ [22, 23, 23, 2, 2, 4] := by simpa using Array.mem_of_getElem? ht
        have hall : ([22, 23, 23, 2, 2, 4].all fun u => !Ybad.prog.wantsStandIn u) = true := by kernel_rfl
        exact (show Ybad.prog.wantsStandIn t = false by simpa using List.all_eq_true.1 hall t hm)⟩)
    (by kernel_rfl)
end Go.Proofs.YbulkfeocDoor
