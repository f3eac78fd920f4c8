import Derived.Test.YbulkfeoqD
import Derived.Test.YbulkfeoqRows
import Derived.ProofKit
import Derived.OpenShut
import Derived.ShutString
import Derived.ChangeOld
import Derived.SliceStrings
import Derived.ChangeMaps5
import Derived.SizedLaws
namespace Go.Proofs.Ybulkfeoq
open Go.ChangeShapes Go.WideShapes Go.ChangeAt Go.RowKit
set_option linter.unusedVariables false

theorem own : ownKnob Yba.prog.godebug = none := by kernel_rfl
theorem laidOut : laidOutB Yba.prog = true := by kernel_rfl
theorem Yba.cells9 : Yba.prog.cellsOf 9 = 1 := by kernel_rfl
theorem Yba.bytes9 : Yba.prog.bytesOf 9 = 16 := by kernel_rfl

theorem weightsAll_mem {H : Type} {P : Program} {e : TypeId} : ∀ {l : List (DataW H)} {d : DataW H}, d ∈ l → ∀ n ∈ d.weights P e, n ∈ DataW.weightsAll P e l
  | [], _, h, _, _ => by cases h
  | x :: l, d, h, n, hn => by
    rw [DataW.weightsAll]
    rcases List.mem_cons.1 h with rfl | h
    · exact List.mem_append_left _ hn
    · exact List.mem_append_right _ (weightsAll_mem h n hn)

/-- A slice of strings that came in, as the walk is told of it, within the form's own reach. -/
theorem isS_of {H : Type} {enc : TypeId × Value → H} {W : World} {a : Option Addr} {len cap : Nat} {d : DataW H} {p : List MemPlace} {ts : List TypeId} {ds : List (DataW H)} {j : Nat}
    (h : DataW.Trod enc Yba.prog W 0 (fun _ => true) true 34 (.slice a len cap) d p) (hsz : (DataW.weightsEach Yba.prog ts ds).all (· ≤ reachBytes) = true) (ht : ts[j]? = some 34) (hd : ds[j]? = some d) :
    len ≤ 140737488351232 ∧ ∃ x : Nat → ByteArray, IsS W a len x ∧ ∀ k, k < len → (x k).size ≤ 140737488351232 := by
  obtain ⟨fuel, hf⟩ := h
  rcases open_strings Yba.underlying34 Yba.underlying9 Yba.cells9 hf with ⟨hcs, _⟩ | ⟨x, l, c, ss, hcs, _, hl, hm, hz, hx, hcell, hws⟩
  · simp [Value.cells] at hcs
    obtain ⟨rfl, rfl, rfl⟩ := hcs
    exact ⟨by omega, fun _ => ⟨#[]⟩, ⟨fun _ => rfl, fun h => absurd rfl h⟩, fun k hk => absurd hk (by omega)⟩
  · simp [Value.cells] at hcs
    obtain ⟨rfl, rfl, rfl⟩ := hcs
    simp only [if_true] at hz
    simp only [Prod.mk.injEq] at hx
    obtain ⟨rfl, _⟩ := hx
    have h1 := sized_slice hsz ht hd Yba.underlying34
    rw [Yba.bytes9] at h1
    simp only [strs, List.length_map, List.length_take, List.length_drop, reachBytes] at h1
    have hlen : len ≤ 140737488351232 := by omega
    refine ⟨hlen, fun k => ss.getD k ByteArray.empty, ⟨by simp, fun hn => ?_⟩, fun k hk => ?_⟩
    · obtain ⟨b, off, spot⟩ := x
      have hspot : spot = none := by simpa [Addr.add] using World.cell?_spot (hcell 0 (by omega))
      subst hspot
      have hc : ∀ j, j < len → W.cell? ⟨b, off + j, none⟩ = some (.string (ss.getD j ByteArray.empty)) := fun j hj => by
        have := hcell j (by omega)
        rwa [Addr.add_lit] at this
      exact ⟨b, off, rfl, block_lt_of_cell (hc 0 (by omega)), hc⟩
    · have hk' : k < ss.length := by omega
      have hget : ss.getD k ByteArray.empty = ss[k] := by rw [List.getD_eq_getElem?_getD, List.getElem?_eq_getElem hk']; rfl
      show (ss.getD k ByteArray.empty).size ≤ _
      rw [hget]
      have hmem : (.lit (.string (ss[k]).data.toList) : DataW H) ∈ strs (ss.take len) := by
        refine List.mem_map.2 ⟨ss[k], ?_, rfl⟩
        have : (ss.take len)[k]'(by rw [List.length_take]; omega) = ss[k] := List.getElem_take
        rw [← this]
        exact List.getElem_mem _
      have hw : ((ss[k]).data.toList.length) ∈ DataW.weights Yba.prog 34 (.slice (strs (ss.take len)) (strs (ss.drop len)) : DataW H) := by
        rw [DataW.weights, Yba.underlying34]
        exact List.mem_cons_of_mem _ (List.mem_append_left _ (weightsAll_mem hmem _ (by rw [DataW.weights]; exact List.mem_singleton.2 rfl)))
      have hfin : (ss[k]).data.toList.length ≤ reachBytes := of_decide_eq_true (List.all_eq_true.1 hsz _ (DataW.weights_mem_each ht hd _ hw))
      simp only [reachBytes] at hfin
      rw [Lib.size_eq]
      omega

set_option maxRecDepth 100000 in
theorem lifted (os : Os) (started : os.Started) (H : Type) (enc : TypeId × Value → H) :
    ReturnsInHanded {} Yba.checked os 4 .any (Rows.lawS7803BWholeSpec.pre6 enc Yba.prog Yba.f4 Rows.lawS7803BWholeRow.domain false) (Rows.lawS7803BWholeSpec.post enc Yba.prog Yba.f4 false true false false) := by
  refine returnsInHanded_of_change_sized (C := Yba.checked) own started (by kernel_rfl) Yba.func4
    (ChangeSpec.witness6 (enc := enc) (C := Yba.checked) false ⟨#[], #[.slice none 0 0, .slice none 0 0, .slice none 0 0, .bool false, .string ⟨#[]⟩], []⟩ 8 (by kernel_rfl) (by kernel_rfl) (by kernel_rfl) (by kernel_rfl)) ?_
  intro W base args ds gs before hval0 hW _ hsz0 _
  have hval : ∀ (j : Nat) t v, Yba.f4.params[j]? = some t → args[j]? = some v → Value.okWide Yba.prog W .any base t v := hval0
  have hsz : (DataW.weightsEach Yba.prog (Yba.f4.params.toList ++ Rows.lawS7803BWholeSpec.plain.varTypes Yba.prog) (ds ++ gs)).all (· ≤ reachBytes) = true := hsz0
  have hW' := hW
  obtain ⟨p, q, hA0, hV, rfl, hfz, hnd⟩ := hW
  have hA : DataW.TrodAll enc Yba.prog W 0 (fun _ => true) true Yba.f4.params.toList args.toList ds p := hA0
  rw [Yba.params4] at hA hval hsz
  obtain ⟨v0, vs0, d0, ds0, p0, q0, hargs, rfl, rfl, h0, r0⟩ := trodAll_cons hA
  obtain ⟨v1, vs1, d1, ds1, p1, q1, rfl, rfl, rfl, h1, r1⟩ := trodAll_cons r0
  obtain ⟨v2, vs2, d2, ds2, p2, q2, rfl, rfl, rfl, h2, r2⟩ := trodAll_cons r1
  obtain ⟨v3, vs3, d3, ds3, p3, q3, rfl, rfl, rfl, h3, r3⟩ := trodAll_cons r2
  obtain ⟨v4, vs4, d4, ds4, p4, q4, rfl, rfl, rfl, h4, r4⟩ := trodAll_cons r3
  obtain ⟨rfl, rfl, rfl⟩ := trodAll_nil r4
  obtain rfl : args = #[v0, v1, v2, v3, v4] := by cases args; simp_all
  obtain ⟨rfl, rfl⟩ := trodVars_none hV
  obtain ⟨a0, n0, c0, rfl⟩ := okWide_slice Yba.underlying34 (hval 0 34 v0 rfl rfl)
  obtain ⟨a1, n1, c1, rfl⟩ := okWide_slice Yba.underlying34 (hval 1 34 v1 rfl rfl)
  obtain ⟨a2, n2, c2, rfl⟩ := okWide_slice Yba.underlying34 (hval 2 34 v2 rfl rfl)
  obtain ⟨nr, rfl, rfl, rfl⟩ := open_bool Yba.underlying4 (hval 3 4 v3 rfl rfl) h3
  obtain ⟨s, rfl, rfl, rfl, ws⟩ := Go.ChangeMaps.open_string Yba.underlying9 (hval 4 9 v4 rfl rfl) h4
  have lt0 : ∀ x ∈ p0, x.block < W.heap.size := by obtain ⟨m, hm⟩ := h0; exact DataW.trod_lt m _ _ _ hm
  have lt1 : ∀ x ∈ p1, x.block < W.heap.size := by obtain ⟨m, hm⟩ := h1; exact DataW.trod_lt m _ _ _ hm
  have lt2 : ∀ x ∈ p2, x.block < W.heap.size := by obtain ⟨m, hm⟩ := h2; exact DataW.trod_lt m _ _ _ hm
  obtain ⟨l0, x0, i0, e0⟩ := isS_of (j := 0) h0 hsz rfl rfl
  obtain ⟨l1, x1, i1, e1⟩ := isS_of (j := 1) h1 hsz rfl rfl
  obtain ⟨l2, x2, i2, e2⟩ := isS_of (j := 2) h2 hsz rfl rfl
  have hs : s.size ≤ 140737488351232 := by
    have := sized_string hsz (j := 4) (t := 9) (bytes := s.data.toList) rfl rfl
    simp only [reachBytes] at this
    rw [Lib.size_eq]
    exact Nat.le_trans this (by omega)
  clear hA0 hval0
  refine (law4 a0 a1 a2 n0 n1 n2 c0 c1 c2 x0 x1 x2 nr s W i0 i1 i2 l0 l1 l2 hs e0).mono fun e W' ⟨he, bel⟩ => ?_
  subst he
  exact ⟨_, rfl, _, _, _, [], _, [], hW', trodAll_mk1 (shut_bool Yba.underlying4 _),
    (trodAll_cons_mk (Below.trod laidOut (by kernel_rfl) (of_decide_eq_true (by kernel_rfl)) h0 bel lt0) (trodAll_cons_mk (Below.trod laidOut (by kernel_rfl) (of_decide_eq_true (by kernel_rfl)) h1 bel lt1)
      (trodAll_cons_mk (Below.trod laidOut (by kernel_rfl) (of_decide_eq_true (by kernel_rfl)) h2 bel lt2) (trodAll_cons_mk (shut_bool Yba.underlying4 nr) (trodAll_cons_mk (Go.ChangeMaps.shut_string Yba.underlying9 ws) trodAll_mk0))))), rfl, bel.frame _, fun h => by cases h⟩

/-- ████ THE STATEMENT ████ -/
theorem proved : Rows.LawS7803BWholeSaid :=
  OpenClaim.holds_of_wide 4 Yba.f4 rfl rfl rfl rfl rfl rfl rfl ⟨rfl, rfl, rfl, rfl, rfl⟩ rfl rfl rfl rfl rfl (by kernel_rfl) Yba.func4 (by kernel_rfl)
    (of_decide_eq_true (by kernel_rfl)) (by unfold Func.isWrapper; first | (rw [if_pos (by decide +kernel)]; kernel_rfl) | (rw [if_neg (by decide +kernel)]; exact ⟨rfl, rfl⟩))
    (fun os started H enc _ => lifted os started H enc)
end Go.Proofs.Ybulkfeoq
