/-
  'Rows.LawS1846BStepsSaid': the frame after the kit's shells for slices; the walk: YbulkalfaBStepsWalk.
-/
import Derived.Test.YbulkalfaRows
import Derived.Test.YbulkalfaBStepsWalk
import Derived.Test.YbulkalfaBModel
namespace Go.Proofs.Ybulkalfa.lawS1846BSteps
open Go.ChangeShapes Go.WideShapes Go.ChangeAt Go.RowKit
set_option linter.unusedVariables false

/-- What is read of a slice of uint16. -/
theorem words_of {H : Type} {enc : TypeId × Value → H} {W : World} {a0 : Option Addr} {len cap : Nat} {fuel : Nat} {x : DataW H × List MemPlace} (hf : DataW.trod enc Yba.prog W 0 (fun _ => true) true fuel 44 [.slice a0 len cap] = some x) :
    ∃ (zs : List Int) (b off : Nat), (len ≤ 1024 → Raw W a0 len b off zs) ∧ len ≤ 9223372036854775807 := by
  rcases open_ints Yba.underlying44 Yba.underlying30 (by kernel_rfl) hf with ⟨hcs, _⟩ | ⟨x, l, c, zs, hcs, _, hl, hm, hzl, _, hcell, hwf⟩
  · simp at hcs
    obtain ⟨rfl, rfl, rfl⟩ := hcs
    exact ⟨[], 0, 0, fun _ => raw_nil _, by omega⟩
  · simp at hcs
    obtain ⟨rfl, rfl, rfl⟩ := hcs
    have hzl' : zs.length = cap := hzl
    have hr : ∀ k, 0 ≤ zs.getD k 0 ∧ zs.getD k 0 ≤ 65535 := fun k => by rw [List.getD_eq_getElem?_getD]; exact range_u16 hwf k
    by_cases h0l : 0 < len
    · obtain ⟨b, off, spot⟩ := x
      have hc0 := hcell 0 (by omega)
      have hspot : spot = none := by simpa [Addr.add] using World.cell?_spot hc0
      subst hspot
      have hadd : ∀ i, (⟨b, off, none⟩ : Addr).add i = ⟨b, off + i, none⟩ := fun i => by unfold Addr.add; split <;> simp_all
      refine ⟨zs, b, off, fun h => ⟨fun _ => rfl, fun k hk => ?_, hr, h, fun _ => ?_⟩, by unfold maxLen at hm; omega⟩
      · have := hcell k (by omega)
        rw [hadd] at this
        exact this
      · rw [hadd] at hc0
        exact block_lt_of_cell hc0
    · exact ⟨zs, 0, 0, fun h => ⟨fun h => by omega, fun k hk => by omega, hr, h, fun h => by omega⟩, by omega⟩

set_option maxRecDepth 100000 in
theorem lifted (os : Os) (started : os.Started) (H : Type) (enc : TypeId × Value → H) :
    ReturnsInHanded {} Yba.checked os 4 .any (Rows.lawS1846BStepsSpec.pre6 enc Yba.prog Yba.f4 Rows.lawS1846BStepsRow.domain false) (Rows.lawS1846BStepsSpec.post enc Yba.prog Yba.f4 false true false false) := by
  refine returnsInHanded_of_change (C := Yba.checked) lawS1846BModel.own started (by kernel_rfl) Yba.func4
    (ChangeSpec.witness6 (enc := enc) (C := Yba.checked) false ⟨#[], #[.slice none 0 0, .slice none 0 0, .int .u64 0], []⟩ 8 (by kernel_rfl) (by kernel_rfl) (by kernel_rfl) (by kernel_rfl)) ?_
  intro W base args ds gs before hval0 hW hcnd _
  have hval : ∀ (j : Nat) t v, Yba.f4.params[j]? = some t → args[j]? = some v → Value.okWide Yba.prog W .any base t v := hval0
  have hW' := hW
  obtain ⟨p, q, hA0, hV, rfl, hfz, hnd⟩ := hW
  have hA : DataW.TrodAll enc Yba.prog W 0 (fun _ => true) true Yba.f4.params.toList args.toList ds p := hA0
  rw [Yba.params4] at hA hval
  obtain ⟨v0, vs0, d0, ds0, p0, q0, hargs, rfl, rfl, h0, r0⟩ := trodAll_cons hA
  obtain ⟨v1, vs1, d1, ds1, p1, q1, rfl, rfl, rfl, h1, r1⟩ := trodAll_cons r0
  obtain ⟨v2, vs2, d2, ds2, p2, q2, rfl, rfl, rfl, h2, r2⟩ := trodAll_cons r1
  obtain ⟨rfl, rfl, rfl⟩ := trodAll_nil r2
  obtain rfl : args = #[v0, v1, v2] := by cases args; simp_all
  obtain ⟨rfl, rfl⟩ := trodVars_none hV
  obtain ⟨a0, len0, cap0, rfl⟩ := okWide_slice Yba.underlying22 (hval 0 22 v0 rfl rfl)
  obtain ⟨a1, len1, cap1, rfl⟩ := okWide_slice Yba.underlying44 (hval 1 44 v1 rfl rfl)
  have k0 := h0
  have k1 := h1
  have lt0 : ∀ x ∈ p0, x.block < W.heap.size := by obtain ⟨m, hm⟩ := k0; exact DataW.trod_lt m _ _ _ hm
  have lt1 : ∀ x ∈ p1, x.block < W.heap.size := by obtain ⟨m, hm⟩ := k1; exact DataW.trod_lt m _ _ _ hm
  obtain ⟨bs, b, off, ha, hc, hfl, hblk, hlen⟩ : ∃ (bs : List Bool) (b off : Nat), (0 < len0 → a0 = some ⟨b, off, none⟩) ∧ (∀ k, k < len0 → W.cell? ⟨b, off + k, none⟩ = some (.bool (bs.getD k false))) ∧ bs.length = len0 ∧ (0 < len0 → b < W.heap.size) ∧ len0 ≤ 9223372036854775807 := by
    obtain ⟨fuel, hf⟩ := h0
    exact lawS1846BModel.bools_of hf
  obtain ⟨zs, b1, off1, hraw, hlen1⟩ : ∃ (zs : List Int) (b1 off1 : Nat), (len1 ≤ 1024 → Raw W a1 len1 b1 off1 zs) ∧ len1 ≤ 9223372036854775807 := by
    obtain ⟨fuel, hf⟩ := h1
    exact words_of hf
  obtain ⟨a2, rfl, rfl, rfl, w2⟩ := open_int Yba.underlying23 (hval 2 23 v2 rfl rfl) h2
  obtain ⟨z0, z1⟩ := bounds_u64 w2
  obtain ⟨z, rfl⟩ := Int.eq_ofNat_of_zero_le z0
  clear hA0 hval0
  refine (bsteps_walk a0 len0 cap0 b off bs a1 len1 cap1 b1 off1 zs z W ha hc hfl hblk hlen hraw hlen1 (by omega)).mono fun e W' ⟨he, bel⟩ => ?_
  subst he
  exact ⟨_, rfl, _, _, _, [], _, [], hW', trodAll_mk1 (shut_bool Yba.underlying4 _), (trodAll_cons_mk (Below.trod lawS1846BModel.laidOut (by kernel_rfl) (of_decide_eq_true (by kernel_rfl)) k0 bel lt0) (trodAll_cons_mk (Below.trod lawS1846BModel.laidOut (by kernel_rfl) (of_decide_eq_true (by kernel_rfl)) k1 bel lt1) (trodAll_cons_mk (shut_int Yba.underlying23 w2) trodAll_mk0))), rfl, bel.frame _, fun h => by cases h⟩

theorem over : Rows.lawS1846BStepsRow.holds Yba.pinned (OpenSpec.ofChange Rows.lawS1846BStepsSpec) :=
  OpenClaim.holds_of_wide 4 Yba.f4 rfl rfl rfl rfl rfl rfl rfl ⟨rfl, rfl, rfl, rfl, rfl⟩ rfl rfl rfl rfl rfl (by kernel_rfl) Yba.func4 (by kernel_rfl)
    (of_decide_eq_true (by kernel_rfl)) (by unfold Func.isWrapper; first | (rw [if_pos (by decide +kernel)]; kernel_rfl) | (rw [if_neg (by decide +kernel)]; exact ⟨rfl, rfl⟩))
    (fun os started H enc _ => lifted os started H enc)

theorem proved : Rows.LawS1846BStepsSaid := over
end Go.Proofs.Ybulkalfa.lawS1846BSteps
