/-
  b1844aD: the row of LawS1844CShortDigits.
-/
import Derived.Test.YbulkaldyDoorLaid
import Derived.Test.YbulkaldyDoorShortWalk
namespace Go.Proofs.YbulkaldyDoor.short
open Go.ChangeShapes Go.WideShapes Go.ChangeAt Go.RowKit
set_option linter.unusedVariables false

set_option maxRecDepth 100000 in
theorem lifted (os : Os) (started : os.Started) (H : Type) (enc : TypeId × Value → H) :
    ReturnsInHanded {} Ybad.checked os 4 .any (fun w args => (Rows.lawS1844CShortDigitsSpec.pre enc Ybad.prog Ybad.f4 [] false w args ∧ laidMetH Ybad.prog Rows.lawS1844CShortDigitsRow.laid w) ∧ sizedMet enc Ybad.prog Ybad.f4 (OpenSpec.ofChange Rows.lawS1844CShortDigitsSpec) false w args)
      (Rows.lawS1844CShortDigitsSpec.post enc Ybad.prog Ybad.f4 false true false false) := by
  refine returnsInHanded_of_change_and (C := Ybad.checked) (X := fun w _ => laidMetH Ybad.prog Rows.lawS1844CShortDigitsRow.laid w) (fun _ _ _ hh h => h.of_heap hh) own started (by kernel_rfl) Ybad.func4
    (ChangeSpec.witness_shaped (enc := enc) (C := Ybad.checked) (os := os) (X := fun w _ => laidMetH Ybad.prog Rows.lawS1844CShortDigitsRow.laid w) false (World.doorLaid Ybad.prog 1695 os) #[.slice none 0 0] 8 rfl (World.shaped_of_RefB (by kernel_rfl) (by kernel_rfl)) (by kernel_rfl) (by kernel_rfl) (by kernel_rfl) (door_met os _)) ?_
  intro W base args ds gs before hval0 hW _ _ hL _
  have hval : ∀ (j : Nat) t v, Ybad.f4.params[j]? = some t → args[j]? = some v → Value.okWide Ybad.prog W .any base t v := hval0
  have hW' := hW
  obtain ⟨p, q, hA0, hV, rfl, hfz, hnd⟩ := hW
  have hA : DataW.TrodAll enc Ybad.prog W 0 (fun _ => true) true Ybad.f4.params.toList args.toList ds p := hA0
  rw [Ybad.params4] at hA hval
  obtain ⟨v0, d0, rfl, rfl, h0⟩ := trodAll_one hA
  obtain ⟨g, t, cs, fuel, d, p', rfl, hg, ht, hvar, hd, rfl⟩ := trodVars_one hV
  obtain ⟨a0, len0, cap0, rfl⟩ := okWide_slice Ybad.underlying22 (hval 0 22 v0 rfl rfl)
  have k0 := h0
  have lt0 : ∀ x ∈ p, x.block < W.heap.size := by obtain ⟨m, hm⟩ := k0; exact DataW.trod_lt m _ _ _ hm
  obtain ⟨hLong, hsz⟩ := of_laid hL
  obtain ⟨z0, b, off, ha, hc, hz, hr, hlen, hbs⟩ : ∃ (zs : List Int) (b off : Nat), (0 < len0 → a0 = some ⟨b, off, none⟩) ∧ (∀ k, k < len0 → W.cell? ⟨b, off + k, none⟩ = some (.int .u8 (zs.getD k 0))) ∧ len0 ≤ zs.length ∧
      (∀ k, 0 ≤ zs.getD k 0 ∧ zs.getD k 0 ≤ 255) ∧ len0 ≤ 9223372036854775807 ∧ (0 < len0 → b < W.heap.size) := by
    obtain ⟨m, hf⟩ := h0
    rcases open_ints Ybad.underlying22 Ybad.underlying5 (by kernel_rfl) hf with ⟨hcs, _⟩ | ⟨x, l, c, zs, hcs, _, hl, hm, hz, _, hcell, hwz⟩
    · simp [Value.cells] at hcs
      obtain ⟨rfl, rfl, rfl⟩ := hcs
      exact ⟨[], 0, 0, by omega, by omega, by simp, by simp, by omega, by omega⟩
    · simp [Value.cells] at hcs
      obtain ⟨rfl, rfl, rfl⟩ := hcs
      have hzl : zs.length = cap0 := by simpa using hz
      have hrr : ∀ k, 0 ≤ zs.getD k 0 ∧ zs.getD k 0 ≤ 255 := fun k => by
        rw [List.getD_eq_getElem?_getD]; exact range_u8 hwz k
      by_cases h0l : 0 < len0
      · obtain ⟨b, off, rfl, hcc⟩ := ints_at hcell (by omega)
        refine ⟨zs, b, off, fun _ => rfl, fun k hk => ?_, by omega, hrr, by unfold maxLen at hm; omega, fun _ => ?_⟩
        · exact hcc k (by omega)
        · have := hcc 0 (by omega)
          unfold World.cell? at this
          rcases Nat.lt_or_ge b W.heap.size with hb | hb
          · exact hb
          · rw [Array.getElem?_eq_none (by simpa using hb)] at this
            simp at this
      · exact ⟨zs, 0, 0, by omega, by omega, by omega, hrr, by omega, by omega⟩
  clear hA0 hval0
  refine (short_walk a0 len0 cap0 b off z0 W ha hc hz hr hlen hLong hsz hbs).mono fun e W' ⟨he, bel⟩ => ?_
  subst he
  exact ⟨_, rfl, _, _, _, [], _, _, hW', trodAll_mk1 (shut_bool Ybad.underlying4 _), trodAll_mk1 (Below.trod laidOut (by kernel_rfl) (of_decide_eq_true (by kernel_rfl)) k0 bel lt0), Below.trodVars laidOut bel (by kernel_rfl) hV, bel.frame _, fun h => by cases h⟩

theorem row_holds : Rows.LawS1844CShortDigitsSaid :=
  OpenClaim.holds_of_wide 4 Ybad.f4 rfl rfl rfl rfl rfl rfl rfl ⟨rfl, rfl, rfl, rfl, rfl⟩ rfl rfl rfl rfl rfl (by kernel_rfl) Ybad.func4 (by kernel_rfl)
    (of_decide_eq_true (by kernel_rfl)) (by unfold Func.isWrapper; first | (rw [if_pos (by decide +kernel)]; kernel_rfl) | (rw [if_neg (by decide +kernel)]; exact ⟨rfl, rfl⟩))
    (fun os started H enc _ => lifted os started H enc)
end Go.Proofs.YbulkaldyDoor.short
