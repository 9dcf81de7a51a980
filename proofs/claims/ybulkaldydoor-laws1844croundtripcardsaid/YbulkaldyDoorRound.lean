/-
  b1844aD: the row of LawS1844CRoundTrip.
-/
import Derived.Test.YbulkaldyDoorLaid
import Derived.Test.YbulkaldyDoorRoundWalk
import Derived.Lib.LaidTab
namespace Go.Proofs.YbulkaldyDoor.round
open Go.ChangeShapes Go.WideShapes Go.ChangeAt Go.RowKit
set_option linter.unusedVariables false

theorem tab_datum : (Rows.laid_example_com_corelith_corelith_internal_controller_idDigit : DataW Unit) = Lib.tabData .u64 digitTab := by kernel_rfl
theorem tab_length : digitTab.length = 256 := by kernel_rfl

/-- The row lists longID and idDigit. -/
theorem of_laid2 {W : World} (h : laidMetH Ybad.prog Rows.lawS1844CRoundTripRow.laid W) : LongAt W ∧ TabAt W ∧ 1 < W.heap.size := by
  rw [MakeChecks.laidMetH_plain _ _ _ (by kernel_rfl)] at h
  obtain ⟨ps, ⟨g0, t0, cs0, f0, p0, q0, hg0, ht0, hv0, hd0, ⟨g1, t1, cs1, f1, p1, q1, hg1, ht1, hv1, hd1, _⟩, _⟩, _⟩ := h
  obtain rfl := Option.some.inj ((show Ybad.prog.globalNamed _ = some 0 by kernel_rfl).symm.trans hg0)
  obtain rfl := Option.some.inj ((show (Ybad.prog.globals[0]?).map (·.type) = some 26 by kernel_rfl).symm.trans ht0)
  obtain rfl := Option.some.inj ((show Ybad.prog.globalNamed _ = some 1 by kernel_rfl).symm.trans hg1)
  obtain rfl := Option.some.inj ((show (Ybad.prog.globals[1]?).map (·.type) = some 37 by kernel_rfl).symm.trans ht1)
  have hd1' : DataW.trod (fun _ => ()) Ybad.prog W 0 (fun _ => true) false f1 37 cs1.toList = some (Lib.tabData .u64 digitTab, p1) := by rw [← tab_datum]; exact hd1
  have hcs := Lib.cells_of_tab Ybad.underlying37 Ybad.underlying23 (by kernel_rfl) (by kernel_rfl) hd1'
  have hcell : ∀ i, i < 256 → W.cell? ⟨1, i, none⟩ = some (.int .u64 (digitTab.getD i 0)) := by
    intro i hi
    rw [World.var?_cell hg1 hv1 i]
    have : cs1[i]? = cs1.toList[i]? := by simp
    rw [this, hcs, List.getElem?_map]
    have hl : i < digitTab.length := by rw [tab_length]; exact hi
    simp [List.getD, hl]
  refine ⟨(long_at hg0 hv0 (long_of_trod hd0)).1, fun d d0 d1 => ?_, ?_⟩
  · rw [hcell _ (by have := (chr d).toNat_lt; omega), tab_chr d d0 d1]
  · have h0 := hcell 0 (by omega)
    unfold World.cell? at h0
    rcases Nat.lt_or_ge 1 W.heap.size with hz | hz
    · exact hz
    · rw [Array.getElem?_eq_none (by simpa using hz)] at h0
      simp at h0

/-- The heap that the door's own run leaves meets the condition. -/
theorem door_met2 (os : Os) (args : Array Value) : laidMetH Ybad.prog Rows.lawS1844CRoundTripRow.laid ((World.doorLaid Ybad.prog 1695 os).forCall (fun _ _ => 0) ⟨#[], args, []⟩).memory :=
  laidMetH_of_parts3 (fuel := 8) (laidMet_of_run' 8 (by kernel_rfl) (by kernel_rfl)) (by kernel_rfl) (by kernel_rfl)

set_option maxRecDepth 100000 in
theorem lifted (os : Os) (started : os.Started) (H : Type) (enc : TypeId × Value → H) :
    ReturnsInHanded {} Ybad.checked os 3 .any (fun w args => (Rows.lawS1844CRoundTripSpec.pre enc Ybad.prog Ybad.f3 [] false w args ∧ laidMetH Ybad.prog Rows.lawS1844CRoundTripRow.laid w) ∧ sizedMet enc Ybad.prog Ybad.f3 (OpenSpec.ofChange Rows.lawS1844CRoundTripSpec) false w args)
      (Rows.lawS1844CRoundTripSpec.post enc Ybad.prog Ybad.f3 false true false false) := by
  refine returnsInHanded_of_change_and (C := Ybad.checked) (X := fun w _ => laidMetH Ybad.prog Rows.lawS1844CRoundTripRow.laid w) (fun _ _ _ hh h => h.of_heap hh) own started (by kernel_rfl) Ybad.func3
    (ChangeSpec.witness_shaped (enc := enc) (C := Ybad.checked) (os := os) (X := fun w _ => laidMetH Ybad.prog Rows.lawS1844CRoundTripRow.laid w) false (World.doorLaid Ybad.prog 1695 os) #[.slice none 0 0] 8 rfl (World.shaped_of_RefB (by kernel_rfl) (by kernel_rfl)) (by kernel_rfl) (by kernel_rfl) (by kernel_rfl) (door_met2 os _)) ?_
  intro W base args ds gs before hval0 hW _ _ hL _
  have hval : ∀ (j : Nat) t v, Ybad.f3.params[j]? = some t → args[j]? = some v → Value.okWide Ybad.prog W .any base t v := hval0
  have hW' := hW
  obtain ⟨p, q, hA0, hV, rfl, hfz, hnd⟩ := hW
  have hA : DataW.TrodAll enc Ybad.prog W 0 (fun _ => true) true Ybad.f3.params.toList args.toList ds p := hA0
  rw [Ybad.params3] at hA hval
  obtain ⟨v0, d0, rfl, rfl, h0⟩ := trodAll_one hA
  obtain ⟨x1, x2, rfl⟩ : ∃ x1 x2, gs = [x1, x2] := by
    match gs, hV with
    | [a, b], _ => exact ⟨a, b, rfl⟩
    | [], h => exact h.elim
    | [_], ⟨_, _, _, _, _, _, _, _, _, _, h, _⟩ => exact h.elim
    | _ :: _ :: _ :: _, ⟨_, _, _, _, _, _, _, _, _, _, ⟨_, _, _, _, _, _, _, _, _, _, h, _⟩, _⟩ => exact h.elim
  obtain ⟨a0, len0, cap0, rfl⟩ := okWide_slice Ybad.underlying22 (hval 0 22 v0 rfl rfl)
  have k0 := h0
  have lt0 : ∀ x ∈ p, x.block < W.heap.size := by obtain ⟨m, hm⟩ := k0; exact DataW.trod_lt m _ _ _ hm
  obtain ⟨hLong, hTab, hsz⟩ := of_laid2 hL
  obtain ⟨z0, b, off, ha, hc, hz, hr, hlen, hbs⟩ : ∃ (zs : List Int) (b off : Nat), (0 < len0 → a0 = some ⟨b, off, none⟩) ∧ (∀ k, k < len0 → W.cell? ⟨b, off + k, none⟩ = some (.int .u8 (zs.getD k 0))) ∧ len0 ≤ zs.length ∧
      (∀ k, 0 ≤ zs.getD k 0 ∧ zs.getD k 0 ≤ 255) ∧ len0 ≤ 9223372036854775807 ∧ (0 < len0 → b < W.heap.size) := by
    obtain ⟨m, hf⟩ := h0
    rcases open_ints Ybad.underlying22 Ybad.underlying5 (by kernel_rfl) hf with ⟨hcs, _⟩ | ⟨x, l, c, zs, hcs, _, hl, hm, hz, _, hcell, hwz⟩
    · simp [Value.cells] at hcs
      obtain ⟨rfl, rfl, rfl⟩ := hcs
      exact ⟨[], 0, 0, by omega, by omega, by simp, by simp, by omega, by omega⟩
    · simp [Value.cells] at hcs
      obtain ⟨rfl, rfl, rfl⟩ := hcs
      have hzl : zs.length = cap0 := by simpa using hz
      have hrr : ∀ k, 0 ≤ zs.getD k 0 ∧ zs.getD k 0 ≤ 255 := fun k => by
        rw [List.getD_eq_getElem?_getD]; exact range_u8 hwz k
      by_cases h0l : 0 < len0
      · obtain ⟨b, off, rfl, hcc⟩ := ints_at hcell (by omega)
        refine ⟨zs, b, off, fun _ => rfl, fun k hk => ?_, by omega, hrr, by unfold maxLen at hm; omega, fun _ => ?_⟩
        · exact hcc k (by omega)
        · have := hcc 0 (by omega)
          unfold World.cell? at this
          rcases Nat.lt_or_ge b W.heap.size with hb | hb
          · exact hb
          · rw [Array.getElem?_eq_none (by simpa using hb)] at this
            simp at this
      · exact ⟨zs, 0, 0, by omega, by omega, by omega, hrr, by omega, by omega⟩
  clear hA0 hval0
  refine (round_walk a0 len0 cap0 b off z0 W ha hc hz hr hlen hLong hTab hsz hbs).mono fun e W' ⟨he, bel⟩ => ?_
  subst he
  exact ⟨_, rfl, _, _, _, [], _, _, hW', trodAll_mk1 (shut_bool Ybad.underlying4 _), trodAll_mk1 (Below.trod laidOut (by kernel_rfl) (of_decide_eq_true (by kernel_rfl)) k0 bel lt0), Below.trodVars laidOut bel (by kernel_rfl) hV, bel.frame _, fun h => by cases h⟩

theorem row_holds : Rows.LawS1844CRoundTripSaid :=
  OpenClaim.holds_of_wide 3 Ybad.f3 rfl rfl rfl rfl rfl rfl rfl ⟨rfl, rfl, rfl, rfl, rfl⟩ rfl rfl rfl rfl rfl (by kernel_rfl) Ybad.func3 (by kernel_rfl)
    (of_decide_eq_true (by kernel_rfl)) (by unfold Func.isWrapper; first | (rw [if_pos (by decide +kernel)]; kernel_rfl) | (rw [if_neg (by decide +kernel)]; exact ⟨rfl, rfl⟩))
    (fun os started H enc _ => lifted os started H enc)
end Go.Proofs.YbulkaldyDoor.round
