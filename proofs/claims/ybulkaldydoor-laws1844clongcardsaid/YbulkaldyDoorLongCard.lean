/-
  b1844aD: the tied card of LawS1844CLong.
-/
import Derived.Test.YbulkaldyDoorLong
import Derived.Test.YbulkaldyDoorTie
import Derived.Test.YbulkaldyDoorCards
import Derived.SevenTiedAt
namespace Go.Proofs.YbulkaldyDoor
open Go

theorem longCard_proved : Rows.LawS1844CLongCardSaid :=
  Claim7.holds_tied_plain_at .later [] [.data] true Rows.lawS1844CLongCard.stood.harness false
    long.row_holds (fun _ h => by cases h) (by kernel_rfl) (fun _ h => by cases h) lawS1844CLong_row_tie rfl ⟨rfl, rfl⟩ (by kernel_rfl) rfl
    (fun f fn hf hfn => by
      obtain rfl : f = 5 := Option.some.inj ((show Ybad.prog.funcNamed Ybad.f5.name = some 5 by kernel_rfl).symm.trans hf) |>.symm
      obtain rfl : fn = Ybad.f5 := (Option.some.inj (Ybad.func5.symm.trans hfn)).symm
      exact ⟨by kernel_rfl, fun j t ht => by
        rw [Ybad.params5] at ht
        have hm : t ∈ [9] := by simpa using Array.mem_of_getElem? ht
        have hall : ([9].all fun u => !Ybad.prog.wantsStandIn u) = true := by kernel_rfl
        exact (show Ybad.prog.wantsStandIn t = false by simpa using List.all_eq_true.1 hall t hm)⟩)
    (by kernel_rfl)
end Go.Proofs.YbulkaldyDoor
