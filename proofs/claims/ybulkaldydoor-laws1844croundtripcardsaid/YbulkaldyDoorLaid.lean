/-
  b1844aD: what the condition 'laid' gives the walks of longID; the witness's world.
-/
import Derived.Test.YbulkaldyDoorRows
import Derived.Test.YbulkaldyDoorId
import Derived.ProofKit
import Derived.LaidMore
import Derived.OpenShut
import Derived.OpenVars
import Derived.ShutString
import Derived.Stop.Joined
namespace Go.Proofs.YbulkaldyDoor
open Go.ChangeShapes Go.WideShapes Go.ChangeAt Go.RowKit
set_option linter.unusedVariables false

theorem own : ownKnob Ybad.prog.godebug = none := by kernel_rfl
theorem laidOut : laidOutB Ybad.prog = true := by kernel_rfl

/-- A two-field struct's cells, read as the mark longID. -/
theorem long_of_trod {W : World} {cs : List Value} {fuel : Nat} {p : List MemPlace}
    (h : DataW.trod (fun _ => ()) Ybad.prog W 0 (fun _ => true) false fuel 26 cs = some (Rows.laid_example_com_corelith_corelith_internal_controller_longID, p)) :
    cs = [.int .u64 18446744073709551615, .int .u32 134217727] := by
  obtain ⟨y0, y1, m, hx, hl, h0, h1⟩ := trod_struct2 Ybad.underlying26 h
  have c26 : Ybad.prog.cellsOf 26 = 2 := by kernel_rfl
  have c23 : Ybad.prog.cellsOf 23 = 1 := by kernel_rfl
  have c24 : Ybad.prog.cellsOf 24 = 1 := by kernel_rfl
  rw [c26] at hl
  simp only [c23, c24] at h0 h1
  match cs, hl with
  | [a, b], _ =>
    obtain ⟨k0, e0, r0, _⟩ := DataW.trod_int Ybad.underlying23 h0
    obtain ⟨k1, e1, r1, _⟩ := DataW.trod_int Ybad.underlying24 h1
    simp at e0 e1
    subst e0 e1
    rw [r0, r1] at hx
    simp [Rows.laid_example_com_corelith_corelith_internal_controller_longID] at hx
    rw [← hx.1.1, ← hx.1.2]

theorem long_at {W : World} {n : String} (hn : Ybad.prog.globalNamed n = some 0) {cs : Array Value} (hv : W.var? Ybad.prog n = some cs)
    (hc : cs.toList = [.int .u64 18446744073709551615, .int .u32 134217727]) : LongAt W ∧ 0 < W.heap.size := by
  have e : cs = #[.int .u64 18446744073709551615, .int .u32 134217727] := by
    obtain ⟨l⟩ := cs
    simp at hc
    rw [hc]
  subst e
  refine ⟨⟨World.var?_cell hn hv 0, World.var?_cell hn hv 1⟩, ?_⟩
  have h0 := World.var?_cell hn hv 0
  unfold World.cell? at h0
  rcases Nat.eq_zero_or_pos W.heap.size with hz | hz
  · rw [Array.getElem?_eq_none (by simp [hz])] at h0
    simp at h0
  · exact hz

/-- The row lists longID alone. -/
theorem of_laid {W : World} (h : laidMetH Ybad.prog Rows.lawS1844CLongRow.laid W) : LongAt W ∧ 0 < W.heap.size := by
  rw [MakeChecks.laidMetH_plain _ _ _ (by kernel_rfl)] at h
  obtain ⟨ps, ⟨g0, t0, cs0, f0, p0, q0, hg0, ht0, hv0, hd0, _⟩, _⟩ := h
  obtain rfl := Option.some.inj ((show Ybad.prog.globalNamed _ = some 0 by kernel_rfl).symm.trans hg0)
  obtain rfl := Option.some.inj ((show (Ybad.prog.globals[0]?).map (·.type) = some 26 by kernel_rfl).symm.trans ht0)
  exact long_at hg0 hv0 (long_of_trod hd0)

/-- The heap that the door's own run leaves meets the condition. -/
theorem door_met (os : Os) (args : Array Value) : laidMetH Ybad.prog Rows.lawS1844CLongRow.laid ((World.doorLaid Ybad.prog 1695 os).forCall (fun _ _ => 0) ⟨#[], args, []⟩).memory :=
  laidMetH_of_parts3 (fuel := 8) (laidMet_of_run' 8 (by kernel_rfl) (by kernel_rfl)) (by kernel_rfl) (by kernel_rfl)
end Go.Proofs.YbulkaldyDoor
