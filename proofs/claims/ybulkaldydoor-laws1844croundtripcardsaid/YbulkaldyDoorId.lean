/-
  b1844aD: (idKey).id (7): the long text where the number is the longID mark, else the digits' characters.
-/
import Derived.Test.YbulkaldyDoorString
namespace Go.Proofs.YbulkaldyDoor
open Go.RowKit
set_option linter.unusedVariables false
set_option linter.unusedSimpArgs false

/-- What the tie gives of longID: its two cells. -/
def LongAt (w : World) : Prop := w.cell? ⟨0, 0, none⟩ = some (.int .u64 18446744073709551615) ∧ w.cell? ⟨0, 1, none⟩ = some (.int .u32 134217727)

set_option maxHeartbeats 400000 in
theorem id_long (s : ByteArray) (w : World) (hL : LongAt w) (hsz : 0 < w.heap.size) :
    Calls Ybad.prog 7 #[.agg #[.int .u64 18446744073709551615, .int .u32 134217727, .string s]] w fun e w' => e = .returned (.string s) ∧ Below w.heap.size w w' := by
  obtain ⟨g0, g1⟩ := hL
  go_enter Ybad.func7, Ybad.ntmps7
  go_wp2
  go_ret
  exact ⟨rfl, (Below.refl _ _).alloc (Nat.le_refl _) _⟩

set_option maxHeartbeats 400000 in
theorem id_short (ds : List Int) (lo hi : Int) (w : World) (hd : Digits ds) (l0 : 0 ≤ lo) (l1 : lo ≤ 18446744073709551615) (h0 : 0 ≤ hi) (h1 : hi < 134217727)
    (hN : hi * 18446744073709551616 + lo = pack ds) (hlen : ds.length ≤ 1024) (hL : LongAt w) (hsz : 0 < w.heap.size) :
    Calls Ybad.prog 7 #[.agg #[.int .u64 lo, .int .u32 hi, .string ⟨#[]⟩]] w fun e w' => e = .returned (.string ⟨(ds.map chr).toArray⟩) ∧ Below w.heap.size w w' := by
  obtain ⟨g0, g1⟩ := hL
  have HN : Hid (hi * 18446744073709551616 + lo = pack ds) := hN
  clear hN
  go_enter Ybad.func7, Ybad.ntmps7
  go_wp2_with fail
  refine (string_any ds lo hi _ hd l0 l1 h0 (by omega) HN.out hlen).mono ?_
  rintro e w1 ⟨rfl, hb⟩
  go_wp2
  go_ret
  exact ⟨rfl, ((Below.refl _ _).alloc (Nat.le_refl _) _).trans (hb.mono (by simp))⟩

theorem LongAt.alloc {w : World} (h : LongAt w) (hsz : 0 < w.heap.size) (o : Obj) : LongAt (w.alloc o) :=
  have hb := (Below.refl w.heap.size w).alloc (Nat.le_refl _) o
  ⟨(hb.cell (p := ⟨0, 0, none⟩) hsz).trans h.1, (hb.cell (p := ⟨0, 1, none⟩) hsz).trans h.2⟩

theorem LongAt.below {w w' : World} (h : LongAt w) (hsz : 0 < w.heap.size) (hb : Below w.heap.size w w') : LongAt w' :=
  ⟨(hb.cell (p := ⟨0, 0, none⟩) hsz).trans h.1, (hb.cell (p := ⟨0, 1, none⟩) hsz).trans h.2⟩

set_option maxHeartbeats 400000 in
/-- LawS1844CLong (5). -/
theorem long_walk (s : ByteArray) (w : World) (hL : LongAt w) (hsz : 0 < w.heap.size) :
    Calls Ybad.prog 5 #[.string s] w fun e w' => e = .returned (.bool true) ∧ Below w.heap.size w w' := by
  have HL : Hid (LongAt w) := hL
  clear hL
  go_enter Ybad.func5, Ybad.ntmps5
  go_wp2_with fail
  refine (id_long s _ (HL.out.alloc hsz _) (by simp)).mono ?_
  rintro e w1 ⟨rfl, hb⟩
  go_wp2
  go_ret
  exact ⟨rfl, ((Below.refl _ _).alloc (Nat.le_refl _) _).trans (hb.mono (by simp))⟩
end Go.Proofs.YbulkaldyDoor
