/-
  b1846a: slices.Equal at []byte (15), where both rows hold the same bytes.
-/
import Derived.Test.YbulkalfaPrep
namespace Go.Proofs.Ybulkalfa
open Go.RowKit
set_option linter.unusedVariables false
set_option linter.unusedSimpArgs false

/-- A row, as a reader needs it. -/
theorem row_read {w : World} {B : Nat} {v : Value} {l : List Int} (h : w.ownsRow B 5 1 v l.length (bcells l)) :
    ∃ (a : Option Addr) (cap g : Nat), v = .slice a l.length cap ∧ (0 < l.length → a = some ⟨g, 0, none⟩) ∧ ∀ k, k < l.length → w.cell? ⟨g, k, none⟩ = some (.int .u8 (l.getD k 0)) := by
  have h0 := h
  rcases h.2 with ⟨rfl, hn⟩ | ⟨g, cap, cur, rfl, hb, hg, h1, h2, h3, h4⟩
  · exact ⟨none, 0, 0, by rw [hn], fun h => by omega, fun k h => by omega⟩
  · refine ⟨_, cap, g, rfl, fun _ => rfl, fun k hk => ?_⟩
    rw [h0.cellAt k (by omega)]
    simp [bcells, hk]

set_option maxHeartbeats 1000000 in
set_option maxRecDepth 100000 in
theorem equal_same (v1 v2 : Value) (B : Nat) (l : List Int) (w : World) (h1 : w.ownsRow B 5 1 v1 l.length (bcells l)) (h2 : w.ownsRow B 5 1 v2 l.length (bcells l)) (hl : l.length ≤ 1000000) :
    Calls Yba.prog 15 #[v1, v2] w fun e w' => e = .returned (.bool true) ∧ ∃ q, w' = w.drewN q := by
  obtain ⟨a1, c1, g1, rfl, ha1, hc1⟩ := row_read h1
  obtain ⟨a2, c2, g2, rfl, ha2, hc2⟩ := row_read h2
  clear h1 h2
  have H1 : Hid ((0 < l.length → a1 = some ⟨g1, 0, none⟩) ∧ ∀ k, k < l.length → w.cell? ⟨g1, k, none⟩ = some (.int .u8 (l.getD k 0))) := ⟨ha1, hc1⟩
  have H2 : Hid ((0 < l.length → a2 = some ⟨g2, 0, none⟩) ∧ ∀ k, k < l.length → w.cell? ⟨g2, k, none⟩ = some (.int .u8 (l.getD k 0))) := ⟨ha2, hc2⟩
  clear ha1 hc1 ha2 hc2
  generalize l.length = n at *
  go_enter Yba.func15, Yba.ntmps15
  go_wp2
  go_loopg [13] n (fun gk s13 wr => ∃ k q : Nat, k + gk = n ∧ s13 = .int .i64 k ∧ wr = w.drewN q)
  case atStart => exact ⟨0, 0, by omega, rfl, rfl⟩
  case round =>
    obtain ⟨k, q, hk, rfl, rfl⟩ := hrel
    by_cases hlt : k < n
    · obtain rfl := H1.out.1 (by omega)
      obtain rfl := H2.out.1 (by omega)
      have e1 := H1.out.2 k hlt
      have e2 := H2.out.2 k hlt
      have hklt : (k : Int) < (n : Int) := by omega
      generalize l.getD k 0 = x at *
      go_wp2_with fail
      go_quiet (fail)
      go_wp2
      go_roundg (gk - 1)
      case measure => omega
      case rel => exact ⟨k + 1, q + nq, by omega, by go_num, rfl⟩
    · obtain rfl : n = k := by omega
      go_wp2
      go_ret
      exact ⟨rfl, q, rfl⟩
end Go.Proofs.Ybulkalfa
