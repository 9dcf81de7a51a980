/-
  b1844aD: math/bits.Div64 (13) at the divisor 66.
-/
import Derived.Test.YbulkaldyDoorShelf
import Derived.Test.YbulkaldyDoorDivMath
import Derived.WalkKit
import Derived.BigQuiet
import Derived.Deep.QuietTactic
namespace Go.Proofs.YbulkaldyDoor
set_option linter.unusedVariables false
set_option linter.unusedSimpArgs false
open Go.RowKit

set_option maxHeartbeats 400000 in
theorem div_low (lo : Int) (w : World) (h0 : 0 ≤ lo) (h1 : lo ≤ 18446744073709551615) :
    Calls Ybad.prog 13 #[.int .u64 0, .int .u64 lo, .int .u64 66] w fun e w' => e = .returned (.tuple #[.int .u64 (lo / 66), .int .u64 (lo % 66)]) ∧ ∃ n, w' = w.drewN n := by
  have e0 : IntKind.u64.wrap (lo.tdiv 66) = lo / 66 := IntWalk.u64_quo lo 66 ⟨h0, h1, by omega⟩
  go_enter Ybad.func13, Ybad.ntmps13
  go_wp2_with fail
  go_quiet (fail)
  go_wp2
  go_ret2
  exact ⟨rfl, _, rfl⟩

theorem ret2_int {k k' : IntKind} {a b a' b' : Int} (h : a = b) (h' : a' = b') : Ending.returned (.tuple #[.int k a, .int k' a']) = .returned (.tuple #[.int k b, .int k' b']) := by rw [h, h']

theorem bl66 : Lib.bitLen (66 : Int).toNat = 7 := by decide
set_option maxHeartbeats 400000 in
theorem div_high (hi lo : Int) (w : World) (p0 : 0 < hi) (p1 : hi < 66) (h0 : 0 ≤ lo) (h1 : lo ≤ 18446744073709551615) :
    Calls Ybad.prog 13 #[.int .u64 hi, .int .u64 lo, .int .u64 66] w fun e w' => e = .returned (.tuple #[.int .u64 ((hi * 18446744073709551616 + lo) / 66), .int .u64 ((hi * 18446744073709551616 + lo) % 66)]) ∧ w' = w := by
  have eOr := div_or hi lo (by omega) p1 h0 h1
  have eA0 : bits .and .u64 9511602413006487552 4294967295 = 0 := div_and _ (by omega) (by omega) (by omega)
  have eW : IntKind.u64.wrap (lo * 144115188075855872) = lo % 128 * 144115188075855872 := by rw [IntKind.wrap_u64]; omega
  have eA1 : bits .and .u64 (lo % 128 * 144115188075855872) 4294967295 = 0 := div_and _ (by omega) (by omega) (by omega)
  have eV : lo % 128 * 144115188075855872 / 4294967296 = lo % 128 * 33554432 := by omega
  obtain ⟨V, hV⟩ : ∃ V : Int, V = lo % 128 * 144115188075855872 := ⟨_, rfl⟩
  obtain ⟨V1, hV1⟩ : ∃ V1 : Int, V1 = lo % 128 * 33554432 := ⟨_, rfl⟩
  obtain ⟨U, hU⟩ : ∃ U : Int, U = hi * 144115188075855872 + lo / 128 := ⟨_, rfl⟩
  have U0 : 0 ≤ U := by omega
  have U1 : U ≤ 9511602413006487551 := by omega
  have V10 : 0 ≤ V1 := by omega
  have V11 : V1 ≤ 4294967295 := by omega
  rw [← hU] at eOr
  rw [← hV] at eW eA1 eV
  rw [← hV1] at eV
  have HS : Hid (U * 4294967296 + V1 = (hi * 18446744073709551616 + lo) * 33554432) := div_shift hi lo U V1 hU hV1
  clear hU hV hV1
  obtain ⟨Q, hQ⟩ : ∃ Q : Int, Q = U / 2214592512 := ⟨_, rfl⟩
  have eQ : IntKind.u64.wrap (U.tdiv 2214592512) = Q := by rw [hQ]; exact IntWalk.u64_quo U _ ⟨U0, by omega, by omega⟩
  have eQ' : U / 2214592512 = Q := hQ.symm
  have Q0 : 0 ≤ Q := by omega
  have Q1 : Q ≤ 4294967295 := by omega
  obtain ⟨T, hT⟩ : ∃ T : Int, T = (U - Q * 2214592512) * 4294967296 + V1 := ⟨_, rfl⟩
  have HT : Hid (T = (U - Q * 2214592512) * 4294967296 + V1) := hT
  have HQ : Hid (Q = U / 2214592512) := hQ
  have T0 : 0 ≤ T := by omega
  have T1 : T ≤ 9511602413006487551 := by omega
  have R0 : 0 ≤ U - Q * 2214592512 := by omega
  have R1 : U - Q * 2214592512 ≤ 2214592511 := by omega
  have eT : IntKind.u64.wrap (IntKind.u64.wrap (IntKind.u64.wrap (U * 4294967296) + V1) - IntKind.u64.wrap (Q * 9511602413006487552)) = T := by
    simp only [IntKind.wrap_u64]; omega
  obtain ⟨K, hK⟩ : ∃ K : Int, K = T / 2214592512 := ⟨_, rfl⟩
  have eK : IntKind.u64.wrap (T.tdiv 2214592512) = K := by rw [hK]; exact IntWalk.u64_quo T _ ⟨T0, by omega, by omega⟩
  have eK' : T / 2214592512 = K := hK.symm
  have K0 : 0 ≤ K := by omega
  have K1 : K ≤ 4294967295 := by omega
  have S0 : 0 ≤ T - K * 2214592512 := by omega
  have S1 : T - K * 2214592512 ≤ 2214592511 := by omega
  have HK : Hid (K = T / 2214592512) := hK
  clear hT hQ hK
  go_enter Ybad.func13, Ybad.ntmps13
  go_wp2_with fail
  refine (Ybad.bits_LeadingZeros64 66 _ (by omega) (by omega)).mono ?_
  rintro e w' ⟨rfl, rfl⟩
  rw [bl66]
  go_wp2
  go_loop [15, 16] (fun q r => q = .int .u64 Q ∧ r = .int .u64 (U - Q * 2214592512)) (fun _ _ => 0)
  case atStart => exact ⟨rfl, rfl⟩
  case round =>
    obtain ⟨rfl, rfl⟩ := hrel
    go_wp2
    go_loop [18, 16] (fun q r => q = .int .u64 K ∧ r = .int .u64 (T - K * 2214592512)) (fun _ _ => 0)
    case atStart => exact ⟨rfl, rfl⟩
    case round =>
      obtain ⟨rfl, rfl⟩ := hrel
      go_wp2
      go_ret2
      have hs := HS.out
      have ht := HT.out
      have hk := HK.out
      refine ⟨ret2_int ?_ ?_, rfl⟩
      · exact div_quo _ _ Q T K hs (by omega) hk
      · rw [← div_rem _ _ Q T K hs (by omega) hk]
        simp only [IntKind.wrap_u64]
        omega

/-- bits.Div64 at the divisor 66, the high word below it. -/
theorem div_any (hi lo : Int) (w : World) (p0 : 0 ≤ hi) (p1 : hi < 66) (h0 : 0 ≤ lo) (h1 : lo ≤ 18446744073709551615) :
    Calls Ybad.prog 13 #[.int .u64 hi, .int .u64 lo, .int .u64 66] w fun e w' => e = .returned (.tuple #[.int .u64 ((hi * 18446744073709551616 + lo) / 66), .int .u64 ((hi * 18446744073709551616 + lo) % 66)]) ∧ ∃ n, w' = w.drewN n := by
  by_cases hz : hi = 0
  · subst hz
    refine (div_low lo w h0 h1).mono ?_
    rintro e w' ⟨rfl, hw⟩
    exact ⟨ret2_int (by omega) (by omega), hw⟩
  · refine (div_high hi lo w (by omega) p1 h0 h1).mono ?_
    rintro e w' ⟨rfl, hw⟩
    exact ⟨rfl, 0, hw⟩
end Go.Proofs.YbulkaldyDoor
