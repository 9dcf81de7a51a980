/-
  b1844aD: the plain arithmetic of bits.Div64 at the divisor 66 (no Go in sight).
-/
import Derived.Laws.BitsAllLaws
namespace Go.Proofs.YbulkaldyDoor
set_option linter.unusedVariables false
set_option linter.unusedSimpArgs false

/-- 'hi<<57 | lo>>7': the two do not overlap. -/
theorem div_or (hi lo : Int) (p0 : 0 ≤ hi) (p1 : hi < 66) (h0 : 0 ≤ lo) (h1 : lo ≤ 18446744073709551615) :
    bits .or .u64 (hi * 144115188075855872) (lo / 128) = hi * 144115188075855872 + lo / 128 := by
  have l1 : lo / 128 < 144115188075855872 := by omega
  obtain ⟨m, rfl⟩ := Int.eq_ofNat_of_zero_le p0
  obtain ⟨n, hn⟩ := Int.eq_ofNat_of_zero_le (show 0 ≤ lo / 128 by omega)
  rw [hn] at l1 ⊢
  rw [show ((m : Int) * 144115188075855872) = ((m * 144115188075855872 : Nat) : Int) by omega]
  rw [u64_or_nat _ _ (by omega) (by omega)]
  have := Nat.two_pow_add_eq_or_of_lt (i := 57) (b := n) (by omega) m
  rw [show m * 144115188075855872 = 2 ^ 57 * m by omega, ← this]
  omega

theorem div_and (V : Int) (h0 : 0 ≤ V) (h1 : V ≤ 18446744073709551615) (h : V % 4294967296 = 0) : bits .and .u64 V 4294967295 = 0 := by
  obtain ⟨n, rfl⟩ := Int.eq_ofNat_of_zero_le h0
  rw [show (4294967295 : Int) = ((4294967295 : Nat) : Int) from rfl, u64_and_nat _ _ (by omega) (by omega)]
  have := Nat.and_two_pow_sub_one_eq_mod n 32
  rw [show 2 ^ 32 - 1 = 4294967295 from rfl] at this
  rw [this]
  omega

/-- What the shifted operands come to: 'U·2^32 + V1' is 'N·2^25', N the dividend. -/
theorem div_shift (hi lo U V1 : Int) (hU : U = hi * 144115188075855872 + lo / 128) (hV : V1 = lo % 128 * 33554432) :
    U * 4294967296 + V1 = (hi * 18446744073709551616 + lo) * 33554432 := by
  omega

theorem div_quo (N M q1 T q0 : Int) (hq1 : M = N * 33554432) (hT : M = q1 * 9511602413006487552 + T) (h0 : q0 = T / 2214592512) :
    q1 * 4294967296 + q0 = N / 66 := by
  omega

theorem div_rem (N M q1 T q0 : Int) (hq1 : M = N * 33554432) (hT : M = q1 * 9511602413006487552 + T) (h0 : q0 = T / 2214592512) :
    (T - q0 * 2214592512) / 33554432 = N % 66 := by
  omega
end Go.Proofs.YbulkaldyDoor
