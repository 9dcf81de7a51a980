/-
  b1846a: the contract of 'gcd' (function 16): it returns the greatest common divisor; the world has only drawn.
-/
import Derived.Test.YbulkalfaRows
import Derived.WalkKit
import Derived.BigQuiet
import Derived.Deep.QuietTactic
namespace Go.Proofs.Ybulkalfa
open Go.RowKit

/-- The greatest common divisor, over Int; a name that the walk does not open. -/
def gcdI (a b : Int) : Int := ((a.toNat.gcd b.toNat : Nat) : Int)

theorem gcdI_zero (a : Int) (h : 0 ≤ a) : gcdI a 0 = a := by
  unfold gcdI
  simp
  omega

theorem gcdI_step (a b : Int) (ha : 0 ≤ a) (hb : 0 ≤ b) : gcdI b (a % b) = gcdI a b := by
  obtain ⟨m, rfl⟩ := Int.eq_ofNat_of_zero_le ha
  obtain ⟨n, rfl⟩ := Int.eq_ofNat_of_zero_le hb
  unfold gcdI
  have e : ((m : Int) % (n : Int)).toNat = m % n := by
    rw [← Int.natCast_emod, Int.toNat_natCast]
  rw [e, Int.toNat_natCast, Int.toNat_natCast, Nat.gcd_comm m n, Nat.gcd_rec n m, Nat.gcd_comm]

theorem gcdI_nonneg (a b : Int) : 0 ≤ gcdI a b := Int.natCast_nonneg _

theorem gcdI_comm (a b : Int) : gcdI a b = gcdI b a := by unfold gcdI; rw [Nat.gcd_comm]

theorem gcdI_ne (a b : Int) (ha : 0 ≤ a) (hb : 0 ≤ b) (h : ¬ (a = 0 ∧ b = 0)) : 0 < gcdI a b := by
  unfold gcdI
  have : 0 < a.toNat.gcd b.toNat := by
    by_cases e : a = 0
    · exact Nat.gcd_pos_of_pos_right _ (by omega)
    · exact Nat.gcd_pos_of_pos_left _ (by omega)
  omega

theorem gcdI_dvd_left (a b : Int) (ha : 0 ≤ a) : a % gcdI a b = 0 := by
  obtain ⟨m, rfl⟩ := Int.eq_ofNat_of_zero_le ha
  unfold gcdI
  rw [Int.toNat_natCast, ← Int.natCast_emod, Nat.mod_eq_zero_of_dvd (Nat.gcd_dvd_left _ _)]
  rfl

theorem gcdI_dvd_right (a b : Int) (hb : 0 ≤ b) : b % gcdI a b = 0 := by
  rw [gcdI_comm]; exact gcdI_dvd_left b a hb

theorem gcdI_le_left (a b : Int) (ha : 0 < a) : gcdI a b ≤ a := by
  unfold gcdI
  have := Nat.gcd_le_left b.toNat (m := a.toNat) (by omega)
  omega

theorem gcdI_le (a b m : Int) (ha : 0 ≤ a) (hb : 0 ≤ b) (h1 : a ≤ m) (h2 : b ≤ m) : gcdI a b ≤ m := by
  by_cases e : a = 0
  · subst e
    rw [gcdI_comm, gcdI_zero b hb]; exact h2
  · have := gcdI_le_left a b (by omega); omega

theorem gcdI_div (a b : Int) (ha : 0 ≤ a) (hb : 0 ≤ b) (h : ¬ (a = 0 ∧ b = 0)) : gcdI (a / gcdI a b) (b / gcdI a b) = 1 := by
  have hp := gcdI_ne a b ha hb h
  obtain ⟨m, rfl⟩ := Int.eq_ofNat_of_zero_le ha
  obtain ⟨n, rfl⟩ := Int.eq_ofNat_of_zero_le hb
  unfold gcdI at *
  rw [Int.toNat_natCast, Int.toNat_natCast] at *
  rw [← Int.natCast_ediv, ← Int.natCast_ediv, Int.toNat_natCast, Int.toNat_natCast]
  rw [Nat.gcd_div (Nat.gcd_dvd_left _ _) (Nat.gcd_dvd_right _ _), Nat.div_self (by omega)]
  rfl

theorem ret_int {k : IntKind} {a b : Int} (h : a = b) : Ending.returned (.int k a) = .returned (.int k b) := by rw [h]

set_option maxHeartbeats 400000 in
theorem gcd_any (a b : Int) (w : World) (ha0 : 0 ≤ a) (ha1 : a ≤ 18446744073709551615) (hb0 : 0 ≤ b) (hb1 : b ≤ 18446744073709551615) :
    Calls Yba.prog 16 #[.int .u64 a, .int .u64 b] w fun e w' => e = .returned (.int .u64 (gcdI a b)) ∧ ∃ n, w' = w.drewN n := by
  go_enter Yba.func16, Yba.ntmps16
  go_wp2
  go_loopw [0, 1] (fun x y wr => ∃ p q : Int, x = .int .u64 p ∧ y = .int .u64 q ∧ 0 ≤ p ∧ p ≤ 18446744073709551615 ∧ 0 ≤ q ∧ q ≤ 18446744073709551615 ∧ Hid (gcdI p q = gcdI a b) ∧ Hid (∃ n, wr = w.drewN n)) (fun _ y _ => (intOf y).toNat)
  case atStart => exact ⟨a, b, rfl, rfl, ha0, ha1, hb0, hb1, rfl, ⟨0, rfl⟩⟩
  case round =>
    obtain ⟨p, q, rfl, rfl, hp0, hp1, hq0, hq1, hg, hw⟩ := hrel
    by_cases hz : q = 0
    · subst hz
      go_wp2
      go_ret
      exact ⟨ret_int (by rw [← hg.out, gcdI_zero p hp0]), hw.out⟩
    · have hz1 : (q != 0) = true := by rw [bne_iff_ne]; omega
      go_wp2
      go_quiet (fail)
      go_wp2
      go_roundw
      case rel =>
        have m0 : 0 ≤ p % q := Int.emod_nonneg _ (by omega)
        have m1 : p % q < q := Int.emod_lt_of_pos _ (by omega)
        refine ⟨q, _, rfl, rfl, hq0, hq1, m0, by omega, ?_, ?_⟩
        · exact (gcdI_step p q hp0 hq0).trans hg.out
        · obtain ⟨n, hn⟩ := hw.out
          exact ⟨n + nq, by rw [hn, World.drewN_drewN]⟩
      case measure =>
        have m1 : p % q < q := Int.emod_lt_of_pos _ (by omega)
        simp [intOf]
        omega

theorem drewN_grown (w : World) (n : Nat) : Grown w (w.drewN n) := Grown.refl w
end Go.Proofs.Ybulkalfa
