/-
  b1844aD: the plain laws of LawS1844CRoundTrip (no Go in sight).
-/
import Derived.Test.YbulkaldyDoorShortMath
namespace Go.Proofs.YbulkaldyDoor
set_option linter.unusedVariables false
set_option linter.unusedSimpArgs false

theorem pack_15 (ds : List Int) (h : Digits ds) (hl : ds.length ≤ 15) : pack ds ≤ 1994295971739234748065968191 := by
  have hb := pack_bound ds h
  have : (66 : Int) ^ ds.length ≤ 66 ^ 15 := by
    have h' : 66 ^ ds.length ≤ 66 ^ 15 := Nat.pow_le_pow_right (by omega) hl
    exact_mod_cast h'
  rw [show (66 : Int) ^ 15 = 1964079366106822100367998976 by decide] at this
  omega

/-- One round of 'packID': the product's two words h, l; the sum s, its carry c. -/
theorem pk_law (hi lo P d h l c s : Int) (hP : hi * 18446744073709551616 + lo = P) (hh : h = lo * 66 / 18446744073709551616) (hl : l = lo * 66 % 18446744073709551616)
    (hc : c = (l + (d + 1)) / 18446744073709551616) (hs : s = (l + (d + 1)) % 18446744073709551616) :
    (hi * 66 + (h + c)) * 18446744073709551616 + s = P * 66 + d + 1 := by
  omega

theorem pk_bd (hi lo P d h l c s : Int) (hP : hi * 18446744073709551616 + lo = P) (hh : h = lo * 66 / 18446744073709551616) (hl : l = lo * 66 % 18446744073709551616)
    (hc : c = (l + (d + 1)) / 18446744073709551616) (hs : s = (l + (d + 1)) % 18446744073709551616) (l0 : 0 ≤ lo) (l1 : lo ≤ 18446744073709551615) (h0 : 0 ≤ hi) (d0 : 0 ≤ d) (d1 : d < 66)
    (hb : P * 66 + d + 1 ≤ 1994295971739234748065968191) :
    0 ≤ h ∧ h ≤ 65 ∧ 0 ≤ l ∧ l ≤ 18446744073709551615 ∧ 0 ≤ c ∧ c ≤ 1 ∧ 0 ≤ s ∧ s ≤ 18446744073709551615 ∧ hi * 66 + (h + c) ≤ 4294967295 := by
  omega

/-- The digit of a character, as the table has it: 1 for the first of idChars, 0 for a character of none. -/
def digitOf (c : Nat) : Int := if idChars.contains (UInt8.ofNat c) then (idChars.idxOf (UInt8.ofNat c) : Int) + 1 else 0
def digitTab : List Int := (List.range 256).map digitOf

theorem tab_all : ∀ k : Fin 66, digitTab.getD (chr ((k : Nat) : Int)).toNat 0 = ((k : Nat) : Int) + 1 := by decide +kernel
theorem tab_chr (d : Int) (d0 : 0 ≤ d) (d1 : d < 66) : digitTab.getD (chr d).toNat 0 = d + 1 := by
  obtain ⟨k, rfl⟩ := Int.eq_ofNat_of_zero_le d0
  exact tab_all ⟨k, by omega⟩
end Go.Proofs.YbulkaldyDoor
