/-
  b1844aD: the plain law of a packed id (no Go in sight): bijective base 66, the first character the lowest digit.
-/
import Derived.Lib.Strings
namespace Go.Proofs.YbulkaldyDoor
set_option linter.unusedVariables false
set_option linter.unusedSimpArgs false

/-- idChars, as the program's text has them. -/
def idChars : List UInt8 := [45, 46, 48, 49, 50, 51, 52, 53, 54, 55, 56, 57, 58, 65, 66, 67, 68, 69, 70, 71, 72, 73, 74, 75, 76, 77, 78, 79, 80, 81, 82, 83, 84, 85, 86, 87, 88, 89, 90, 95, 97, 98, 99, 100, 101, 102, 103, 104, 105, 106, 107, 108, 109, 110, 111, 112, 113, 114, 115, 116, 117, 118, 119, 120, 121, 122]

/-- The character of a digit. -/
def chr (d : Int) : UInt8 := idChars.getD d.toNat 0

/-- The number that a list of digits (each 0 to 65) packs. -/
def pack : List Int → Int
  | [] => 0
  | d :: ds => pack ds * 66 + d + 1

def Digits (ds : List Int) : Prop := ∀ d, d ∈ ds → 0 ≤ d ∧ d < 66

theorem pack_nonneg (ds : List Int) (h : Digits ds) : 0 ≤ pack ds := by
  induction ds with
  | nil => exact Int.le_refl 0
  | cons d ds ih =>
    have := ih (fun x hx => h x (List.mem_cons_of_mem _ hx))
    have := h d (List.mem_cons_self ..)
    unfold pack
    omega

/-- The difference and the borrow of 'bits.Sub64(x, 1, 0)': names that the walk does not open. -/
def subD (x : Int) : Int := if x = 0 then 18446744073709551615 else x - 1
def subB (x : Int) : Int := if x = 0 then 1 else 0

theorem subD_bd (x : Int) (h0 : 0 ≤ x) (h1 : x ≤ 18446744073709551615) : 0 ≤ subD x ∧ subD x ≤ 18446744073709551615 := by
  unfold subD; split <;> omega
theorem subB_bd (x : Int) : 0 ≤ subB x ∧ subB x ≤ 1 := by
  unfold subB; split <;> omega

/-- The high word behind the borrow is a word still. -/
theorem hi_bd (hi lo N : Int) (h : hi * 18446744073709551616 + lo = N) (hN : 1 ≤ N) (h0 : 0 ≤ hi) (l0 : 0 ≤ lo) : 0 ≤ hi - subB lo := by
  unfold subB; split <;> omega

/-- One round of 'packedID.String'. -/
theorem round_law (hi lo P d : Int) (h : hi * 18446744073709551616 + lo = P * 66 + d + 1) (d0 : 0 ≤ d) (d1 : d < 66) (h0 : 0 ≤ hi) (l0 : 0 ≤ lo) (l1 : lo ≤ 18446744073709551615) :
    (hi - subB lo) / 66 * 18446744073709551616 + ((hi - subB lo) % 66 * 18446744073709551616 + subD lo) / 66 = P ∧
    ((hi - subB lo) % 66 * 18446744073709551616 + subD lo) % 66 = d := by
  unfold subB subD
  split <;> constructor <;> omega

end Go.Proofs.YbulkaldyDoor
