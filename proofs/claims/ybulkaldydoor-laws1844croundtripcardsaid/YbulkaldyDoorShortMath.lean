/-
  b1844aD: the plain laws of LawS1844CShortDigits (no Go in sight).
-/
import Derived.Test.YbulkaldyDoorPack
import Derived.Laws.BytesArg
namespace Go.Proofs.YbulkaldyDoor
set_option linter.unusedVariables false
set_option linter.unusedSimpArgs false

/-! ### The plain laws -/
theorem pack_bound : ∀ (ds : List Int), Digits ds → pack ds * 65 + 66 ≤ 66 * 66 ^ ds.length
  | [], _ => by simp [pack]
  | d :: ds, h => by
    have ih := pack_bound ds (fun x hx => h x (List.mem_cons_of_mem _ hx))
    have hd := h d (List.mem_cons_self ..)
    unfold pack
    rw [List.length_cons, Int.pow_succ]
    generalize (66 : Int) ^ ds.length = X at *
    omega

theorem pack_small (ds : List Int) (h : Digits ds) (hl : ds.length ≤ 10) : pack ds ≤ 1600000000000000000 := by
  have hb := pack_bound ds h
  have : (66 : Int) ^ ds.length ≤ 66 ^ 10 := by
    have h' : 66 ^ ds.length ≤ 66 ^ 10 := Nat.pow_le_pow_right (by omega) hl
    exact_mod_cast h'
  rw [show (66 : Int) ^ 10 = 1568336880910795776 by decide] at this
  omega

theorem pack_smaller (ds : List Int) (h : Digits ds) (hl : ds.length ≤ 9) : pack ds ≤ 25000000000000000 := by
  have hb := pack_bound ds h
  have : (66 : Int) ^ ds.length ≤ 66 ^ 9 := by
    have h' : 66 ^ ds.length ≤ 66 ^ 9 := Nat.pow_le_pow_right (by omega) hl
    exact_mod_cast h'
  rw [show (66 : Int) ^ 9 = 23762680013799936 by decide] at this
  omega

/-- The digits that the law reads off the raw numbers. -/
def digs (zs : List Int) (n : Nat) : List Int := (zs.take n).map (· % 66)

theorem digs_length (zs : List Int) (n : Nat) (h : n ≤ zs.length) : (digs zs n).length = n := by simp [digs]; omega
theorem digs_digits (zs : List Int) (n : Nat) : Digits (digs zs n) := by
  intro d hd
  unfold digs at hd
  obtain ⟨a, _, rfl⟩ := List.mem_map.1 hd
  omega
theorem digs_get (zs : List Int) (n k : Nat) (hk : k < n) (h : n ≤ zs.length) : (digs zs n)[k]? = some (zs.getD k 0 % 66) := by
  simp [digs, hk, show k < zs.length by omega]
theorem drop_pack (ds : List Int) (k : Nat) (d : Int) (h : ds[k]? = some d) : pack (ds.drop k) = pack (ds.drop (k + 1)) * 66 + d + 1 := by
  obtain ⟨hk, e⟩ := List.getElem?_eq_some_iff.1 h
  rw [List.drop_eq_getElem_cons hk, e]
  rfl

/-- What the second loop has written behind k rounds. -/
def part (ds : List Int) (k : Nat) : List Value := ((ds.take k).map fun d => Value.int .u8 ((chr d).toNat : Int)) ++ List.replicate (ds.length - k) (.int .u8 0)

theorem part_zero (ds : List Int) : part ds 0 = List.replicate ds.length (.int .u8 0) := by simp [part]
theorem part_step (ds : List Int) (k : Nat) (d : Int) (h : ds[k]? = some d) : (part ds k).set k (.int .u8 ((chr d).toNat : Int)) = part ds (k + 1) := by
  obtain ⟨hk, e⟩ := List.getElem?_eq_some_iff.1 h
  have hl : ((ds.take k).map fun d => Value.int .u8 ((chr d).toNat : Int)).length = k := by simp; omega
  unfold part
  rw [List.set_append_right _ _ (by omega), hl, Nat.sub_self]
  rw [show ds.length - k = (ds.length - (k + 1)) + 1 by omega, List.replicate_succ, List.set_cons_zero]
  rw [List.take_succ_eq_append_getElem hk, e]
  simp
theorem part_all (ds : List Int) (j : Nat) (hj : j < ds.length) : (part ds ds.length)[j]? = some (.int .u8 (((ds.map fun d => ((chr d).toNat : Int)).getD j 0))) := by
  simp [part, hj]
theorem str_part (ds : List Int) : strOfNums (ds.map fun d => ((chr d).toNat : Int)) = ⟨(ds.map chr).toArray⟩ := by
  unfold strOfNums
  congr 2
  rw [List.map_map]
  apply List.map_congr_left
  intro a _
  simp
end Go.Proofs.YbulkaldyDoor
