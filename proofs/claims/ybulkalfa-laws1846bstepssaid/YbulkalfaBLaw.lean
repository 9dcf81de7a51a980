/-
  b1846a: the plain law of LawS1846BModel: from a fresh model the number's path and its second bit alone move, each one step; zzs1846bafter (12).
-/
import Derived.Test.YbulkalfaPrep
namespace Go.Proofs.Ybulkalfa
open Go.RowKit
set_option linter.unusedVariables false
set_option linter.unusedSimpArgs false

def treeExp : Nat → Nat → Nat → List Int → List Int
  | 0, _, _, N => N
  | k + 1, node, v, N => treeExp k (2 * node + bitAt v k) v (N.set node (adapt 2048 (bitAt v k)))

theorem getD_set_ne (N : List Int) (i j : Nat) (x : Int) (h : i ≠ j) : (N.set i x).getD j 0 = N.getD j 0 := by
  rw [List.getD_eq_getElem?_getD, List.getElem?_set_ne h, ← List.getD_eq_getElem?_getD]

theorem tree_exp : ∀ (k node v : Nat) (S : St) (M : List Int), 1 ≤ node → (∀ j, node ≤ j → j < 145 → M.getD j 0 = 2048) → node < 145 → (node + 1) * 2 ^ k ≤ 145 →
    (treeRun k node v S M).2 = treeExp k node v M
  | 0, _, _, _, _, _, _, _, _ => rfl
  | k + 1, node, v, S, M, h1, hM, hn, hb => by
    have e : M.getD node 0 = 2048 := hM node (Nat.le_refl _) hn
    have hbit := bitAt_bd v k
    have hp1 := Nat.one_le_two_pow (n := k)
    have h3 : (node + 1) * 2 ^ (k + 1) = (2 * node + 2) * 2 ^ k := by rw [Nat.pow_succ, show 2 * node + 2 = (node + 1) * 2 by omega, Nat.mul_assoc, Nat.mul_comm 2]
    have h4 : (2 * node + bitAt v k + 1) * 2 ^ k ≤ (2 * node + 2) * 2 ^ k := Nat.mul_le_mul_right _ (by omega)
    have h5 : (2 * node + 2) * 1 ≤ (2 * node + 2) * 2 ^ k := Nat.mul_le_mul_left _ hp1
    show (treeRun k (2 * node + bitAt v k) v (encS S (M.getD node 0) (bitAt v k)) (M.set node (adapt (M.getD node 0) (bitAt v k)))).2 = treeExp k (2 * node + bitAt v k) v (M.set node (adapt 2048 (bitAt v k)))
    rw [e]
    exact tree_exp k (2 * node + bitAt v k) v _ _ (by omega) (fun j hj hj2 => by rw [getD_set_ne _ _ _ _ (by omega)]; exact hM j (by omega) hj2) (by omega) (by omega)

/-- The tree's walk leaves the places from 64 on. -/
theorem tree_far : ∀ (k node v : Nat) (N : List Int) (j : Nat), (node + 1) * 2 ^ k ≤ 128 → 64 ≤ j → (treeExp k node v N).getD j 0 = N.getD j 0
  | 0, _, _, _, _, _, _ => rfl
  | k + 1, node, v, N, j, hb, hj => by
    have hbit := bitAt_bd v k
    have hp1 := Nat.one_le_two_pow (n := k)
    have h3 : (node + 1) * 2 ^ (k + 1) = (2 * node + 2) * 2 ^ k := by rw [Nat.pow_succ, show 2 * node + 2 = (node + 1) * 2 by omega, Nat.mul_assoc, Nat.mul_comm 2]
    have h4 : (2 * node + bitAt v k + 1) * 2 ^ k ≤ (2 * node + 2) * 2 ^ k := Nat.mul_le_mul_right _ (by omega)
    have h5 : (2 * node + 2) * 1 ≤ (2 * node + 2) * 2 ^ k := Nat.mul_le_mul_left _ hp1
    show (treeExp k (2 * node + bitAt v k) v (N.set node (adapt 2048 (bitAt v k)))).getD j 0 = N.getD j 0
    rw [tree_far k _ v _ j (by omega) hj, getD_set_ne _ _ _ _ (by omega)]

theorem treeExp_length : ∀ (k node v : Nat) (N : List Int), (treeExp k node v N).length = N.length
  | 0, _, _, _ => rfl
  | k + 1, node, v, N => by
    show (treeExp k _ v (N.set node _)).length = N.length
    rw [treeExp_length k, List.length_set]

def expRun (z n : Nat) (N : List Int) : List Int := if n < 2 then treeExp 6 1 (less1 n) N else (treeExp 6 1 (less1 n) N).set (64 + n) (adapt 2048 (bitAt z (n - 2)))

theorem mdl_fresh (j : Nat) (h : j < 145) : (mdl [] 0).getD j 0 = 2048 := by
  unfold mdl
  rw [List.getD_eq_getElem?_getD, List.getElem?_map, List.getElem?_range h]
  rfl

theorem num_exp (z n : Nat) (S : St) (hn : n ≤ 64) : (numRun z n S (mdl [] 0)).2 = expRun z n (mdl [] 0) := by
  have h1 := tree_exp 6 1 (less1 n) S (mdl [] 0) (by omega) (fun j _ hj => mdl_fresh j hj) (by omega) (by decide)
  unfold numRun tailRun expRun
  rw [h1]
  split
  · rfl
  · have e : (treeExp 6 1 (less1 n) (mdl [] 0)).getD (64 + n) 0 = 2048 := by
      rw [tree_far 6 1 _ _ _ (by decide) (by omega), mdl_fresh _ (by omega)]
    rw [e]

theorem bit_low (x k : Nat) (h : k < 6) : bitAt (x % 64) k = bitAt x k := by
  unfold bitAt
  match k, h with
  | 0, _ => omega
  | 1, _ => omega
  | 2, _ => omega
  | 3, _ => omega
  | 4, _ => omega
  | 5, _ => omega

theorem treeExp_low : ∀ (k node x : Nat) (N : List Int), k ≤ 6 → treeExp k node (x % 64) N = treeExp k node x N
  | 0, _, _, _, _ => rfl
  | k + 1, node, x, N, h => by
    show treeExp k (2 * node + bitAt (x % 64) k) (x % 64) (N.set node (adapt 2048 (bitAt (x % 64) k))) = treeExp k (2 * node + bitAt x k) x (N.set node (adapt 2048 (bitAt x k)))
    rw [bit_low x k (by omega), treeExp_low k _ x _ (by omega)]
theorem treeRun_low : ∀ (k node x : Nat) (S : St) (M : List Int), k ≤ 6 → treeRun k node (x % 64) S M = treeRun k node x S M
  | 0, _, _, _, _, _ => rfl
  | k + 1, node, x, S, M, h => by
    show treeRun k (2 * node + bitAt (x % 64) k) (x % 64) (encS S (M.getD node 0) (bitAt (x % 64) k)) (M.set node (adapt (M.getD node 0) (bitAt (x % 64) k))) = treeRun k (2 * node + bitAt x k) x (encS S (M.getD node 0) (bitAt x k)) (M.set node (adapt (M.getD node 0) (bitAt x k)))
    rw [bit_low x k (by omega), treeRun_low k _ x _ _ (by omega)]

theorem and_63 (x : Nat) (hx : x < 18446744073709551616) : bits .and .u64 (x : Int) 63 = ((x % 64 : Nat) : Int) := by
  rw [show (63 : Int) = ((63 : Nat) : Int) from rfl, u64_and_nat _ _ hx (by omega)]
  have := Nat.and_two_pow_sub_one_eq_mod x 6
  simp only [show 2 ^ 6 - 1 = 63 from rfl, show 2 ^ 6 = 64 from rfl] at this
  rw [this]

set_option maxHeartbeats 400000 in
/-- zzs1846bafter (12). -/
theorem after_any (bit : Nat) (w : World) (hb : bit = 0 ∨ bit = 1) : Calls Yba.prog 12 #[.int .u64 bit] w fun e w' => e = .returned (.int .u16 (adapt 2048 bit)) ∧ w' = w := by
  rcases hb with rfl | rfl
  · go_enter Yba.func12, Yba.ntmps12
    go_wp2
    go_ret
    exact ⟨rfl, rfl⟩
  · go_enter Yba.func12, Yba.ntmps12
    go_wp2
    go_ret
    exact ⟨rfl, rfl⟩
end Go.Proofs.Ybulkalfa
