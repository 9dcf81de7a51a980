/-
  b1846a: encodeTree (20): the walk, and its plain function.
-/
import Derived.Test.YbulkalfaStep
import Derived.BigQuiet
import Derived.Deep.QuietTactic
import Derived.Deep.LoopGhost
namespace Go.Proofs.Ybulkalfa
open Go.RowKit
set_option linter.unusedVariables false
set_option linter.unusedSimpArgs false

/-! ### Plain -/
def bitAt (v k : Nat) : Nat := v / 2 ^ k % 2
theorem bitAt_bd (v k : Nat) : bitAt v k = 0 ∨ bitAt v k = 1 := by unfold bitAt; omega

/-- The bits k-1 .. 0 of v down the tree, from a node on. -/
def treeRun : Nat → Nat → Nat → St → List Int → St × List Int
  | 0, _, _, S, M => (S, M)
  | k + 1, node, v, S, M => treeRun k (2 * node + bitAt v k) v (encS S (M.getD node 0) (bitAt v k)) (M.set node (adapt (M.getD node 0) (bitAt v k)))

def Probs (M : List Int) : Prop := ∀ x, x ∈ M → Prob x
theorem Probs.getD {M : List Int} (h : Probs M) {i : Nat} (hi : i < M.length) : Prob (M.getD i 0) := by
  rw [List.getD_eq_getElem?_getD, List.getElem?_eq_getElem hi]
  exact h _ (List.getElem_mem hi)
theorem Probs.set {M : List Int} (h : Probs M) (i : Nat) {x : Int} (hx : Prob x) : Probs (M.set i x) := by
  intro y hy
  rcases List.mem_or_eq_of_mem_set hy with hy | rfl
  · exact h y hy
  · exact hx

/-! ### The model in memory -/
def mcells (M : List Int) : Array Value := (M.map (Value.int .u16)).toArray
def ModAt (c : Nat) (M : List Int) (w : World) : Prop := blockOf w c = some (.cells (mcells M) 36 (0, 0))
theorem ModAt.cell {c : Nat} {M : List Int} {w : World} (h : ModAt c M w) {i : Nat} (hi : i < M.length) : w.cell? ⟨c, i, none⟩ = some (.int .u16 (M.getD i 0)) := by
  rw [Lib.cell_of_heap (show w.heap[c]? = _ from h)]
  simp [mcells, hi]
theorem ModAt.frozen {c : Nat} {M : List Int} {w : World} (h : ModAt c M w) (i : Nat) : w.frozen? ⟨c, i, none⟩ = false := Lib.frozen_of_heap (show w.heap[c]? = _ from h) i
theorem ModAt.lt {c : Nat} {M : List Int} {w : World} (h : ModAt c M w) : c < w.heap.size := (Array.getElem?_eq_some_iff.1 (show w.heap[c]? = _ from h)).1
theorem ModAt.stored {c : Nat} {M : List Int} {w w' : World} (h : ModAt c M w) (i : Nat) (x : Int) (hw : blockOf w' c = blockOf (w.setCell ⟨c, i, none⟩ (.int .u16 x)) c) : ModAt c (M.set i x) w' := by
  unfold ModAt
  rw [hw]
  show (w.setCell ⟨c, i, none⟩ (.int .u16 x)).heap[c]? = _
  rw [heap_setCell_same w c i _ 36 _ (show w.heap[c]? = _ from h)]
  simp [mcells, List.map_set]
theorem ModAt.kept {c : Nat} {M : List Int} {w w' : World} (h : ModAt c M w) (hw : w'.heap[c]? = w.heap[c]?) : ModAt c M w' := Eq.trans hw h

theorem Moved.row_ne {b : Nat} {r m : Option Nat} {w w' : World} {r' : Option Nat} (h : Moved b r m w w' r') {c : Nat} (hc : c < w.heap.size) (hr : r ≠ some c) : r' ≠ some c := by
  rcases h.2.2.2 with rfl | ⟨k, rfl, hk⟩
  · exact hr
  · intro e
    have := Option.some.inj e
    omega

theorem and_one (v : Nat) (hv : v < 18446744073709551616) : bits .and .u64 (v : Int) 1 = ((v % 2 : Nat) : Int) := by
  rw [show (1 : Int) = ((1 : Nat) : Int) from rfl, u64_and_nat _ _ hv (by omega)]
  rw [Nat.and_one_is_mod]
theorem and_shift (v k : Nat) (hv : v < 18446744073709551616) : bits .and .u64 ((v : Int) / 2 ^ k) 1 = ((bitAt v k : Nat) : Int) := by
  have e : (v : Int) / 2 ^ k = ((v / 2 ^ k : Nat) : Int) := by simp
  rw [e, and_one _ (Nat.lt_of_le_of_lt (Nat.div_le_self _ _) hv)]
  rfl
theorem or_bit (n bit : Nat) (hn : n < 9223372036854775808) (hb : bit = 0 ∨ bit = 1) : bits .or .u64 ((n : Int) * 2) (bit : Int) = ((2 * n + bit : Nat) : Int) := by
  rw [show (n : Int) * 2 = ((2 * n : Nat) : Int) by omega, u64_or_nat _ _ (by omega) (by omega)]
  have := Nat.two_pow_add_eq_or_of_lt (i := 1) (b := bit) (by omega) n
  simp only [Nat.pow_one] at this
  rw [← this]

set_option maxHeartbeats 2000000 in
set_option maxRecDepth 100000 in
theorem tree_any (B b : Nat) (r : Option Nat) (S : St) (c : Nat) (M : List Int) (v : Nat) (w : World) (h : EncAt B b r S.buf S.low S.rng w) (hI : Inv S) (r0 : 16777216 ≤ S.rng) (hM : ModAt c M w) (hP : Probs M) (hML : M.length = 145)
    (hv : v < 18446744073709551616) (hcb : c ≠ b) (hcr : r ≠ some c) (hlen : S.buf.length ≤ 900000) :
    Calls Yba.prog 20 #[.pointer (some ⟨b, 0, none⟩), .slice (some ⟨c, 0, none⟩) 64 64, .int .u64 v, .int .i64 6] w fun e w' =>
      e = .returned (.tuple #[]) ∧ ∃ r', EncAt B b r' (treeRun 6 1 v S M).1.buf (treeRun 6 1 v S M).1.low (treeRun 6 1 v S M).1.rng w' ∧ Moved b r (some c) w w' r' ∧ ModAt c (treeRun 6 1 v S M).2 w' := by
  obtain ⟨_, c2, c3, cf⟩ := h.cells
  obtain ⟨buf, lo, rg⟩ := S
  have HH : Hid (EncAt B b r buf lo rg w ∧ Inv ⟨buf, lo, rg⟩ ∧ ModAt c M w ∧ Probs M ∧ M.length = 145) := ⟨h, hI, hM, hP, hML⟩
  have r0' : 16777216 ≤ rg := r0
  have hlen' : buf.length ≤ 900000 := hlen
  clear h hI hM hP hML r0 hlen
  have c2' : w.cell? ⟨b, 2, none⟩ = some (.int .u64 lo) := c2
  have c3' : w.cell? ⟨b, 3, none⟩ = some (.int .u32 rg) := c3
  clear c2 c3
  go_enter Yba.func20, Yba.ntmps20
  go_wp2_with fail
  go_quiet (fail)
  go_wp2
  go_loopg [8, 9, 10, 11] 6 (fun gk lw rn nd ki wr => ∃ (node : Nat) (T : St) (N : List Int) (r' : Option Nat), ki = .int .i64 ((gk : Int) - 1) ∧ nd = .int .u64 node ∧ lw = .int .u64 T.low ∧ rn = .int .u32 T.rng ∧ gk ≤ 6 ∧ Hid ((node + 1) * 2 ^ gk ≤ 128) ∧
      Hid (treeRun gk node v T N = treeRun 6 1 v ⟨buf, lo, rg⟩ M) ∧ Hid (EncAt B b r' T.buf lo rg wr ∧ Moved b r (some c) w wr r' ∧ ModAt c N wr ∧ Inv T ∧ 16777216 ≤ T.rng ∧ Probs N ∧ N.length = 145 ∧ T.buf.length + gk ≤ buf.length + 6))
  case atStart =>
    obtain ⟨g1, g2, g3, g4, g5⟩ := HH.out
    exact ⟨1, ⟨buf, lo, rg⟩, M, r, rfl, rfl, rfl, rfl, Nat.le_refl _, (show (1 + 1) * 2 ^ 6 ≤ 128 by decide), rfl, g1, (Moved.refl _ _ _ _).drewN nq, g3, g2, r0', g4, g5, Nat.le_refl _⟩
  case round =>
    obtain ⟨node, T, N, r', hk, rfl, rfl, rfl, hg6, hnd, htr, hfx⟩ := hrel
    cases gk with
    | zero =>
      obtain rfl : _ = Value.int .i64 (-1) := hk
      obtain ⟨tb, tl, tr⟩ := T
      obtain ⟨gE, gMv, gMod, gI, gR, gP, gL, gB⟩ := hfx.out
      have ht : ((⟨tb, tl, tr⟩ : St), N) = treeRun 6 1 v ⟨buf, lo, rg⟩ M := htr.out
      obtain ⟨_, c2, c3, cf'⟩ := gE.cells
      have HF : Hid (EncAt B b r' tb lo rg wr ∧ Moved b r (some c) w wr r' ∧ ModAt c N wr ∧ ((⟨tb, tl, tr⟩ : St), N) = treeRun 6 1 v ⟨buf, lo, rg⟩ M) := ⟨gE, gMv, gMod, ht⟩
      clear gE gMv gMod gI gR gP gL gB ht htr hfx hnd
      go_wp2
      go_end0
      obtain ⟨f1, f2, f3, f4⟩ := HF.out
      rw [← f4]
      obtain ⟨a1, a2, a3⟩ := enc_fin f1 f2 (c := c) f3 hcb tl tr
      exact ⟨rfl, r', a1, a2, a3⟩
    | succ k =>
      obtain rfl : _ = Value.int .i64 (k : Int) := hk.trans (by congr 1; omega)
      clear hk
      obtain ⟨tb, tl, tr⟩ := T
      obtain ⟨gE, gMv, gMod, gI, gR, gP, gL, gB⟩ := hfx.out
      have hn64 : node < 64 := by
        have := hnd.out
        have h2 : (node + 1) * 2 ≤ (node + 1) * 2 ^ (k + 1) := Nat.mul_le_mul_left _ (by rw [Nat.pow_succ]; have := Nat.one_le_two_pow (n := k); omega)
        omega
      have hcell := gMod.cell (i := node) (by omega)
      have hfz := gMod.frozen node
      have hpr := gP.getD (i := node) (by omega)
      obtain ⟨bt, hbt⟩ : ∃ bt, bt = bitAt v k := ⟨_, rfl⟩
      have hb01 : bt = 0 ∨ bt = 1 := by rw [hbt]; exact bitAt_bd v k
      have heb : bits .and .u64 ((v : Int) / 2 ^ k) 1 = (bt : Int) := by rw [hbt]; exact and_shift v k hv
      have hor : bits .or .u64 ((node : Int) * 2) (bt : Int) = ((2 * node + bt : Nat) : Int) := or_bit node bt (by omega) hb01
      have hstep : treeRun k (2 * node + bt) v (encS ⟨tb, tl, tr⟩ (N.getD node 0) bt) (N.set node (adapt (N.getD node 0) bt)) = treeRun 6 1 v ⟨buf, lo, rg⟩ M := by
        rw [← htr.out, hbt]; rfl
      have hst := step_inv ⟨tb, tl, tr⟩ (N.getD node 0) bt gI gR hpr
      have hen := enc_inv ⟨tb, tl, tr⟩ (N.getD node 0) bt gI gR hpr
      have hel := enc_length ⟨tb, tl, tr⟩ (N.getD node 0) bt
      have had := adapt_prob (N.getD node 0) bt hpr
      have hnd2 : (2 * node + bt + 1) * 2 ^ k ≤ 128 := by
        have h1 := hnd.out
        rw [Nat.pow_succ] at h1
        have h2 : (2 * node + bt + 1) * 2 ^ k ≤ (2 * node + 2) * 2 ^ k := Nat.mul_le_mul_right _ (by omega)
        have h3 : (2 * node + 2) * 2 ^ k = (node + 1) * (2 ^ k * 2) := by rw [show 2 * node + 2 = (node + 1) * 2 by omega, Nat.mul_assoc, Nat.mul_comm 2]
        omega
      generalize N.getD node 0 = x at *
      have HX : Hid (treeRun k (2 * node + bt) v (encS ⟨tb, tl, tr⟩ x bt) (N.set node (adapt x bt)) = treeRun 6 1 v ⟨buf, lo, rg⟩ M ∧ (2 * node + bt + 1) * 2 ^ k ≤ 128 ∧ Inv (encS ⟨tb, tl, tr⟩ x bt) ∧ 16777216 ≤ (encS ⟨tb, tl, tr⟩ x bt).rng ∧ (encS ⟨tb, tl, tr⟩ x bt).buf.length ≤ tb.length + 1 ∧ Prob (adapt x bt) ∧ Inv (stepS ⟨tb, tl, tr⟩ x bt)) := ⟨hstep, hnd2, hen.1, hen.2, hel, had, hst.1⟩
      have HY : Hid (Inv ⟨tb, tl, tr⟩ ∧ Prob x ∧ ((bt : Int) = 0 ∨ (bt : Int) = 1) ∧ wr.cell? ⟨c, node, none⟩ = some (.int .u16 x) ∧ wr.frozen? ⟨c, node, none⟩ = false) := ⟨gI, hpr, by omega, hcell, hfz⟩
      have gR' : 16777216 ≤ tr := gR
      have hcw : c < wr.heap.size := gMod.lt
      have HB : Hid (bt = bitAt v k) := hbt
      clear hst hen hel had hnd2 hstep gE gMv gMod gI gR gP gL gB hcell hfz hpr hbt htr hnd
      go_wp2_with fail
      refine (step_any c node tb tl tr x (bt : Int) _ HY.out.1 gR' HY.out.2.1 HY.out.2.2.1 HY.out.2.2.2.1 HY.out.2.2.2.2).mono ?_
      rintro e w1 ⟨rfl, rfl⟩
      have HE : Hid (encS ⟨tb, tl, tr⟩ x bt = normS (stepS ⟨tb, tl, tr⟩ x bt) ∧ (stepS ⟨tb, tl, tr⟩ x bt).buf = tb ∧ Inv (stepS ⟨tb, tl, tr⟩ x bt)) := ⟨rfl, step_buf _ _ _, HX.out.2.2.2.2.2.2⟩
      generalize hS : stepS ⟨tb, tl, tr⟩ x (bt : Int) = Z at *
      have HZ : Hid (stepS ⟨tb, tl, tr⟩ x (bt : Int) = Z) := hS
      clear hS
      obtain ⟨zb, zl, zr⟩ := Z
      obtain rfl : zb = tb := HE.out.2.1
      generalize adapt x (bt : Int) = x' at *
      by_cases hn : zr < 16777216
      · go_wp2_with fail
        obtain ⟨gE, gMv, gMod, gI, gR, gP, gL, gB⟩ := hfx.out
        have hrc : r' ≠ some c := gMv.row_ne HH.out.2.2.1.lt hcr
        refine (shift_any B b r' zb lo rg zl zr _ (gE.setOther c node _ hcb hrc) HE.out.2.2 hn (by have : zb.length + (k + 1) ≤ buf.length + 6 := gB; omega)).mono ?_
        rintro e w1 ⟨rfl, r2, hE2, hM2⟩
        have hT : encS ⟨zb, tl, tr⟩ x (bt : Int) = shiftS ⟨zb, zl, zr⟩ := HE.out.1.trans (by unfold normS; rw [if_pos hn])
        have hx := HX.out
        rw [hT] at hx
        have hmod2 : ModAt c (N.set node x') w1 := gMod.stored node x' (by
          show w1.heap[c]? = (wr.setCell ⟨c, node, none⟩ (.int .u16 x')).heap[c]?
          exact hM2.block (by simp [World.setCell]; exact hcw) hcb hrc (by simp))
        have hmv2 : Moved b r (some c) w w1 r2 := (gMv.setB c node _ (.inr rfl)).trans hM2.mono
        have HF : Hid (treeRun k (2 * node + bt) v (shiftS ⟨zb, zl, zr⟩) (N.set node x') = treeRun 6 1 v ⟨buf, lo, rg⟩ M ∧ (2 * node + bt + 1) * 2 ^ k ≤ 128 ∧ EncAt B b r2 (shiftS ⟨zb, zl, zr⟩).buf lo rg w1 ∧ Moved b r (some c) w w1 r2 ∧ ModAt c (N.set node x') w1 ∧ Inv (shiftS ⟨zb, zl, zr⟩) ∧ 16777216 ≤ (shiftS ⟨zb, zl, zr⟩).rng ∧ Probs (N.set node x') ∧ (N.set node x').length = 145 ∧ (shiftS ⟨zb, zl, zr⟩).buf.length + k ≤ buf.length + 6) :=
          ⟨hx.1, hx.2.1, hE2, hmv2, hmod2, hx.2.2.1, hx.2.2.2.1, gP.set node hx.2.2.2.2.2.1, by simpa using gL, by have h1 := hx.2.2.2.2.1; have h2 : zb.length + (k + 1) ≤ buf.length + 6 := gB; have h3 : (⟨zb, tl, tr⟩ : St).buf.length = zb.length := rfl; omega⟩
        clear gE gMv gMod gI gR gP gL gB hE2 hM2 hT hx hmod2 hmv2 hfx HX HY HE HZ hrc
        generalize shiftS ⟨zb, zl, zr⟩ = T2 at *
        go_wp2
        go_roundg k
        case measure => omega
        case rel =>
          obtain ⟨f1, f2, f3⟩ := HF.out
          exact ⟨2 * node + bt, T2, N.set node x', r2, rfl, by go_num, rfl, rfl, by omega, f2, f1, f3⟩
      · obtain ⟨gE, gMv, gMod, gI, gR, gP, gL, gB⟩ := hfx.out
        have hrc : r' ≠ some c := gMv.row_ne HH.out.2.2.1.lt hcr
        have hT : encS ⟨zb, tl, tr⟩ x (bt : Int) = ⟨zb, zl, zr⟩ := HE.out.1.trans (by unfold normS; rw [if_neg hn])
        have hx := HX.out
        rw [hT] at hx
        have HF : Hid (treeRun k (2 * node + bt) v ⟨zb, zl, zr⟩ (N.set node x') = treeRun 6 1 v ⟨buf, lo, rg⟩ M ∧ (2 * node + bt + 1) * 2 ^ k ≤ 128 ∧ EncAt B b r' zb lo rg (wr.setCell ⟨c, node, none⟩ (.int .u16 x')) ∧ Moved b r (some c) w (wr.setCell ⟨c, node, none⟩ (.int .u16 x')) r' ∧ ModAt c (N.set node x') (wr.setCell ⟨c, node, none⟩ (.int .u16 x')) ∧ Inv ⟨zb, zl, zr⟩ ∧ 16777216 ≤ zr ∧ Probs (N.set node x') ∧ (N.set node x').length = 145 ∧ zb.length + k ≤ buf.length + 6) :=
          ⟨hx.1, hx.2.1, gE.setOther c node _ hcb hrc, gMv.setB c node _ (.inr rfl), gMod.stored node x' rfl, hx.2.2.1, hx.2.2.2.1, gP.set node hx.2.2.2.2.2.1, by simpa using gL, by have h2 : zb.length + (k + 1) ≤ buf.length + 6 := gB; omega⟩
        clear gE gMv gMod gI gR gP gL gB hT hx hfx HX HY HE HZ hrc
        go_wp2
        go_roundg k
        case measure => omega
        case rel =>
          obtain ⟨f1, f2, f3⟩ := HF.out
          exact ⟨2 * node + bt, ⟨zb, zl, zr⟩, N.set node x', r', rfl, by go_num, rfl, rfl, by omega, f2, f1, f3⟩
end Go.Proofs.Ybulkalfa
