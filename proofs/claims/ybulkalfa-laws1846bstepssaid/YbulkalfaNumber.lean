/-
  b1846a: encodeTail (21), encodeNumber (10): the walks, and their plain functions.
-/
import Derived.Test.YbulkalfaBits
import Derived.Test.YbulkalfaShelf
namespace Go.Proofs.Ybulkalfa
open Go.RowKit
set_option linter.unusedVariables false
set_option linter.unusedSimpArgs false

/-! ### Plain -/
def tailRun (z n : Nat) (S : St) (M : List Int) : St × List Int :=
  if n < 2 then (S, M) else
  (if 3 ≤ n then bitsRun 8 z (n - 2) (encS S (M.getD (64 + n) 0) (bitAt z (n - 2))) else encS S (M.getD (64 + n) 0) (bitAt z (n - 2)), M.set (64 + n) (adapt (M.getD (64 + n) 0) (bitAt z (n - 2))))
/-- n - 1, as a uint. -/
def less1 (n : Nat) : Nat := (n + 18446744073709551615) % 18446744073709551616
def numRun (z n : Nat) (S : St) (M : List Int) : St × List Int := tailRun z n (treeRun 6 1 (less1 n) S M).1 (treeRun 6 1 (less1 n) S M).2

theorem tree_inv : ∀ (k node v : Nat) (S : St) (M : List Int), Inv S → 16777216 ≤ S.rng → Probs M → (node + 1) * 2 ^ k ≤ M.length →
    Inv (treeRun k node v S M).1 ∧ 16777216 ≤ (treeRun k node v S M).1.rng ∧ Probs (treeRun k node v S M).2 ∧ (treeRun k node v S M).2.length = M.length ∧ (treeRun k node v S M).1.buf.length ≤ S.buf.length + k
  | 0, node, v, S, M, h, hr, hP, hn => ⟨h, hr, hP, rfl, Nat.le_refl _⟩
  | k + 1, node, v, S, M, h, hr, hP, hn => by
    have hp1 := Nat.one_le_two_pow (n := k)
    have h1 : (node + 1) * 2 ^ (k + 1) = (2 * node + 2) * 2 ^ k := by rw [Nat.pow_succ, show 2 * node + 2 = (node + 1) * 2 by omega, Nat.mul_assoc, Nat.mul_comm 2]
    have hlt : node < M.length := by
      have h2 : (2 * node + 2) * 1 ≤ (2 * node + 2) * 2 ^ k := Nat.mul_le_mul_left _ hp1
      omega
    have hb := bitAt_bd v k
    obtain ⟨e1, e2⟩ := enc_inv S (M.getD node 0) (bitAt v k) h hr (hP.getD hlt)
    have e3 := enc_length S (M.getD node 0) (bitAt v k)
    have h3 : (2 * node + bitAt v k + 1) * 2 ^ k ≤ (2 * node + 2) * 2 ^ k := Nat.mul_le_mul_right _ (by omega)
    obtain ⟨a, b, c, d, e⟩ := tree_inv k (2 * node + bitAt v k) v (encS S (M.getD node 0) (bitAt v k)) (M.set node (adapt (M.getD node 0) (bitAt v k))) e1 e2 (hP.set node (adapt_prob _ _ (hP.getD hlt))) (by rw [List.length_set]; omega)
    refine ⟨a, b, c, by rw [List.length_set] at d; exact d, ?_⟩
    show (treeRun k _ v _ _).1.buf.length ≤ _
    omega

set_option maxHeartbeats 1000000 in
set_option maxRecDepth 100000 in
theorem tail_any (B b : Nat) (r : Option Nat) (S : St) (c : Nat) (M : List Int) (z n : Nat) (w : World) (h : EncAt B b r S.buf S.low S.rng w) (hI : Inv S) (r0 : 16777216 ≤ S.rng) (hM : ModAt c M w) (hP : Probs M) (hML : M.length = 145)
    (hz : z < 18446744073709551616) (hn : n ≤ 64) (hcb : c ≠ b) (hcr : r ≠ some c) (hlen : S.buf.length ≤ 800000) :
    Calls Yba.prog 21 #[.pointer (some ⟨b, 0, none⟩), .pointer (some ⟨c, 0, none⟩), .int .u64 z, .int .u64 n] w fun e w' =>
      e = .returned (.tuple #[]) ∧ ∃ r', EncAt B b r' (tailRun z n S M).1.buf (tailRun z n S M).1.low (tailRun z n S M).1.rng w' ∧ Moved b r (some c) w w' r' ∧ ModAt c (tailRun z n S M).2 w' := by
  by_cases hn2 : n < 2
  · have e : tailRun z n S M = (S, M) := by unfold tailRun; rw [if_pos hn2]
    rw [e]
    have HH : Hid (EncAt B b r S.buf S.low S.rng w ∧ ModAt c M w) := ⟨h, hM⟩
    have hni : (n : Int) < 2 := by omega
    clear h hI hM hP hML e
    go_enter Yba.func21, Yba.ntmps21
    go_wp2
    exact bodyPost_ret (v := .tuple #[]) (results_none rfl _ _ _) rfl ⟨rfl, r, HH.out.1, Moved.refl _ _ _ _, HH.out.2⟩
  · have hcell := hM.cell (i := 64 + n) (by omega)
    have hfz := hM.frozen (64 + n)
    have hpr := hP.getD (i := 64 + n) (by omega)
    obtain ⟨bt, hbt⟩ : ∃ bt, bt = bitAt z (n - 2) := ⟨_, rfl⟩
    have hb01 : bt = 0 ∨ bt = 1 := by rw [hbt]; exact bitAt_bd z (n - 2)
    have heb : bits .and .u64 ((z : Int) / 2 ^ (n - 2)) 1 = (bt : Int) := by rw [hbt]; exact and_shift z (n - 2) hz
    have eT : tailRun z n S M = (if 3 ≤ n then bitsRun 8 z (n - 2) (encS S (M.getD (64 + n) 0) bt) else encS S (M.getD (64 + n) 0) bt, M.set (64 + n) (adapt (M.getD (64 + n) 0) bt)) := by unfold tailRun; rw [if_neg hn2, hbt]
    rw [eT]
    have hen := enc_inv S (M.getD (64 + n) 0) bt hI r0 hpr
    have hel := enc_length S (M.getD (64 + n) 0) bt
    generalize M.getD (64 + n) 0 = x at *
    have hlt := hM.lt
    have HH : Hid (EncAt B b r S.buf S.low S.rng w ∧ Inv S ∧ 16777216 ≤ S.rng ∧ ModAt c M w ∧ Prob x ∧ w.cell? ⟨c, 64 + n, none⟩ = some (.int .u16 x) ∧ w.frozen? ⟨c, 64 + n, none⟩ = false) := ⟨h, hI, r0, hM, hpr, hcell, hfz⟩
    have HE : Hid (Inv (encS S x bt) ∧ 16777216 ≤ (encS S x bt).rng ∧ (encS S x bt).buf.length ≤ S.buf.length + 1) := ⟨hen.1, hen.2, hel⟩
    obtain ⟨buf, lo, rg⟩ := S
    have hn2i : ¬ (n : Int) < 2 := by omega
    have hlen' : buf.length ≤ 800000 := hlen
    clear h hI r0 hM hP hpr hcell hfz hen hel eT hbt hlen
    by_cases hn3 : 3 ≤ n
    · have hn3i : (3 : Int) ≤ (n : Int) := by omega
      go_enter Yba.func21, Yba.ntmps21
      go_wp2_with fail
      refine (encode_any B b r buf lo rg c (64 + n) x (bt : Int) _ HH.out.1 HH.out.2.1 HH.out.2.2.1 HH.out.2.2.2.2.1 (by omega) HH.out.2.2.2.2.2.1 HH.out.2.2.2.2.2.2 hcb hcr hlt (by omega)).mono ?_
      rintro e w1 ⟨rfl, r1, hE1, hM1, hblk⟩
      have HF : Hid (EncAt B b r1 (encS ⟨buf, lo, rg⟩ x bt).buf (encS ⟨buf, lo, rg⟩ x bt).low (encS ⟨buf, lo, rg⟩ x bt).rng w1 ∧ Moved b r (some c) w w1 r1 ∧ ModAt c (M.set (64 + n) (adapt x bt)) w1) := ⟨hE1, hM1, HH.out.2.2.2.1.stored _ _ hblk⟩
      clear hE1 hM1 hblk
      go_wp2_with fail
      rw [show ((n : Int) - 2) = ((n - 2 : Nat) : Int) by omega]
      refine (bits_any B b r1 (encS ⟨buf, lo, rg⟩ x bt) z (n - 2) _ HF.out.1 HE.out.1 HE.out.2.1 hz (by omega) (by have h1 := HE.out.2.2; have h2 : (⟨buf, lo, rg⟩ : St).buf.length = buf.length := rfl; omega)).mono ?_
      rintro e w2 ⟨rfl, r2, hE2, hM2⟩
      have hlt1 : c < w1.heap.size := HF.out.2.2.lt
      have hrc1 : r1 ≠ some c := HF.out.2.1.row_ne hlt hcr
      have HG : Hid (EncAt B b r2 (bitsRun 8 z (n - 2) (encS ⟨buf, lo, rg⟩ x bt)).buf (bitsRun 8 z (n - 2) (encS ⟨buf, lo, rg⟩ x bt)).low (bitsRun 8 z (n - 2) (encS ⟨buf, lo, rg⟩ x bt)).rng w2 ∧ Moved b r (some c) w w2 r2 ∧ ModAt c (M.set (64 + n) (adapt x bt)) w2) :=
        ⟨hE2, HF.out.2.1.trans hM2.mono, HF.out.2.2.kept (hM2.block hlt1 hcb hrc1 (by simp))⟩
      clear hE2 hM2 HF HE HH
      go_wp2
      go_end0
      exact ⟨rfl, r2, HG.out⟩
    · have hn3i : ¬ (3 : Int) ≤ (n : Int) := by omega
      go_enter Yba.func21, Yba.ntmps21
      go_wp2_with fail
      refine (encode_any B b r buf lo rg c (64 + n) x (bt : Int) _ HH.out.1 HH.out.2.1 HH.out.2.2.1 HH.out.2.2.2.2.1 (by omega) HH.out.2.2.2.2.2.1 HH.out.2.2.2.2.2.2 hcb hcr hlt (by omega)).mono ?_
      rintro e w1 ⟨rfl, r1, hE1, hM1, hblk⟩
      have HF : Hid (EncAt B b r1 (encS ⟨buf, lo, rg⟩ x bt).buf (encS ⟨buf, lo, rg⟩ x bt).low (encS ⟨buf, lo, rg⟩ x bt).rng w1 ∧ Moved b r (some c) w w1 r1 ∧ ModAt c (M.set (64 + n) (adapt x bt)) w1) := ⟨hE1, hM1, HH.out.2.2.2.1.stored _ _ hblk⟩
      clear hE1 hM1 hblk
      go_wp2
      go_end0
      exact ⟨rfl, r1, HF.out⟩

theorem bitLen_64 (z : Nat) (hz : z < 18446744073709551616) : Lib.bitLen z ≤ 64 := Lib.bitLen_le z 64 (Nat.le_refl _) hz

set_option maxHeartbeats 1000000 in
set_option maxRecDepth 100000 in
theorem number_any (B b : Nat) (r : Option Nat) (S : St) (c : Nat) (M : List Int) (z : Nat) (w : World) (h : EncAt B b r S.buf S.low S.rng w) (hI : Inv S) (r0 : 16777216 ≤ S.rng) (hM : ModAt c M w) (hP : Probs M) (hML : M.length = 145)
    (hz : z < 18446744073709551616) (hcb : c ≠ b) (hcr : r ≠ some c) (hlen : S.buf.length ≤ 700000) :
    Calls Yba.prog 10 #[.pointer (some ⟨b, 0, none⟩), .pointer (some ⟨c, 0, none⟩), .int .u64 z] w fun e w' =>
      e = .returned (.tuple #[]) ∧ ∃ r', EncAt B b r' (numRun z (Lib.bitLen z) S M).1.buf (numRun z (Lib.bitLen z) S M).1.low (numRun z (Lib.bitLen z) S M).1.rng w' ∧ Moved b r (some c) w w' r' ∧ ModAt c (numRun z (Lib.bitLen z) S M).2 w' := by
  have hn := bitLen_64 z hz
  have HN : Hid (numRun z (Lib.bitLen z) S M = tailRun z (Lib.bitLen z) (treeRun 6 1 (less1 (Lib.bitLen z)) S M).1 (treeRun 6 1 (less1 (Lib.bitLen z)) S M).2) := rfl
  rw [HN.out]
  have hti := tree_inv 6 1 (less1 (Lib.bitLen z)) S M hI r0 hP (by rw [hML]; decide)
  have HLN : Hid (Lib.bitLen ((z : Int)).toNat = Lib.bitLen z) := by rw [Int.toNat_natCast]; exact rfl
  generalize Lib.bitLen z = n at *
  have hl1 : less1 n < 18446744073709551616 := Nat.mod_lt _ (by omega)
  have HW : Hid (IntKind.u64.wrap ((n : Int) - 1) = ((less1 n : Nat) : Int)) := by
    show IntKind.u64.wrap ((n : Int) - 1) = ((less1 n : Nat) : Int)
    rw [IntKind.wrap_u64]; unfold less1; omega
  have hlt := hM.lt
  have HH : Hid (EncAt B b r S.buf S.low S.rng w ∧ Inv S ∧ 16777216 ≤ S.rng ∧ ModAt c M w ∧ Probs M ∧ M.length = 145) := ⟨h, hI, r0, hM, hP, hML⟩
  have HT : Hid (Inv (treeRun 6 1 (less1 n) S M).1 ∧ 16777216 ≤ (treeRun 6 1 (less1 n) S M).1.rng ∧ Probs (treeRun 6 1 (less1 n) S M).2 ∧ (treeRun 6 1 (less1 n) S M).2.length = 145 ∧ (treeRun 6 1 (less1 n) S M).1.buf.length ≤ S.buf.length + 6) :=
    ⟨hti.1, hti.2.1, hti.2.2.1, hti.2.2.2.1.trans hML, hti.2.2.2.2⟩
  clear h hI r0 hM hP hML HN hti
  go_enter Yba.func10, Yba.ntmps10
  go_wp2_with fail
  refine (Yba.bits_Len64 z _ (by omega) (by omega)).mono ?_
  rintro e w0 ⟨rfl, hw0⟩
  subst hw0
  rw [HLN.out]
  go_wp2_with fail
  rw [HW.out]
  refine (tree_any B b r S c M (less1 n) _ HH.out.1 HH.out.2.1 HH.out.2.2.1 HH.out.2.2.2.1 HH.out.2.2.2.2.1 HH.out.2.2.2.2.2 hl1 hcb hcr (by omega)).mono ?_
  rintro e w1 ⟨rfl, r1, hE1, hM1, hA1⟩
  have hrc1 : r1 ≠ some c := hM1.row_ne hlt hcr
  have HF : Hid (EncAt B b r1 (treeRun 6 1 (less1 n) S M).1.buf (treeRun 6 1 (less1 n) S M).1.low (treeRun 6 1 (less1 n) S M).1.rng w1 ∧ Moved b r (some c) w0 w1 r1 ∧ ModAt c (treeRun 6 1 (less1 n) S M).2 w1) := ⟨hE1, hM1, hA1⟩
  clear hE1 hM1 hA1
  generalize hT : treeRun 6 1 (less1 n) S M = T at *
  obtain ⟨T, N⟩ := T
  have HTE : Hid (treeRun 6 1 (less1 n) S M = (T, N)) := hT
  clear hT
  go_wp2_with fail
  refine (tail_any B b r1 T c N z n _ HF.out.1 HT.out.1 HT.out.2.1 HF.out.2.2 HT.out.2.2.1 HT.out.2.2.2.1 hz hn hcb hrc1 (by have := HT.out.2.2.2.2; omega)).mono ?_
  rintro e w2 ⟨rfl, r2, hE2, hM2, hA2⟩
  have HG : Hid (EncAt B b r2 (tailRun z n T N).1.buf (tailRun z n T N).1.low (tailRun z n T N).1.rng w2 ∧ Moved b r (some c) w0 w2 r2 ∧ ModAt c (tailRun z n T N).2 w2) := ⟨hE2, HF.out.2.1.trans hM2, hA2⟩
  clear hE2 hM2 hA2 HF HT HH
  go_wp2
  go_end0
  rw [HTE.out]
  exact ⟨rfl, r2, HG.out⟩
end Go.Proofs.Ybulkalfa
