/-
  b1846a: step (22), encode (13): the walks.
-/
import Derived.Test.YbulkalfaShift
import Derived.Laws.BitsAllLaws
import Derived.Deep.RegionWith
namespace Go.Proofs.Ybulkalfa
open Go.RowKit
set_option linter.unusedVariables false
set_option linter.unusedSimpArgs false

theorem and_ones (x : Int) (h0 : 0 ≤ x) (h1 : x ≤ 4294967295) : bits .and .u32 x 4294967295 = x := by
  obtain ⟨n, rfl⟩ := Int.eq_ofNat_of_zero_le h0
  rw [show (4294967295 : Int) = ((4294967295 : Nat) : Int) from rfl, u32_and_nat _ _ (by omega) (by omega)]
  have := Nat.and_two_pow_sub_one_eq_mod n 32
  rw [show 2 ^ 32 - 1 = 4294967295 from rfl, show 2 ^ 32 = 4294967296 from rfl] at this
  rw [this]
  omega
theorem and_none (x : Int) (h0 : 0 ≤ x) (h1 : x ≤ 4294967295) : bits .and .u32 x 0 = 0 := by
  obtain ⟨n, rfl⟩ := Int.eq_ofNat_of_zero_le h0
  rw [show (0 : Int) = ((0 : Nat) : Int) from rfl, u32_and_nat _ _ (by omega) (by omega)]
  simp
theorem andNot_ones (x : Int) (h0 : 0 ≤ x) (h1 : x ≤ 4294967295) : bits .andNot .u32 x 4294967295 = 0 := by
  obtain ⟨n, rfl⟩ := Int.eq_ofNat_of_zero_le h0
  rw [show (4294967295 : Int) = ((4294967295 : Nat) : Int) from rfl, u32_andNot_nat _ _ (by omega) (by omega)]
  simp
theorem andNot_none (x : Int) (h0 : 0 ≤ x) (h1 : x ≤ 4294967295) : bits .andNot .u32 x 0 = x := by
  obtain ⟨n, rfl⟩ := Int.eq_ofNat_of_zero_le h0
  rw [show (0 : Int) = ((0 : Nat) : Int) from rfl, u32_andNot_nat _ _ (by omega) (by omega)]
  have := Nat.and_two_pow_sub_one_eq_mod n 32
  rw [show 2 ^ 32 - 1 = 4294967295 from rfl, show 2 ^ 32 = 4294967296 from rfl] at this
  rw [Nat.sub_zero, this]
  omega

set_option maxHeartbeats 1000000 in
theorem step_zero (c i : Nat) (low rng v : Int) (w : World) (l0 : 0 ≤ low) (l1 : low + rng ≤ 8589934592) (r0 : 16777216 ≤ rng) (r1 : rng ≤ 4294967295) (hv : Prob v)
    (hc : w.cell? ⟨c, i, none⟩ = some (.int .u16 v)) (hf : w.frozen? ⟨c, i, none⟩ = false) :
    Calls Yba.prog 22 #[.int .u64 low, .int .u32 rng, .pointer (some ⟨c, i, none⟩), .int .u64 0] w fun e w' =>
      e = .returned (.tuple #[.int .u64 low, .int .u32 (rng / 4096 * v)]) ∧ w' = w.setCell ⟨c, i, none⟩ (.int .u16 (adapt v 0)) := by
  obtain ⟨b0, b1⟩ := bound_bd rng v r0 hv
  obtain ⟨v0, v1⟩ := hv
  have HA : Hid (adapt v 0 = v + (4080 - v) / 16) := by unfold adapt; rw [if_pos rfl]; exact rfl
  go_enter Yba.func22, Yba.ntmps22
  go_wp2
  go_ret2
  refine ⟨ret2_int ?_ ?_, ?_⟩
  · rw [and_none _ (by omega) (by omega)]
    simp only [IntKind.wrap_u64]
    omega
  · rw [and_none _ (by omega) (by omega)]
    omega
  · rw [HA.out, andNot_none _ (by omega) (by omega), and_none _ (by omega) (by omega), IntKind.wrap_u16]
    congr 2
    omega

set_option maxHeartbeats 1000000 in
theorem step_one (c i : Nat) (low rng v : Int) (w : World) (l0 : 0 ≤ low) (l1 : low + rng ≤ 8589934592) (r0 : 16777216 ≤ rng) (r1 : rng ≤ 4294967295) (hv : Prob v)
    (hc : w.cell? ⟨c, i, none⟩ = some (.int .u16 v)) (hf : w.frozen? ⟨c, i, none⟩ = false) :
    Calls Yba.prog 22 #[.int .u64 low, .int .u32 rng, .pointer (some ⟨c, i, none⟩), .int .u64 1] w fun e w' =>
      e = .returned (.tuple #[.int .u64 (low + rng / 4096 * v), .int .u32 (rng - rng / 4096 * v)]) ∧ w' = w.setCell ⟨c, i, none⟩ (.int .u16 (adapt v 1)) := by
  obtain ⟨b0, b1⟩ := bound_bd rng v r0 hv
  obtain ⟨v0, v1⟩ := hv
  have HA : Hid (adapt v 1 = v - (v - 16) / 16) := by unfold adapt; rw [if_neg (by decide)]; exact rfl
  go_enter Yba.func22, Yba.ntmps22
  go_wp2
  go_ret2
  refine ⟨ret2_int ?_ ?_, ?_⟩
  · rw [and_ones _ (by omega) (by omega)]
    simp only [IntKind.wrap_u64]
    omega
  · rw [and_ones _ (by omega) (by omega)]
    omega
  · rw [HA.out, andNot_ones _ (by omega) (by omega)]
    rw [and_ones _ (by omega) (by omega), IntKind.wrap_u16]
    congr 2
    omega

theorem step_any (c i : Nat) (buf : List Int) (low rng v bit : Int) (w : World) (hI : Inv ⟨buf, low, rng⟩) (r0 : 16777216 ≤ rng) (hv : Prob v) (hb : bit = 0 ∨ bit = 1)
    (hc : w.cell? ⟨c, i, none⟩ = some (.int .u16 v)) (hf : w.frozen? ⟨c, i, none⟩ = false) :
    Calls Yba.prog 22 #[.int .u64 low, .int .u32 rng, .pointer (some ⟨c, i, none⟩), .int .u64 bit] w fun e w' =>
      e = .returned (.tuple #[.int .u64 (stepS ⟨buf, low, rng⟩ v bit).low, .int .u32 (stepS ⟨buf, low, rng⟩ v bit).rng]) ∧ w' = w.setCell ⟨c, i, none⟩ (.int .u16 (adapt v bit)) := by
  rcases hb with rfl | rfl
  · exact step_zero c i low rng v w hI.low0 hI.sum r0 hI.rng1 hv hc hf
  · exact step_one c i low rng v w hI.low0 hI.sum r0 hI.rng1 hv hc hf

set_option maxHeartbeats 1000000 in
set_option maxRecDepth 100000 in
theorem encode_any (B b : Nat) (r : Option Nat) (buf : List Int) (lo rg : Int) (c i : Nat) (v bit : Int) (w : World) (h : EncAt B b r buf lo rg w) (hI : Inv ⟨buf, lo, rg⟩) (r0 : 16777216 ≤ rg) (hv : Prob v) (hbit : bit = 0 ∨ bit = 1)
    (hc : w.cell? ⟨c, i, none⟩ = some (.int .u16 v)) (hf : w.frozen? ⟨c, i, none⟩ = false) (hcb : c ≠ b) (hcr : r ≠ some c) (hcs : c < w.heap.size) (hlen : buf.length ≤ 1000000) :
    Calls Yba.prog 13 #[.pointer (some ⟨b, 0, none⟩), .pointer (some ⟨c, i, none⟩), .int .u64 bit] w fun e w' =>
      e = .returned (.tuple #[]) ∧ ∃ r', EncAt B b r' (encS ⟨buf, lo, rg⟩ v bit).buf (encS ⟨buf, lo, rg⟩ v bit).low (encS ⟨buf, lo, rg⟩ v bit).rng w' ∧ Moved b r (some c) w w' r' ∧
        blockOf w' c = blockOf (w.setCell ⟨c, i, none⟩ (.int .u16 (adapt v bit))) c := by
  obtain ⟨_, c2, c3, cf⟩ := h.cells
  have hst := step_inv ⟨buf, lo, rg⟩ v bit hI r0 hv
  have hbuf := step_buf ⟨buf, lo, rg⟩ v bit
  have HST : Hid (Inv (stepS ⟨buf, lo, rg⟩ v bit)) := hst.1
  have HH : Hid (EncAt B b r buf lo rg w ∧ Inv ⟨buf, lo, rg⟩ ∧ Prob v ∧ (bit = 0 ∨ bit = 1) ∧ w.cell? ⟨c, i, none⟩ = some (.int .u16 v) ∧ w.frozen? ⟨c, i, none⟩ = false) := ⟨h, hI, hv, hbit, hc, hf⟩
  have HSC : Hid (∀ (W : World), W.cell? ⟨c, i, none⟩ = some (.int .u16 v) → W.frozen? ⟨c, i, none⟩ = false → Calls Yba.prog 22 #[.int .u64 lo, .int .u32 rg, .pointer (some ⟨c, i, none⟩), .int .u64 bit] W fun e w' =>
      e = .returned (.tuple #[.int .u64 (stepS ⟨buf, lo, rg⟩ v bit).low, .int .u32 (stepS ⟨buf, lo, rg⟩ v bit).rng]) ∧ w' = W.setCell ⟨c, i, none⟩ (.int .u16 (adapt v bit))) :=
    fun W h1 h2 => step_any c i buf lo rg v bit W hI r0 hv hbit h1 h2
  obtain ⟨s0, s1⟩ : 0 ≤ (stepS ⟨buf, lo, rg⟩ v bit).low ∧ 1 ≤ (stepS ⟨buf, lo, rg⟩ v bit).rng := ⟨hst.1.low0, hst.1.rng0⟩
  have HE : Hid (encS ⟨buf, lo, rg⟩ v bit = normS (stepS ⟨buf, lo, rg⟩ v bit)) := rfl
  rw [HE.out]
  have HBF : Hid ((stepS ⟨buf, lo, rg⟩ v bit).buf = buf) := hbuf
  clear h hI hv hbit hst hbuf HE
  generalize stepS ⟨buf, lo, rg⟩ v bit = S at *
  obtain ⟨sb, sl, sr⟩ := S
  obtain rfl : sb = buf := HBF.out
  generalize adapt v bit = v' at *
  go_enter Yba.func13, Yba.ntmps13
  go_wp2_with fail
  go_region_with (go_at_call 22; refine (HSC.out _ (by exact hc) (by exact hf)).mono ?_; rintro e w' ⟨rfl, rfl⟩)
  all_goals
    have hE1 : EncAt B b r sb lo rg (w.setCell ⟨c, i, none⟩ (.int .u16 v')).drew := (HH.out.1.setOther c i _ hcb hcr).drew
    have hM1 : Moved b r (some c) w (w.setCell ⟨c, i, none⟩ (.int .u16 v')).drew r := ((Moved.refl b r (some c) w).setCell c i _ (.inr (.inr rfl))).drew
    by_cases hn : sr < 16777216
    · have HF : Hid (EncAt B b r sb lo rg (w.setCell ⟨c, i, none⟩ (.int .u16 v')).drew ∧ Moved b r (some c) w (w.setCell ⟨c, i, none⟩ (.int .u16 v')).drew r) := ⟨hE1, hM1⟩
      clear hE1 hM1 c2 c3 cf
      have HN : Hid (normS ⟨sb, sl, sr⟩ = shiftS ⟨sb, sl, sr⟩) := by unfold normS; rw [if_pos hn]; exact rfl
      go_wp2_with fail
      refine (shift_any B b r sb lo rg sl sr _ HF.out.1 HST.out hn hlen).mono ?_
      rintro e w1 ⟨rfl, r', hE, hM⟩
      obtain ⟨_, c2, c3, cf⟩ := hE.cells
      have hcc : w1.heap[c]? = (w.setCell ⟨c, i, none⟩ (.int .u16 v')).heap[c]? := hM.block (by simp [World.setCell]; exact hcs) hcb hcr (by simp)
      have HG : Hid (EncAt B b r' (shiftS ⟨sb, sl, sr⟩).buf lo rg w1 ∧ Moved b r (some c) w w1 r' ∧ w1.heap[c]? = (w.setCell ⟨c, i, none⟩ (.int .u16 v')).heap[c]?) := ⟨hE, HF.out.2.trans hM.mono, hcc⟩
      clear hE hM hcc HF
      generalize hT : shiftS ⟨sb, sl, sr⟩ = T at *
      have HT : Hid (shiftS ⟨sb, sl, sr⟩ = T) := hT
      clear hT
      go_wp2
      go_end0
      rw [HN.out]
      obtain ⟨g1, g2, g3⟩ := HG.out
      obtain ⟨a1, a2, a3⟩ := enc_fin g1 g2 g3 hcb T.low T.rng
      exact ⟨rfl, r', a1, a2, a3⟩
    · have HF : Hid (EncAt B b r sb lo rg (w.setCell ⟨c, i, none⟩ (.int .u16 v')).drew ∧ Moved b r (some c) w (w.setCell ⟨c, i, none⟩ (.int .u16 v')).drew r) := ⟨hE1, hM1⟩
      obtain ⟨_, c2', c3', cf'⟩ := (HH.out.1.setOther c i (.int .u16 v') hcb hcr).cells
      clear hE1 hM1 c2 c3 cf
      have HN : Hid (normS ⟨sb, sl, sr⟩ = ⟨sb, sl, sr⟩) := by unfold normS; rw [if_neg hn]; exact rfl
      go_wp2
      go_end0
      rw [HN.out]
      obtain ⟨g1, g2⟩ := HF.out
      obtain ⟨a1, a2, a3⟩ := enc_fin g1 g2 (c := c) rfl hcb sl sr
      exact ⟨rfl, r, a1, a2, a3⟩
end Go.Proofs.Ybulkalfa
