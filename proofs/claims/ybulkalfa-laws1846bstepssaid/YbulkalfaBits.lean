/-
  b1846a: encodeBits (14): the walk, and its plain function.
-/
import Derived.Test.YbulkalfaTree
namespace Go.Proofs.Ybulkalfa
open Go.RowKit
set_option linter.unusedVariables false
set_option linter.unusedSimpArgs false

/-! ### Plain -/
def normN : Nat → St → St
  | 0, S => S
  | f + 1, S => if S.rng < 16777216 then normN f (shiftS S) else S
def pieceS (S : St) (v n k : Nat) : St := ⟨S.buf, S.low + ((v / 2 ^ n % 2 ^ k : Nat) : Int) * (S.rng / 2 ^ k), S.rng / 2 ^ k⟩
def bitsRun : Nat → Nat → Nat → St → St
  | 0, _, _, S => S
  | f + 1, v, n, S => if n = 0 then S else bitsRun f v (n - min n 16) (normN 2 (pieceS S v (n - min n 16) (min n 16)))

theorem piece_inv (S : St) (v n k : Nat) (h : Inv S) (hr : 16777216 ≤ S.rng) (hk : k ≤ 16) : Inv (pieceS S v n k) ∧ 256 ≤ (pieceS S v n k).rng := by
  have hx : v / 2 ^ n % 2 ^ k < 2 ^ k := Nat.mod_lt _ (Nat.two_pow_pos k)
  have hp : (2 : Int) ^ k = ((2 ^ k : Nat) : Int) := by simp
  have hk1 : 1 ≤ 2 ^ k := Nat.one_le_two_pow
  have hk2 : 2 ^ k ≤ 65536 := by
    have := Nat.pow_le_pow_right (show 0 < 2 by omega) hk
    simpa using this
  have hl := h.low0; have hr1 := h.rng1; have hs := h.sum
  unfold pieceS
  rw [hp]
  generalize v / 2 ^ n % 2 ^ k = x at *
  generalize 2 ^ k = K at *
  obtain ⟨q, hq⟩ : ∃ q, q = S.rng / (K : Int) := ⟨_, rfl⟩
  rw [← hq]
  have q0 : 256 ≤ q := by
    rw [hq]
    have h1 : (256 : Int) * K ≤ S.rng := by omega
    exact Int.le_ediv_of_mul_le (by omega) h1
  have q1 : q * K ≤ S.rng := by rw [hq]; exact Int.ediv_mul_le _ (by omega)
  have q2 : ((x : Int) + 1) * q ≤ q * K := by rw [Int.mul_comm]; exact Int.mul_le_mul_of_nonneg_left (by omega) (by omega)
  have q3 : (0 : Int) ≤ (x : Int) * q := Int.mul_nonneg (by omega) (by omega)
  have q4 : ((x : Int) + 1) * q = (x : Int) * q + q := by rw [Int.add_mul, Int.one_mul]
  have q5 : q ≤ S.rng := by
    have : q * 1 ≤ q * (K : Int) := Int.mul_le_mul_of_nonneg_left (by omega) (by omega)
    omega
  generalize (x : Int) * q = xq at *
  generalize q * (K : Int) = qK at *
  refine ⟨⟨h.bytes, ?_, ?_, ?_, ?_, fun hc => h.cap ?_⟩, q0⟩
  · show 0 ≤ S.low + xq; omega
  · show 1 ≤ q; omega
  · show q ≤ 4294967295; omega
  · show S.low + xq + q ≤ 8589934592; omega
  · have hc' : 4294967296 < S.low + xq + q := hc
    omega

theorem normN_inv : ∀ (f : Nat) (S : St), Inv S → 16777216 ≤ S.rng * 256 ^ f → Inv (normN f S) ∧ 16777216 ≤ (normN f S).rng ∧ (normN f S).buf.length ≤ S.buf.length + f
  | 0, S, h, hr => ⟨h, by simpa [normN] using hr, by simp [normN]⟩
  | f + 1, S, h, hr => by
    unfold normN
    split
    · rename_i hn
      obtain ⟨a, b, c⟩ := normN_inv f (shiftS S) (shift_inv S h hn) (by show 16777216 ≤ S.rng * 256 * 256 ^ f; rw [Int.mul_assoc, Int.mul_comm 256]; rw [Int.pow_succ] at hr; exact hr)
      exact ⟨a, b, by rw [shift_length] at c; omega⟩
    · exact ⟨h, by omega, by omega⟩

theorem bits_inv : ∀ (f v n : Nat) (S : St), Inv S → 16777216 ≤ S.rng → Inv (bitsRun f v n S) ∧ 16777216 ≤ (bitsRun f v n S).rng ∧ (bitsRun f v n S).buf.length ≤ S.buf.length + 2 * f
  | 0, v, n, S, h, hr => ⟨h, hr, by simp [bitsRun]⟩
  | f + 1, v, n, S, h, hr => by
    unfold bitsRun
    split
    · exact ⟨h, hr, by omega⟩
    · obtain ⟨p1, p2⟩ := piece_inv S v (n - min n 16) (min n 16) h hr (Nat.min_le_right _ _)
      obtain ⟨m1, m2, m3⟩ := normN_inv 2 _ p1 (by omega)
      obtain ⟨a, b, c⟩ := bits_inv f v (n - min n 16) _ m1 m2
      exact ⟨a, b, by have : (pieceS S v (n - min n 16) (min n 16)).buf.length = S.buf.length := rfl; omega⟩

theorem and_low (v k : Nat) (hv : v < 18446744073709551616) (hk : k ≤ 16) : bits .and .u64 (v : Int) (((2 ^ k : Nat) : Int) - 1) = ((v % 2 ^ k : Nat) : Int) := by
  have hk1 : 1 ≤ 2 ^ k := Nat.one_le_two_pow
  have hk2 : 2 ^ k ≤ 65536 := by
    have := Nat.pow_le_pow_right (show 0 < 2 by omega) hk
    simpa using this
  rw [show ((2 ^ k : Nat) : Int) - 1 = ((2 ^ k - 1 : Nat) : Int) by omega, u64_and_nat _ _ hv (by omega), Nat.and_two_pow_sub_one_eq_mod]
theorem and_16 (v k : Nat) (hv : v < 18446744073709551616) : bits .and .u64 ((v : Int) / 2 ^ k) 65535 = ((v / 2 ^ k % 65536 : Nat) : Int) := by
  have e : (v : Int) / 2 ^ k = ((v / 2 ^ k : Nat) : Int) := by simp
  rw [e, show (65535 : Int) = ((65535 : Nat) : Int) from rfl, u64_and_nat _ _ (Nat.lt_of_le_of_lt (Nat.div_le_self _ _) hv) (by omega)]
  have := Nat.and_two_pow_sub_one_eq_mod (v / 2 ^ k) 16
  simp only [show 2 ^ 16 - 1 = 65535 from rfl, show 2 ^ 16 = 65536 from rfl] at this
  rw [this]

set_option maxHeartbeats 2000000 in
set_option maxRecDepth 100000 in
theorem bits_any (B b : Nat) (r : Option Nat) (S : St) (v n : Nat) (w : World) (h : EncAt B b r S.buf S.low S.rng w) (hI : Inv S) (r0 : 16777216 ≤ S.rng) (hv : v < 18446744073709551616) (hn : n ≤ 64) (hlen : S.buf.length ≤ 900000) :
    Calls Yba.prog 14 #[.pointer (some ⟨b, 0, none⟩), .int .u64 v, .int .u64 n] w fun e w' =>
      e = .returned (.tuple #[]) ∧ ∃ r', EncAt B b r' (bitsRun 8 v n S).buf (bitsRun 8 v n S).low (bitsRun 8 v n S).rng w' ∧ Moved b r none w w' r' := by
  obtain ⟨_, c2, c3, cf⟩ := h.cells
  obtain ⟨buf, lo, rg⟩ := S
  have HH : Hid (EncAt B b r buf lo rg w ∧ Inv ⟨buf, lo, rg⟩) := ⟨h, hI⟩
  have r0' : 16777216 ≤ rg := r0
  have hlen' : buf.length ≤ 900000 := hlen
  clear h hI r0 hlen
  have c2' : w.cell? ⟨b, 2, none⟩ = some (.int .u64 lo) := c2
  have c3' : w.cell? ⟨b, 3, none⟩ = some (.int .u32 rg) := c3
  clear c2 c3
  go_enter Yba.func14, Yba.ntmps14
  go_wp2_with fail
  go_quiet (fail)
  go_wp2
  go_loopg [2, 6, 7] 8 (fun gk nn lw rn wr => ∃ (m : Nat) (T : St) (r' : Option Nat), nn = .int .u64 m ∧ lw = .int .u64 T.low ∧ rn = .int .u32 T.rng ∧ m ≤ 64 ∧ m ≤ 16 * gk ∧ gk ≤ 8 ∧
      Hid (bitsRun gk v m T = bitsRun 8 v n ⟨buf, lo, rg⟩) ∧ Hid (EncAt B b r' T.buf lo rg wr ∧ Moved b r none w wr r' ∧ Inv T ∧ 16777216 ≤ T.rng ∧ T.buf.length + 2 * gk ≤ buf.length + 16))
  case atStart =>
    obtain ⟨g1, g2⟩ := HH.out
    exact ⟨n, ⟨buf, lo, rg⟩, r, rfl, rfl, rfl, hn, by omega, Nat.le_refl _, rfl, g1, (Moved.refl _ _ _ _).drewN nq, g2, r0', Nat.le_refl _⟩
  case round =>
    obtain ⟨m, T, r', rfl, rfl, rfl, hm64, hm, hg8, htr, hfx⟩ := hrel
    obtain ⟨tb, tl, tr⟩ := T
    by_cases hm0 : m = 0
    · subst hm0
      obtain ⟨gE, gMv, gI, gR, gB⟩ := hfx.out
      have ht : (⟨tb, tl, tr⟩ : St) = bitsRun 8 v n ⟨buf, lo, rg⟩ := by
        rw [← htr.out]
        cases gk with
        | zero => rfl
        | succ g => unfold bitsRun; rw [if_pos rfl]
      obtain ⟨_, c2, c3, cf'⟩ := gE.cells
      have HF : Hid (EncAt B b r' tb lo rg wr ∧ Moved b r none w wr r' ∧ (⟨tb, tl, tr⟩ : St) = bitsRun 8 v n ⟨buf, lo, rg⟩) := ⟨gE, gMv, ht⟩
      clear gE gMv gI gR gB ht htr hfx
      go_wp2
      go_end0
      obtain ⟨f1, f2, f3⟩ := HF.out
      rw [← f3]
      exact ⟨rfl, r', f1.put tl tr, (f2.setB b 2 _ (.inl rfl)).setB b 3 _ (.inl rfl)⟩
    · obtain ⟨G, rfl⟩ : ∃ G, G = gk := ⟨gk, rfl⟩
      obtain ⟨W0, rfl⟩ : ∃ W0, W0 = wr := ⟨wr, rfl⟩
      obtain ⟨gE, gMv, gI, gR, gB⟩ := hfx.out
      have t0 : 0 ≤ tl := gI.low0
      have t1 : tr ≤ 4294967295 := gI.rng1
      have t2 : tl + tr ≤ 8589934592 := gI.sum
      have t3 : 16777216 ≤ tr := gR
      by_cases hm16 : m ≤ 16
      · have hmi : ¬ (16 : Int) < (m : Int) := by omega
        have hmp : (0 : Int) < (m : Int) := by omega
        have hmn : 0 < m := by omega
        have hmd : decide (0 < m) = true := by simp; omega
        have hk1 : 1 ≤ 2 ^ m := Nat.one_le_two_pow
        have hk2 : 2 ^ m ≤ 65536 := by
          have := Nat.pow_le_pow_right (show 0 < 2 by omega) hm16
          simpa using this
        obtain ⟨pw, hpw⟩ : ∃ pw : Int, pw = ((2 ^ m : Nat) : Int) := ⟨_, rfl⟩
        have pw0 : 1 ≤ pw := by omega
        have pw1 : pw ≤ 65536 := by omega
        have ePw : IntKind.u64.wrap (2 ^ m) = pw := by rw [show (2 : Int) ^ m = ((2 ^ m : Nat) : Int) by simp, ← hpw]; exact IntWalk.u64_in pw ⟨by omega, by omega⟩
        obtain ⟨x, hx⟩ : ∃ x : Int, x = ((v % 2 ^ m : Nat) : Int) := ⟨_, rfl⟩
        have eX : bits .and .u64 (v : Int) (pw - 1) = x := by rw [hpw, hx]; exact and_low v m hv hm16
        obtain ⟨zr, hzr⟩ : ∃ zr : Int, zr = tr / 2 ^ m := ⟨_, rfl⟩
        obtain ⟨xz, hxz⟩ : ∃ xz : Int, xz = x * zr := ⟨_, rfl⟩
        have hpiece : pieceS ⟨tb, tl, tr⟩ v 0 m = ⟨tb, tl + xz, zr⟩ := by
          unfold pieceS
          rw [Nat.pow_zero, Nat.div_one, hxz, hx, hzr]
        have eR : tr / 2 ^ m = zr := hzr.symm
        have eXZ : x * zr = xz := hxz.symm
        have xz0 : 0 ≤ xz := by
          rw [hxz, hx, hzr]
          exact Int.mul_nonneg (by omega) (Int.ediv_nonneg (by omega) (by rw [show (2 : Int) ^ m = ((2 ^ m : Nat) : Int) by simp]; omega))
        clear hpw hx hzr hxz hk1 hk2
        have hz1 : pieceS ⟨tb, tl, tr⟩ v 0 m = ⟨tb, tl + xz, zr⟩ := hpiece
        obtain ⟨pI, pR⟩ := piece_inv ⟨tb, tl, tr⟩ v 0 m gI gR (by omega)
        rw [hz1] at pI pR
        have z0 : 256 ≤ zr := pR
        have z1 : zr ≤ 4294967295 := pI.rng1
        have z2 : 0 ≤ tl + xz := pI.low0
        have z3 : tl + xz + zr ≤ 8589934592 := pI.sum
        have hG : 1 ≤ G := by omega
        have hnext : bitsRun (G - 1) v (m - m) (normN 2 ⟨tb, tl + xz, zr⟩) = bitsRun 8 v n ⟨buf, lo, rg⟩ := by
          rw [← htr.out, ← hz1]
          obtain ⟨g, rfl⟩ : ∃ g, G = g + 1 := ⟨G - 1, by omega⟩
          rw [show g + 1 - 1 = g by omega]
          conv => rhs; unfold bitsRun
          rw [if_neg hm0, show min m 16 = m by omega]
          rw [Nat.sub_self]
        have HP : Hid (Inv ⟨tb, tl + xz, zr⟩ ∧ bitsRun (G - 1) v (m - m) (normN 2 ⟨tb, tl + xz, zr⟩) = bitsRun 8 v n ⟨buf, lo, rg⟩) := ⟨pI, hnext⟩
        have HE : Hid (EncAt B b r' tb lo rg W0 ∧ Moved b r none w W0 r' ∧ tb.length + 2 * G ≤ buf.length + 16) := ⟨gE, gMv, gB⟩
        clear pI pR hnext gE gMv gI gR gB htr hfx hz1 hpiece
        go_wp2
        go_loopg [6, 7] 2 (fun f lw rn wr => ∃ (Y : St) (r2 : Option Nat), lw = .int .u64 Y.low ∧ rn = .int .u32 Y.rng ∧ f ≤ 2 ∧ Hid (normN f Y = normN 2 ⟨tb, tl + xz, zr⟩) ∧
            Hid (EncAt B b r2 Y.buf lo rg wr ∧ Moved b r none w wr r2 ∧ Inv Y ∧ 16777216 ≤ Y.rng * 256 ^ f ∧ Y.buf.length + f ≤ tb.length + 2))
        case atStart => exact ⟨⟨tb, tl + xz, zr⟩, r', rfl, rfl, Nat.le_refl _, rfl, HE.out.1, HE.out.2.1, HP.out.1, (show 16777216 ≤ zr * 256 ^ 2 by omega), Nat.le_refl _⟩
        case round =>
          obtain ⟨Y, r2, rfl, rfl, hf2, hno, hy⟩ := hrel
          obtain ⟨yb, yl, yr⟩ := Y
          obtain ⟨yE, yM, yI, yR, yB⟩ := hy.out
          have y0 : 0 ≤ yl := yI.low0
          have y1 : 1 ≤ yr := yI.rng0
          have y2 : yr ≤ 4294967295 := yI.rng1
          have yB' : yb.length + gk ≤ tb.length + 2 := yB
          by_cases hyn : yr < 16777216
          · cases gk with
            | zero => exact absurd yR (by show ¬ 16777216 ≤ yr * 256 ^ 0; omega)
            | succ f =>
              have HY : Hid (EncAt B b r2 yb lo rg wr ∧ Moved b r none w wr r2 ∧ Inv ⟨yb, yl, yr⟩) := ⟨yE, yM, yI⟩
              have hnx : normN f (shiftS ⟨yb, yl, yr⟩) = normN 2 ⟨tb, tl + xz, zr⟩ := by
                rw [← hno.out]; conv => rhs; unfold normN
                rw [if_pos hyn]
              have hyr : 16777216 ≤ (shiftS ⟨yb, yl, yr⟩).rng * 256 ^ f := by
                show 16777216 ≤ yr * 256 * 256 ^ f
                have h1 : 16777216 ≤ yr * 256 ^ (f + 1) := yR
                rw [Int.pow_succ, Int.mul_comm _ 256, ← Int.mul_assoc] at h1
                exact h1
              have hsi := shift_inv ⟨yb, yl, yr⟩ yI hyn
              have hsl : (shiftS ⟨yb, yl, yr⟩).buf.length + f ≤ tb.length + 2 := by have := shift_length ⟨yb, yl, yr⟩; have e : (⟨yb, yl, yr⟩ : St).buf.length = yb.length := rfl; omega
              have HN : Hid (normN f (shiftS ⟨yb, yl, yr⟩) = normN 2 ⟨tb, tl + xz, zr⟩ ∧ Inv (shiftS ⟨yb, yl, yr⟩) ∧ 16777216 ≤ (shiftS ⟨yb, yl, yr⟩).rng * 256 ^ f ∧ (shiftS ⟨yb, yl, yr⟩).buf.length + f ≤ tb.length + 2) := ⟨hnx, hsi, hyr, hsl⟩
              clear yE yM yI yR yB hnx hyr hsi hsl hno hy
              go_wp2_with fail
              refine (shift_any B b r2 yb lo rg yl yr _ HY.out.1 HY.out.2.2 hyn (by have := HE.out.2.2; omega)).mono ?_
              rintro e w1 ⟨rfl, r3, hE3, hM3⟩
              have HF : Hid (EncAt B b r3 (shiftS ⟨yb, yl, yr⟩).buf lo rg w1 ∧ Moved b r none w w1 r3) := ⟨hE3, HY.out.2.1.trans hM3⟩
              clear hE3 hM3 HY
              generalize shiftS ⟨yb, yl, yr⟩ = Y2 at *
              go_wp2
              go_roundg f
              case measure => omega
              case rel => exact ⟨Y2, r3, rfl, rfl, by omega, HN.out.1, HF.out.1, HF.out.2, HN.out.2.1, HN.out.2.2.1, HN.out.2.2.2⟩
          · have hnn : (⟨yb, yl, yr⟩ : St) = normN 2 ⟨tb, tl + xz, zr⟩ := by
              rw [← hno.out]
              cases gk with
              | zero => rfl
              | succ f => unfold normN; rw [if_neg hyn]
            have HN : Hid (bitsRun (G - 1) v (m - m) ⟨yb, yl, yr⟩ = bitsRun 8 v n ⟨buf, lo, rg⟩ ∧ EncAt B b r2 yb lo rg wr ∧ Moved b r none w wr r2 ∧ Inv ⟨yb, yl, yr⟩ ∧ 16777216 ≤ yr ∧ yb.length + 2 * (G - 1) ≤ buf.length + 16) :=
              ⟨by rw [hnn]; exact HP.out.2, yE, yM, yI, by omega, by have := HE.out.2.2; omega⟩
            clear yE yM yI yR yB hnn hno hy
            go_wp2
            go_roundg (G - 1)
            case measure => omega
            case rel => exact ⟨m - m, ⟨yb, yl, yr⟩, r2, by go_num, rfl, rfl, by omega, by omega, by omega, HN.out.1, HN.out.2⟩
      · have hmi : (16 : Int) < (m : Int) := by omega
        have hmp : (0 : Int) < (m : Int) := by omega
        have hmn : 0 < m := by omega
        have hmd : decide (0 < m) = true := by simp; omega
        obtain ⟨x, hx⟩ : ∃ x : Int, x = ((v / 2 ^ (m - 16) % 65536 : Nat) : Int) := ⟨_, rfl⟩
        have eX : bits .and .u64 ((v : Int) / 2 ^ (m - 16)) 65535 = x := by rw [hx]; exact and_16 v (m - 16) hv
        obtain ⟨zr, hzr⟩ : ∃ zr : Int, zr = tr / 65536 := ⟨_, rfl⟩
        obtain ⟨xz, hxz⟩ : ∃ xz : Int, xz = x * zr := ⟨_, rfl⟩
        have hpiece : pieceS ⟨tb, tl, tr⟩ v (m - 16) 16 = ⟨tb, tl + xz, zr⟩ := by
          unfold pieceS
          rw [hxz, hx, hzr]
          rfl
        have eR : tr / 65536 = zr := hzr.symm
        have eXZ : x * zr = xz := hxz.symm
        have xz0 : 0 ≤ xz := by rw [hxz, hx, hzr]; exact Int.mul_nonneg (by omega) (by omega)
        clear hx hzr hxz
        have hz1 : pieceS ⟨tb, tl, tr⟩ v (m - 16) 16 = ⟨tb, tl + xz, zr⟩ := hpiece
        obtain ⟨pI, pR⟩ := piece_inv ⟨tb, tl, tr⟩ v (m - 16) 16 gI gR (by omega)
        rw [hz1] at pI pR
        have z0 : 256 ≤ zr := pR
        have z1 : zr ≤ 4294967295 := pI.rng1
        have z2 : 0 ≤ tl + xz := pI.low0
        have z3 : tl + xz + zr ≤ 8589934592 := pI.sum
        have hG : 1 ≤ G := by omega
        have hnext : bitsRun (G - 1) v (m - 16) (normN 2 ⟨tb, tl + xz, zr⟩) = bitsRun 8 v n ⟨buf, lo, rg⟩ := by
          rw [← htr.out, ← hz1]
          obtain ⟨g, rfl⟩ : ∃ g, G = g + 1 := ⟨G - 1, by omega⟩
          rw [show g + 1 - 1 = g by omega]
          conv => rhs; unfold bitsRun
          rw [if_neg hm0, show min m 16 = 16 by omega]
        have HP : Hid (Inv ⟨tb, tl + xz, zr⟩ ∧ bitsRun (G - 1) v (m - 16) (normN 2 ⟨tb, tl + xz, zr⟩) = bitsRun 8 v n ⟨buf, lo, rg⟩) := ⟨pI, hnext⟩
        have HE : Hid (EncAt B b r' tb lo rg W0 ∧ Moved b r none w W0 r' ∧ tb.length + 2 * G ≤ buf.length + 16) := ⟨gE, gMv, gB⟩
        clear pI pR hnext gE gMv gI gR gB htr hfx hz1 hpiece
        go_wp2
        go_loopg [6, 7] 2 (fun f lw rn wr => ∃ (Y : St) (r2 : Option Nat), lw = .int .u64 Y.low ∧ rn = .int .u32 Y.rng ∧ f ≤ 2 ∧ Hid (normN f Y = normN 2 ⟨tb, tl + xz, zr⟩) ∧
            Hid (EncAt B b r2 Y.buf lo rg wr ∧ Moved b r none w wr r2 ∧ Inv Y ∧ 16777216 ≤ Y.rng * 256 ^ f ∧ Y.buf.length + f ≤ tb.length + 2))
        case atStart => exact ⟨⟨tb, tl + xz, zr⟩, r', rfl, rfl, Nat.le_refl _, rfl, HE.out.1, HE.out.2.1, HP.out.1, (show 16777216 ≤ zr * 256 ^ 2 by omega), Nat.le_refl _⟩
        case round =>
          obtain ⟨Y, r2, rfl, rfl, hf2, hno, hy⟩ := hrel
          obtain ⟨yb, yl, yr⟩ := Y
          obtain ⟨yE, yM, yI, yR, yB⟩ := hy.out
          have y0 : 0 ≤ yl := yI.low0
          have y1 : 1 ≤ yr := yI.rng0
          have y2 : yr ≤ 4294967295 := yI.rng1
          have yB' : yb.length + gk ≤ tb.length + 2 := yB
          by_cases hyn : yr < 16777216
          · cases gk with
            | zero => exact absurd yR (by show ¬ 16777216 ≤ yr * 256 ^ 0; omega)
            | succ f =>
              have HY : Hid (EncAt B b r2 yb lo rg wr ∧ Moved b r none w wr r2 ∧ Inv ⟨yb, yl, yr⟩) := ⟨yE, yM, yI⟩
              have hnx : normN f (shiftS ⟨yb, yl, yr⟩) = normN 2 ⟨tb, tl + xz, zr⟩ := by
                rw [← hno.out]; conv => rhs; unfold normN
                rw [if_pos hyn]
              have hyr : 16777216 ≤ (shiftS ⟨yb, yl, yr⟩).rng * 256 ^ f := by
                show 16777216 ≤ yr * 256 * 256 ^ f
                have h1 : 16777216 ≤ yr * 256 ^ (f + 1) := yR
                rw [Int.pow_succ, Int.mul_comm _ 256, ← Int.mul_assoc] at h1
                exact h1
              have hsi := shift_inv ⟨yb, yl, yr⟩ yI hyn
              have hsl : (shiftS ⟨yb, yl, yr⟩).buf.length + f ≤ tb.length + 2 := by have := shift_length ⟨yb, yl, yr⟩; have e : (⟨yb, yl, yr⟩ : St).buf.length = yb.length := rfl; omega
              have HN : Hid (normN f (shiftS ⟨yb, yl, yr⟩) = normN 2 ⟨tb, tl + xz, zr⟩ ∧ Inv (shiftS ⟨yb, yl, yr⟩) ∧ 16777216 ≤ (shiftS ⟨yb, yl, yr⟩).rng * 256 ^ f ∧ (shiftS ⟨yb, yl, yr⟩).buf.length + f ≤ tb.length + 2) := ⟨hnx, hsi, hyr, hsl⟩
              clear yE yM yI yR yB hnx hyr hsi hsl hno hy
              go_wp2_with fail
              refine (shift_any B b r2 yb lo rg yl yr _ HY.out.1 HY.out.2.2 hyn (by have := HE.out.2.2; omega)).mono ?_
              rintro e w1 ⟨rfl, r3, hE3, hM3⟩
              have HF : Hid (EncAt B b r3 (shiftS ⟨yb, yl, yr⟩).buf lo rg w1 ∧ Moved b r none w w1 r3) := ⟨hE3, HY.out.2.1.trans hM3⟩
              clear hE3 hM3 HY
              generalize shiftS ⟨yb, yl, yr⟩ = Y2 at *
              go_wp2
              go_roundg f
              case measure => omega
              case rel => exact ⟨Y2, r3, rfl, rfl, by omega, HN.out.1, HF.out.1, HF.out.2, HN.out.2.1, HN.out.2.2.1, HN.out.2.2.2⟩
          · have hnn : (⟨yb, yl, yr⟩ : St) = normN 2 ⟨tb, tl + xz, zr⟩ := by
              rw [← hno.out]
              cases gk with
              | zero => rfl
              | succ f => unfold normN; rw [if_neg hyn]
            have HN : Hid (bitsRun (G - 1) v (m - 16) ⟨yb, yl, yr⟩ = bitsRun 8 v n ⟨buf, lo, rg⟩ ∧ EncAt B b r2 yb lo rg wr ∧ Moved b r none w wr r2 ∧ Inv ⟨yb, yl, yr⟩ ∧ 16777216 ≤ yr ∧ yb.length + 2 * (G - 1) ≤ buf.length + 16) :=
              ⟨by rw [hnn]; exact HP.out.2, yE, yM, yI, by omega, by have := HE.out.2.2; omega⟩
            clear yE yM yI yR yB hnn hno hy
            go_wp2
            go_roundg (G - 1)
            case measure => omega
            case rel => exact ⟨m - 16, ⟨yb, yl, yr⟩, r2, by go_num, rfl, rfl, by omega, by omega, by omega, HN.out.1, HN.out.2⟩
end Go.Proofs.Ybulkalfa
