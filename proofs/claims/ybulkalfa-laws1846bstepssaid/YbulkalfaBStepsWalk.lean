/-
  b1846a: LawS1846BSteps (4): the walk.
-/
import Derived.Test.YbulkalfaBoth
namespace Go.Proofs.Ybulkalfa
open Go.RowKit
set_option linter.unusedVariables false
set_option linter.unusedSimpArgs false

theorem numRun_short (z n : Nat) (S T : St) (M N : List Int) (h : (T, N) = treeRun 6 1 (less1 n) S M) (hn : n < 2) : numRun z n S M = (T, N) := by
  unfold numRun tailRun
  rw [if_pos hn, ← h]
theorem numRun_two (z n : Nat) (S T : St) (M N : List Int) (h : (T, N) = treeRun 6 1 (less1 n) S M) (hn : n = 2) : numRun z n S M = (encS T (N.getD (64 + n) 0) (bitAt z (n - 2)), N.set (64 + n) (adapt (N.getD (64 + n) 0) (bitAt z (n - 2)))) := by
  unfold numRun tailRun
  rw [if_neg (by omega), if_neg (by omega), ← h]
theorem numRun_more (z n : Nat) (S T : St) (M N : List Int) (h : (T, N) = treeRun 6 1 (less1 n) S M) (hn : 3 ≤ n) : numRun z n S M = (bitsRun 8 z (n - 2) (encS T (N.getD (64 + n) 0) (bitAt z (n - 2))), N.set (64 + n) (adapt (N.getD (64 + n) 0) (bitAt z (n - 2)))) := by
  unfold numRun tailRun
  rw [if_neg (by omega), if_pos (by omega), ← h]

/-- The two fresh encoders, when 'prep' has laid both. -/
theorem prep_two {s : Nat} {w w1 w2 : World} {r1 r2 : Option Nat} {S : St} (hs : s = w.heap.size) {o : Obj} (ho : o = .cells #[.slice none 0 0, .int .i64 0, .int .u64 0, .int .u32 0] 27 (0, 0))
    (hE1 : EncAt s s r1 S.buf S.low S.rng w1) (hM1 : Moved s none none ((w.alloc o).alloc o) w1 r1) (hE2 : EncAt s (s + 1) r2 S.buf S.low S.rng w2) (hM2 : Moved (s + 1) none none w1 w2 r2) :
    EncAt s s r1 S.buf S.low S.rng w2 ∧ (∀ k, r1 = some k → r2 ≠ some k) ∧ Below s w w2 := by
  have hsz : ((w.alloc o).alloc o).heap.size = s + 2 := by simp [hs]
  have hr1 : ∀ k, r1 = some k → s + 2 ≤ k := by
    intro k hk
    rcases hM1.2.2.2 with rfl | ⟨j, hj, hj2⟩
    · cases hk
    · rw [hj] at hk; have := Option.some.inj hk; omega
  have h1 := hE1.lt
  refine ⟨hE1.kept (hM2.block hE1.lt (by omega) (by simp) (by simp)) (fun k hk => hM2.block (hE1.row_lt k hk).2 (by have := hr1 k hk; omega) (by simp) (by simp)), ?_, ?_⟩
  · intro k e1 e2
    rcases hM2.2.2.2 with rfl | ⟨j, hj, hj2⟩
    · cases e2
    · have := (hE1.row_lt k e1).2
      rw [hj] at e2; have := Option.some.inj e2; omega
  · have b0 : Below s w ((w.alloc o).alloc o) := ((Below.refl _ _).alloc (by omega) _).alloc (by simp; omega) _
    exact (b0.trans (hM1.below (by omega) (by omega) (fun k e => by cases e) (fun k e => by cases e))).trans (hM2.below (by omega) (by omega) (fun k e => by cases e) (fun k e => by cases e))

theorem fresh_two (w : World) (o : Obj) (ho : o = .cells #[.slice none 0 0, .int .i64 0, .int .u64 0, .int .u32 0] 27 (0, 0)) : Fresh w.heap.size ((w.alloc o).alloc o) ∧ Fresh (w.heap.size + 1) ((w.alloc o).alloc o) := by
  subst ho
  exact ⟨heap_alloc2_old _ _ _, heap_alloc2_new _ _ _⟩

set_option maxHeartbeats 4000000 in
set_option maxRecDepth 100000 in
theorem bsteps_walk (a0 : Option Addr) (len cap pb off : Nat) (bs : List Bool) (a1 : Option Addr) (len1 cap1 pb1 off1 : Nat) (zs : List Int) (z : Nat) (w : World)
    (hp : 0 < len → a0 = some ⟨pb, off, none⟩) (hc : ∀ k, k < len → w.cell? ⟨pb, off + k, none⟩ = some (.bool (bs.getD k false)))
    (hfull : bs.length = len) (hblk : 0 < len → pb < w.heap.size) (hlen : len ≤ 9223372036854775807)
    (hR : len1 ≤ 1024 → Raw w a1 len1 pb1 off1 zs) (hlen1 : len1 ≤ 9223372036854775807) (hz : z < 18446744073709551616) :
    Calls Yba.prog 4 #[.slice a0 len cap, .slice a1 len1 cap1, .int .u64 z] w fun e w' => e = .returned (.bool true) ∧ Below w.heap.size w w' := by
  by_cases hbig : 1024 < len
  · have hb' : (1024 : Int) < (len : Int) := by omega
    clear hc hp hR
    go_enter Yba.func4, Yba.ntmps4
    go_wp2
    go_ret
    exact ⟨rfl, Below.refl _ _⟩
  have hb' : ¬ (1024 : Int) < (len : Int) := by omega
  by_cases hbig1 : 1024 < len1
  · have hb1' : (1024 : Int) < (len1 : Int) := by omega
    clear hc hp hR
    go_enter Yba.func4, Yba.ntmps4
    go_wp2
    go_ret
    exact ⟨rfl, Below.refl _ _⟩
  have hb1' : ¬ (1024 : Int) < (len1 : Int) := by omega
  obtain ⟨o, ho⟩ : ∃ o : Obj, o = .cells #[.slice none 0 0, .int .i64 0, .int .u64 0, .int .u32 0] 27 (0, 0) := ⟨_, rfl⟩
  have HP : Hid (Pre ((w.alloc o).alloc o) a0 len pb off bs) :=
    Pre.below ⟨hp, hc, by omega, hfull, hblk⟩ (((Below.refl _ _).alloc (Nat.le_refl _) _).alloc (by simp) _)
  have HR : Hid (Raw w a1 len1 pb1 off1 zs) := hR (by omega)
  have HF := fresh_two w o ho
  have HFF : Hid (Fresh w.heap.size ((w.alloc o).alloc o) ∧ Fresh (w.heap.size + 1) ((w.alloc o).alloc o)) := HF
  have HO : Hid (o = .cells #[.slice none 0 0, .int .i64 0, .int .u64 0, .int .u32 0] 27 (0, 0)) := ho
  have hzv := zero36
  clear hp hc hR HF
  go_enter Yba.func4, Yba.ntmps4
  go_wp2_with fail
  rw [← ho]
  clear ho
  refine (prep_any w.heap.size w.heap.size a0 len cap pb off bs _ (Nat.le_refl _) HFF.out.1 HP.out (fun h => by have := hblk h; omega)).mono ?_
  rintro e w1 ⟨rfl, r1, hE1, hM1, hI, hR, hL⟩
  have hF1 : Fresh (w.heap.size + 1) w1 := (hM1.block (k := w.heap.size + 1) (by simp) (by omega) (by simp) (by simp)).trans HFF.out.2
  have HP1 : Hid (Pre w1 a0 len pb off bs) := by
    have h := HP.out
    refine ⟨h.addr, fun k hk => ?_, h.small, h.full, fun hl => Nat.lt_of_lt_of_le (h.block hl) hM1.2.1⟩
    rw [World.cell?_of_block (w := (w.alloc o).alloc o) (hM1.block (k := pb) (h.block (by omega)) (by have := hblk (by omega); omega) (by simp) (by simp))]
    exact h.cell k hk
  have HE1 : Hid (EncAt w.heap.size w.heap.size r1 (prepRun bs).1.buf (prepRun bs).1.low (prepRun bs).1.rng w1 ∧ Moved w.heap.size none none ((w.alloc o).alloc o) w1 r1 ∧ Fresh (w.heap.size + 1) w1) := ⟨hE1, hM1, hF1⟩
  clear hE1 hM1 hI hR hL hF1 HP HFF
  go_wp2_with fail
  refine (prep_any w.heap.size (w.heap.size + 1) a0 len cap pb off bs _ (by omega) HE1.out.2.2 HP1.out (fun h => by have := hblk h; omega)).mono ?_
  rintro e w2 ⟨rfl, r2, hE2, hM2, hI, hR, hL⟩
  obtain ⟨hE12, hne12, hB2⟩ := prep_two (s := w.heap.size) rfl HO.out HE1.out.1 HE1.out.2.1 hE2 hM2
  generalize (prepRun bs).1 = S at *
  have H2 : Hid (EncAt w.heap.size w.heap.size r1 S.buf S.low S.rng w2 ∧ EncAt w.heap.size (w.heap.size + 1) r2 S.buf S.low S.rng w2 ∧ (∀ k, r1 = some k → r2 ≠ some k) ∧ Below w.heap.size w w2 ∧ Inv S ∧ 16777216 ≤ S.rng ∧ S.buf.length ≤ 1024) := ⟨hE12, hE2, hne12, hB2, hI, hR, hL⟩
  have hs2 : w.heap.size + 1 < w2.heap.size := hE2.lt
  clear hE12 hE2 hM2 hne12 hB2 hI hR hL HE1 HP1 HO
  go_wp2_with fail
  refine (model_any a1 len1 cap1 pb1 off1 zs _ (HR.out.below H2.out.2.2.2.1)).mono ?_
  rintro e w3 ⟨rfl, hB3⟩
  have hs3 : w2.heap.size ≤ w3.heap.size := hB3.size
  have hl := mdl_length zs len1
  have hpr := mdl_probs zs len1
  generalize hM0 : mdl zs len1 = M0 at *
  have H3 : Hid (Below w2.heap.size w2 w3 ∧ M0.length = 145 ∧ Probs M0) := ⟨hB3, hl, hpr⟩
  have HM0 : Hid (mdl zs len1 = M0) := hM0
  clear hB3 hl hpr hM0
  go_wp2_with (refine wpList_store36 rfl _ _ rfl w3.heap.size M0 zeros H3.out.2.1 (by decide) rfl rfl (modAt_new _ _) ?_)
  obtain ⟨hB4, hA4, hz4⟩ := laid_new w3 M0
  generalize (w3.alloc (.cells (mcells zeros) 36)).setRow w3.heap.size (mcells M0) = w4 at *
  have H4 : Hid (Below w3.heap.size w3 w4 ∧ ModAt w3.heap.size M0 w4) := ⟨hB4, hA4⟩
  have hBB : Below w.heap.size w w4 := (H2.out.2.2.2.1.trans (H3.out.1.mono (by omega))).trans (hB4.mono (by omega))
  clear hB4 hA4
  refine (model_any a1 len1 cap1 pb1 off1 zs _ (HR.out.below hBB)).mono ?_
  rintro e w5 ⟨rfl, hB5⟩
  have hs5 : w4.heap.size ≤ w5.heap.size := hB5.size
  rw [HM0.out]
  have H5 : Hid (Below w4.heap.size w4 w5 ∧ Below w.heap.size w w4) := ⟨hB5, hBB⟩
  clear hB5 hBB HR
  go_wp2_with (refine wpList_store36 rfl _ _ rfl w5.heap.size M0 zeros H3.out.2.1 (by decide) rfl rfl (modAt_new _ _) ?_)
  obtain ⟨hB6, hA6, hz6⟩ := laid_new w5 M0
  generalize (w5.alloc (.cells (mcells zeros) 36)).setRow w5.heap.size (mcells M0) = w6 at *
  have HBo : Hid (Both w.heap.size w.heap.size (w.heap.size + 1) w3.heap.size w5.heap.size r1 r2 S S M0 M0 w w6) := by
    obtain ⟨g1, g2, g3, g4, g5, g6, g7⟩ := H2.out
    exact ⟨(((g1.below H3.out.1).below H4.out.1).below H5.out.1).below hB6, (((g2.below H3.out.1).below H4.out.1).below H5.out.1).below hB6, (H4.out.2.below H5.out.1).below hB6, hA6, g3, by omega, by omega, by omega, by omega, by omega, (H5.out.2.trans (H5.out.1.mono (by omega))).trans (hB6.mono (by omega))⟩
  have HI : Hid (Inv S ∧ 16777216 ≤ S.rng ∧ S.buf.length ≤ 1024 ∧ M0.length = 145 ∧ Probs M0) := ⟨H2.out.2.2.2.2.1, H2.out.2.2.2.2.2.1, H2.out.2.2.2.2.2.2, H3.out.2.1, H3.out.2.2⟩
  clear hB6 hA6 H2 H3 H4 H5 HM0
  refine (number_any w.heap.size w.heap.size r1 S w3.heap.size M0 z _ HBo.out.e1 HI.out.1 HI.out.2.1 HBo.out.m1 HI.out.2.2.2.2 HI.out.2.2.2.1 hz (HBo.out.e1.ne_mod HBo.out.m1) (HBo.out.e1.row_mod HBo.out.m1) (by have := HI.out.2.2.1; omega)).mono ?_
  rintro e w7 ⟨rfl, r1', hE7, hM7, hA7⟩
  have hB7 := (HBo.out.symm.step hE7 hM7 hA7).symm
  have hs7 : w6.heap.size ≤ w7.heap.size := hM7.2.1
  clear hE7 hM7 hA7 HBo
  have hn := bitLen_64 z hz
  have HLN : Hid (Lib.bitLen ((z : Int)).toNat = Lib.bitLen z) := by show Lib.bitLen ((z : Int)).toNat = Lib.bitLen z; rw [Int.toNat_natCast]
  generalize Lib.bitLen z = n at *
  generalize hFM : numRun z n S M0 = FM at *
  obtain ⟨F, MF⟩ := FM
  have HFM : Hid (numRun z n S M0 = (F, MF)) := hFM
  have HB7 : Hid (Both w.heap.size w.heap.size (w.heap.size + 1) w3.heap.size w5.heap.size r1' r2 F S MF M0 w w7) := hB7
  clear hB7 hFM
  go_wp2_with fail
  refine (Yba.bits_Len64 z _ (by omega) (by omega)).mono ?_
  rintro e w8 ⟨rfl, hw8⟩
  subst hw8
  rw [HLN.out]
  have hl1 : less1 n < 18446744073709551616 := Nat.mod_lt _ (by omega)
  have hW : IntKind.u64.wrap ((n : Int) - 1) = ((less1 n : Nat) : Int) := by
    rw [IntKind.wrap_u64]; unfold less1; omega
  obtain ⟨vv, hvv⟩ : ∃ vv, vv = less1 n % 64 := ⟨_, rfl⟩
  have hV : bits .and .u64 ((less1 n : Nat) : Int) 63 = (vv : Int) := by rw [hvv]; exact and_63 (less1 n) hl1
  have hvv64 : vv < 18446744073709551616 := by omega
  have HVV : Hid (treeRun 6 1 vv S M0 = treeRun 6 1 (less1 n) S M0) := by rw [hvv]; exact treeRun_low 6 1 (less1 n) S M0 (Nat.le_refl _)
  clear hvv
  go_wp2_with fail
  go_loopg [13, 14] 6 (fun gk nd ki wr => ∃ (node : Nat) (T : St) (N : List Int) (r' : Option Nat), nd = .int .u64 node ∧ ki = .int .i64 ((gk : Int) - 1) ∧ gk ≤ 6 ∧ Hid ((node + 1) * 2 ^ gk ≤ 128) ∧ Hid (treeRun gk node vv T N = treeRun 6 1 vv S M0) ∧
      Hid (Both w.heap.size w.heap.size (w.heap.size + 1) w3.heap.size w5.heap.size r1' r' F T MF N w wr ∧ Inv T ∧ 16777216 ≤ T.rng ∧ Probs N ∧ N.length = 145 ∧ T.buf.length + gk ≤ 2000))
  case atStart =>
    obtain ⟨g1, g2, g3, g4, g5⟩ := HI.out
    exact ⟨1, S, M0, r2, rfl, rfl, Nat.le_refl _, (show (1 + 1) * 2 ^ 6 ≤ 128 by decide), rfl, HB7.out, g1, g2, g5, g4, by omega⟩
  case round =>
    obtain ⟨node, T, N, r', rfl, hk, hg6, hnd, htr, hfx⟩ := hrel
    cases gk with
    | succ k =>
      obtain rfl : _ = Value.int .i64 (k : Int) := hk.trans (by congr 1; omega)
      clear hk
      obtain ⟨gB, gI, gR, gP, gL, gN⟩ := hfx.out
      have hn64 : node < 64 := by
        have := hnd.out
        have h2 : (node + 1) * 2 ≤ (node + 1) * 2 ^ (k + 1) := Nat.mul_le_mul_left _ (by rw [Nat.pow_succ]; have := Nat.one_le_two_pow (n := k); omega)
        omega
      have hcell := gB.m2.cell (i := node) (by omega)
      have hfz := gB.m2.frozen node
      have hc5 := gB.m2.lt
      have hpr := gP.getD (i := node) (by omega)
      obtain ⟨bt, hbt⟩ : ∃ bt, bt = bitAt vv k := ⟨_, rfl⟩
      have hb01 : bt = 0 ∨ bt = 1 := by rw [hbt]; exact bitAt_bd vv k
      have heb : bits .and .u64 ((vv : Int) / 2 ^ k) 1 = (bt : Int) := by rw [hbt]; exact and_shift vv k hvv64
      have hor : bits .or .u64 ((node : Int) * 2) (bt : Int) = ((2 * node + bt : Nat) : Int) := or_bit node bt (by omega) hb01
      have hstep : treeRun k (2 * node + bt) vv (encS T (N.getD node 0) bt) (N.set node (adapt (N.getD node 0) bt)) = treeRun 6 1 vv S M0 := by
        rw [← htr.out, hbt]; rfl
      have hen := enc_inv T (N.getD node 0) bt gI gR hpr
      have hel := enc_length T (N.getD node 0) bt
      have had := adapt_prob (N.getD node 0) bt hpr
      have hnd2 : (2 * node + bt + 1) * 2 ^ k ≤ 128 := by
        have h1 := hnd.out
        rw [Nat.pow_succ] at h1
        have h2 : (2 * node + bt + 1) * 2 ^ k ≤ (2 * node + 2) * 2 ^ k := Nat.mul_le_mul_right _ (by omega)
        have h3 : (2 * node + 2) * 2 ^ k = (node + 1) * (2 ^ k * 2) := by rw [show 2 * node + 2 = (node + 1) * 2 by omega, Nat.mul_assoc, Nat.mul_comm 2]
        omega
      generalize N.getD node 0 = x at *
      have HX : Hid (treeRun k (2 * node + bt) vv (encS T x bt) (N.set node (adapt x bt)) = treeRun 6 1 vv S M0 ∧ (2 * node + bt + 1) * 2 ^ k ≤ 128 ∧ Inv (encS T x bt) ∧ 16777216 ≤ (encS T x bt).rng ∧ (encS T x bt).buf.length ≤ T.buf.length + 1 ∧ Prob (adapt x bt)) := ⟨hstep, hnd2, hen.1, hen.2, hel, had⟩
      have HY : Hid (Prob x ∧ ((bt : Int) = 0 ∨ (bt : Int) = 1) ∧ wr.cell? ⟨w5.heap.size, node, none⟩ = some (.int .u16 x) ∧ wr.frozen? ⟨w5.heap.size, node, none⟩ = false) := ⟨hpr, by omega, hcell, hfz⟩
      clear gB gI gR gP gL gN hstep hnd2 hbt htr hnd hen hel had hcell hfz hpr
      go_wp2_with fail
      refine (encode_any w.heap.size (w.heap.size + 1) r' T.buf T.low T.rng w5.heap.size node x bt _ hfx.out.1.e2 hfx.out.2.1 hfx.out.2.2.1 HY.out.1 HY.out.2.1 HY.out.2.2.1 HY.out.2.2.2 (hfx.out.1.e2.ne_mod hfx.out.1.m2) (hfx.out.1.e2.row_mod hfx.out.1.m2) hc5 (by have := hfx.out.2.2.2.2.2; omega)).mono ?_
      rintro e w9 ⟨rfl, r9, hE9, hM9, hA9⟩
      have HB9 : Hid (Both w.heap.size w.heap.size (w.heap.size + 1) w3.heap.size w5.heap.size r1' r9 F (encS T x bt) MF (N.set node (adapt x bt)) w w9) := hfx.out.1.encoded hE9 hM9 hA9
      clear hE9 hM9 hA9
      go_wp2
      go_roundg k
      case measure => omega
      case rel =>
        obtain ⟨gB, gI, gR, gP, gL, gN⟩ := hfx.out
        obtain ⟨x1, x2, x3, x4, x5, x6⟩ := HX.out
        exact ⟨2 * node + bt, encS T x bt, N.set node (adapt x bt), r9, by go_num, rfl, by omega, x2, x1, HB9.out, x3, x4, gP.set node x6, by rw [List.length_set]; exact gL, by omega⟩
    | zero =>
      obtain rfl : _ = Value.int .i64 (-1) := hk
      have ht : (T, N) = treeRun 6 1 (less1 n) S M0 := htr.out.trans HVV.out
      by_cases hn2 : n < 2
      · have hn2i : (n : Int) < 2 := by omega
        have hx2 := numRun_short z n S T M0 N ht hn2
        rw [HFM.out] at hx2
        obtain ⟨rfl, rfl⟩ : F = T ∧ MF = N := by simpa using hx2
        have HG : Hid (Both w.heap.size w.heap.size (w.heap.size + 1) w3.heap.size w5.heap.size r1' r' F F MF MF w wr ∧ MF.length = 145 ∧ F.buf.length ≤ 3000) := ⟨hfx.out.1, hfx.out.2.2.2.2.1, by have := hfx.out.2.2.2.2.2; omega⟩
        clear hfx htr HVV hnd hl1 hvv64 hzv hV hW HI HB7 HFM HLN ht hx2
        obtain ⟨p1, q1, x1, y1⟩ := HG.out.1.e1.reads
        obtain ⟨p2, q2, x2, y2⟩ := HG.out.1.e2.reads
        obtain ⟨u11, u12, u13, _⟩ := HG.out.1.e1.cells
        obtain ⟨u21, u22, u23, _⟩ := HG.out.1.e2.cells
        have HY : Hid (wr.ownsRow w.heap.size 5 1 (.slice p1 F.buf.length q1) F.buf.length (bcells F.buf) ∧ wr.ownsRow w.heap.size 5 1 (.slice p2 F.buf.length q2) F.buf.length (bcells F.buf)) := ⟨y1, y2⟩
        clear y1 y2
        generalize hbl : F.buf.length = bl at *
        have HBL : Hid (F.buf.length = bl) := hbl
        clear hbl
        generalize F.low = fl at *
        generalize F.rng = fr at *
        go_wp2_with fail
        rw [← HBL.out]
        refine (equal_same _ _ w.heap.size F.buf _ (by rw [HBL.out]; exact HY.out.1) (by rw [HBL.out]; exact HY.out.2) (by have h1 := HG.out.2.2; have h2 := HBL.out; omega)).mono ?_
        rintro e wE ⟨rfl, q, hwE⟩
        subst hwE
        go_wp2_with (first
          | refine wpList_load36g (.tmp 9) rfl w3.heap.size rfl rfl MF HG.out.2.1 HG.out.1.m1 ?_
          | refine wpList_load36g (.tmp 10) rfl w5.heap.size rfl rfl MF HG.out.2.1 HG.out.1.m2 ?_
          | refine wpList_eq36g (.tmp 102) (.tmp 103) rfl rfl MF HG.out.2.1 rfl rfl ?_)
        go_ret
        have hbw := HG.out.1.below
        exact ⟨rfl, hbw.os, hbw.tape, hbw.output, hbw.size, hbw.block⟩
      · have hn2i : (2 : Int) ≤ (n : Int) := by omega
        obtain ⟨gB, gI, gR, gP, gL, gN⟩ := hfx.out
        have hcell := gB.m2.cell (i := 64 + n) (by omega)
        have hfz := gB.m2.frozen (64 + n)
        have hc5 := gB.m2.lt
        have hpr := gP.getD (i := 64 + n) (by omega)
        have hf2 : n = 2 → F = encS T (N.getD (64 + n) 0) (bitAt z (n - 2)) ∧ MF = N.set (64 + n) (adapt (N.getD (64 + n) 0) (bitAt z (n - 2))) := fun e => by
          have h := numRun_two z n S T M0 N ht e
          rw [HFM.out] at h
          exact ⟨congrArg Prod.fst h, congrArg Prod.snd h⟩
        have hf3 : 3 ≤ n → F = bitsRun 8 z (n - 2) (encS T (N.getD (64 + n) 0) (bitAt z (n - 2))) ∧ MF = N.set (64 + n) (adapt (N.getD (64 + n) 0) (bitAt z (n - 2))) := fun e => by
          have h := numRun_more z n S T M0 N ht e
          rw [HFM.out] at h
          exact ⟨congrArg Prod.fst h, congrArg Prod.snd h⟩
        obtain ⟨bt, hbt⟩ : ∃ bt, bt = bitAt z (n - 2) := ⟨_, rfl⟩
        have hb01 : bt = 0 ∨ bt = 1 := by rw [hbt]; exact bitAt_bd z (n - 2)
        have heb : bits .and .u64 ((z : Int) / 2 ^ (n - 2)) 1 = (bt : Int) := by rw [hbt]; exact and_shift z (n - 2) hz
        rw [← hbt] at hf2 hf3
        generalize N.getD (64 + n) 0 = x at *
        have hen := enc_inv T x bt gI gR hpr
        have hel := enc_length T x bt
        have HY : Hid (Prob x ∧ ((bt : Int) = 0 ∨ (bt : Int) = 1) ∧ wr.cell? ⟨w5.heap.size, 64 + n, none⟩ = some (.int .u16 x) ∧ wr.frozen? ⟨w5.heap.size, 64 + n, none⟩ = false) := ⟨hpr, by omega, hcell, hfz⟩
        have HZ : Hid ((n = 2 → F = encS T x bt ∧ MF = N.set (64 + n) (adapt x bt)) ∧ (3 ≤ n → F = bitsRun 8 z (n - 2) (encS T x bt) ∧ MF = N.set (64 + n) (adapt x bt)) ∧ Inv (encS T x bt) ∧ 16777216 ≤ (encS T x bt).rng ∧ (encS T x bt).buf.length ≤ 2001) := ⟨hf2, hf3, hen.1, hen.2, by omega⟩
        have hn2n : 2 ≤ n := by omega
        clear gB gI gR gP gL gN hcell hfz hpr hf2 hf3 hbt hen hel htr HVV hnd hl1 hvv64 hzv hV hW HI HB7 HFM HLN ht hn2
        go_wp2_with fail
        refine (encode_any w.heap.size (w.heap.size + 1) r' T.buf T.low T.rng w5.heap.size (64 + n) x bt _ hfx.out.1.e2 hfx.out.2.1 hfx.out.2.2.1 HY.out.1 HY.out.2.1 HY.out.2.2.1 HY.out.2.2.2 (hfx.out.1.e2.ne_mod hfx.out.1.m2) (hfx.out.1.e2.row_mod hfx.out.1.m2) hc5 (by have := hfx.out.2.2.2.2.2; omega)).mono ?_
        rintro e w9 ⟨rfl, r9, hE9, hM9, hA9⟩
        have hB9 : Both w.heap.size w.heap.size (w.heap.size + 1) w3.heap.size w5.heap.size r1' r9 F (encS T x bt) MF (N.set (64 + n) (adapt x bt)) w w9 := hfx.out.1.encoded hE9 hM9 hA9
        have hNN : (N.set (64 + n) (adapt x bt)).length = 145 := by rw [List.length_set]; exact hfx.out.2.2.2.2.1
        clear hE9 hM9 hA9 HY heb
        by_cases hn3 : n = 2
        · obtain ⟨z1, z2⟩ := HZ.out.1 hn3
          have z3 := HZ.out.2.2.2.2
          rw [← z1, ← z2] at hB9
          rw [← z2] at hNN
          rw [← z1] at z3
          have HG : Hid (Both w.heap.size w.heap.size (w.heap.size + 1) w3.heap.size w5.heap.size r1' r9 F F MF MF w w9 ∧ MF.length = 145 ∧ F.buf.length ≤ 3000) := ⟨hB9, hNN, by omega⟩
          clear z1 z2 z3 hB9 hNN HZ hfx hb01
          subst hn3
          obtain ⟨p1, q1, x1, y1⟩ := HG.out.1.e1.reads
          obtain ⟨p2, q2, x2, y2⟩ := HG.out.1.e2.reads
          obtain ⟨u11, u12, u13, _⟩ := HG.out.1.e1.cells
          obtain ⟨u21, u22, u23, _⟩ := HG.out.1.e2.cells
          have HY : Hid (w9.ownsRow w.heap.size 5 1 (.slice p1 F.buf.length q1) F.buf.length (bcells F.buf) ∧ w9.ownsRow w.heap.size 5 1 (.slice p2 F.buf.length q2) F.buf.length (bcells F.buf)) := ⟨y1, y2⟩
          clear y1 y2
          generalize hbl : F.buf.length = bl at *
          have HBL : Hid (F.buf.length = bl) := hbl
          clear hbl
          generalize F.low = fl at *
          generalize F.rng = fr at *
          go_wp2_with fail
          rw [← HBL.out]
          refine (equal_same _ _ w.heap.size F.buf _ (by rw [HBL.out]; exact HY.out.1) (by rw [HBL.out]; exact HY.out.2) (by have h1 := HG.out.2.2; have h2 := HBL.out; omega)).mono ?_
          rintro e wE ⟨rfl, q, hwE⟩
          subst hwE
          go_wp2_with (first
            | refine wpList_load36g (.tmp 9) rfl w3.heap.size rfl rfl MF HG.out.2.1 HG.out.1.m1 ?_
            | refine wpList_load36g (.tmp 10) rfl w5.heap.size rfl rfl MF HG.out.2.1 HG.out.1.m2 ?_
            | refine wpList_eq36g (.tmp 102) (.tmp 103) rfl rfl MF HG.out.2.1 rfl rfl ?_)
          go_ret
          have hbw := HG.out.1.below
          exact ⟨rfl, hbw.os, hbw.tape, hbw.output, hbw.size, hbw.block⟩
        · obtain ⟨z1, z2⟩ := HZ.out.2.1 (by omega)
          have hn3i : (3 : Int) ≤ (n : Int) := by omega
          have hn3n : 3 ≤ n := by omega
          obtain ⟨_, _, z3, z4, z5⟩ := HZ.out
          have hbi := bits_inv 8 z (n - 2) (encS T x bt) z3 z4
          rw [← z1] at hbi
          rw [← z2] at hB9 hNN
          have HZ2 : Hid (Both w.heap.size w.heap.size (w.heap.size + 1) w3.heap.size w5.heap.size r1' r9 F (encS T x bt) MF MF w w9 ∧ MF.length = 145 ∧ F.buf.length ≤ 3000 ∧ F = bitsRun 8 z (n - 2) (encS T x bt) ∧ Inv (encS T x bt) ∧ 16777216 ≤ (encS T x bt).rng ∧ (encS T x bt).buf.length ≤ 2001) := ⟨hB9, hNN, by omega, z1, z3, z4, z5⟩
          clear z1 z2 z3 z4 z5 hB9 hNN HZ hfx hb01 hn3 hbi
          generalize encS T x bt = T2 at *
          go_wp2_with fail
          rw [show ((n : Int) - 2) = ((n - 2 : Nat) : Int) by omega]
          refine (bits_any w.heap.size (w.heap.size + 1) r9 T2 z (n - 2) _ HZ2.out.1.e2 HZ2.out.2.2.2.2.1 HZ2.out.2.2.2.2.2.1 hz (by omega) (by have := HZ2.out.2.2.2.2.2.2; omega)).mono ?_
          rintro e w10 ⟨rfl, r10, hE10, hM10⟩
          have hB10 := HZ2.out.1.plain hE10 hM10
          rw [← HZ2.out.2.2.2.1] at hB10
          have HG : Hid (Both w.heap.size w.heap.size (w.heap.size + 1) w3.heap.size w5.heap.size r1' r10 F F MF MF w w10 ∧ MF.length = 145 ∧ F.buf.length ≤ 3000) := ⟨hB10, HZ2.out.2.1, HZ2.out.2.2.1⟩
          clear hE10 hM10 hB10 HZ2
          obtain ⟨p1, q1, x1, y1⟩ := HG.out.1.e1.reads
          obtain ⟨p2, q2, x2, y2⟩ := HG.out.1.e2.reads
          obtain ⟨u11, u12, u13, _⟩ := HG.out.1.e1.cells
          obtain ⟨u21, u22, u23, _⟩ := HG.out.1.e2.cells
          have HY : Hid (w10.ownsRow w.heap.size 5 1 (.slice p1 F.buf.length q1) F.buf.length (bcells F.buf) ∧ w10.ownsRow w.heap.size 5 1 (.slice p2 F.buf.length q2) F.buf.length (bcells F.buf)) := ⟨y1, y2⟩
          clear y1 y2
          generalize hbl : F.buf.length = bl at *
          have HBL : Hid (F.buf.length = bl) := hbl
          clear hbl
          generalize F.low = fl at *
          generalize F.rng = fr at *
          go_wp2_with fail
          rw [← HBL.out]
          refine (equal_same _ _ w.heap.size F.buf _ (by rw [HBL.out]; exact HY.out.1) (by rw [HBL.out]; exact HY.out.2) (by have h1 := HG.out.2.2; have h2 := HBL.out; omega)).mono ?_
          rintro e wE ⟨rfl, q, hwE⟩
          subst hwE
          go_wp2_with (first
            | refine wpList_load36g (.tmp 9) rfl w3.heap.size rfl rfl MF HG.out.2.1 HG.out.1.m1 ?_
            | refine wpList_load36g (.tmp 10) rfl w5.heap.size rfl rfl MF HG.out.2.1 HG.out.1.m2 ?_
            | refine wpList_eq36g (.tmp 102) (.tmp 103) rfl rfl MF HG.out.2.1 rfl rfl ?_)
          go_ret
          have hbw := HG.out.1.below
          exact ⟨rfl, hbw.os, hbw.tape, hbw.output, hbw.size, hbw.block⟩
end Go.Proofs.Ybulkalfa
