/-
  b1846a: LawS1846BModel (3): the walk.
-/
import Derived.Test.YbulkalfaEq
import Derived.Test.YbulkalfaBLaw
namespace Go.Proofs.Ybulkalfa
open Go.RowKit
set_option linter.unusedVariables false
set_option linter.unusedSimpArgs false

theorem Moved.below {B b : Nat} {r m : Option Nat} {w w' : World} {r' : Option Nat} (h : Moved b r m w w' r') (hB : B ≤ w.heap.size) (h1 : B ≤ b) (h2 : ∀ k, r = some k → B ≤ k) (h3 : ∀ k, m = some k → B ≤ k) : Below B w w' :=
  ⟨h.1.1, h.1.2.1, h.1.2.2, h.2.1, fun k hk => h.2.2.1 k (by omega) (by omega) (fun e => by have := h2 k e; omega) (fun e => by have := h3 k e; omega)⟩

theorem num_rng (z n : Nat) (S : St) (M : List Int) (hn : n ≤ 64) (hI : Inv S) (hR : 16777216 ≤ S.rng) (hP : Probs M) (hM : M.length = 145) : 16777216 ≤ (numRun z n S M).1.rng := by
  obtain ⟨t1, t2, t3, t4, t5⟩ := tree_inv 6 1 (less1 n) S M hI hR hP (by rw [hM]; decide)
  unfold numRun tailRun
  split
  · exact t2
  · obtain ⟨e1, e2⟩ := enc_inv (treeRun 6 1 (less1 n) S M).1 ((treeRun 6 1 (less1 n) S M).2.getD (64 + n) 0) (bitAt z (n - 2)) t1 t2 (t3.getD (by omega))
    show 16777216 ≤ (if 3 ≤ n then _ else _ : St).rng
    split
    · exact (bits_inv 8 z (n - 2) _ e1 e2).2.1
    · exact e2

theorem fresh_new (w : World) : Fresh w.heap.size (w.alloc (.cells #[.slice none 0 0, .int .i64 0, .int .u64 0, .int .u32 0] 27)) := heap_alloc_new w _

theorem raw_nil (w : World) : Raw w none 0 0 0 [] := ⟨fun h => by omega, fun k h => by omega, fun k => by simp, by omega, fun h => by omega⟩

/-- The encoder stands in a world in which only new blocks have come, and one of them been laid. -/
theorem EncAt.below {B b : Nat} {r : Option Nat} {buf : List Int} {lo rg : Int} {w w' : World} (h : EncAt B b r buf lo rg w) (hb : Below w.heap.size w w') : EncAt B b r buf lo rg w' :=
  h.kept (hb.block b h.lt) (fun k hk => hb.block k (h.row_lt k hk).2)
theorem ModAt.below {c : Nat} {M : List Int} {w w' : World} (h : ModAt c M w) (hb : Below w.heap.size w w') : ModAt c M w' := h.kept (hb.block c h.lt)

/-- 'm := zzs1846bmodel(..)': a new block, laid. -/
theorem laid_new (w : World) (M : List Int) : Below w.heap.size w ((w.alloc (.cells (mcells zeros) 36)).setRow w.heap.size (mcells M)) ∧ ModAt w.heap.size M ((w.alloc (.cells (mcells zeros) 36)).setRow w.heap.size (mcells M)) ∧
    w.heap.size < ((w.alloc (.cells (mcells zeros) 36)).setRow w.heap.size (mcells M)).heap.size :=
  ⟨below_setRow ((Below.refl _ _).alloc (Nat.le_refl _) _) (Nat.le_refl _) _, modAt_setRow (modAt_new w zeros), by simp⟩

set_option maxHeartbeats 4000000 in
set_option maxRecDepth 100000 in
theorem bmodel_walk (a0 : Option Addr) (len cap pb off z : Nat) (bs : List Bool) (w : World) (hp : 0 < len → a0 = some ⟨pb, off, none⟩) (hc : ∀ k, k < len → w.cell? ⟨pb, off + k, none⟩ = some (.bool (bs.getD k false)))
    (hfull : bs.length = len) (hblk : 0 < len → pb < w.heap.size) (hlen : len ≤ 9223372036854775807) (hz : z < 18446744073709551616) :
    Calls Yba.prog 3 #[.slice a0 len cap, .int .u64 z] w fun e w' => e = .returned (.bool true) ∧ Below w.heap.size w w' := by
  by_cases hbig : 1024 < len
  · have hb' : (1024 : Int) < (len : Int) := by omega
    clear hc hp
    go_enter Yba.func3, Yba.ntmps3
    go_wp2
    go_ret
    exact ⟨rfl, Below.refl _ _⟩
  have hb' : ¬ (1024 : Int) < (len : Int) := by omega
  have HP : Hid (Pre (w.alloc (.cells #[.slice none 0 0, .int .i64 0, .int .u64 0, .int .u32 0] 27)) a0 len pb off bs) :=
    Pre.below ⟨hp, hc, by omega, hfull, hblk⟩ ((Below.refl _ _).alloc (Nat.le_refl _) _)
  have hzv := zero36
  clear hp hc
  go_enter Yba.func3, Yba.ntmps3
  go_wp2_with fail
  refine (prep_any w.heap.size w.heap.size a0 len cap pb off bs _ (Nat.le_refl _) (fresh_new w) HP.out (fun h => by have := hblk h; omega)).mono ?_
  rintro e w1 ⟨rfl, r1, hE1, hM1, hI, hR, hL⟩
  have hB1 : Below w.heap.size w w1 := ((Below.refl _ _).alloc (Nat.le_refl _) _).trans (hM1.below (by simp) (Nat.le_refl _) (fun k e => by cases e) (fun k e => by cases e))
  generalize (prepRun bs).1 = S at *
  have hb1 : w.heap.size < w1.heap.size := hE1.lt
  have H1 : Hid (EncAt w.heap.size w.heap.size r1 S.buf S.low S.rng w1 ∧ Below w.heap.size w w1 ∧ Inv S ∧ 16777216 ≤ S.rng ∧ S.buf.length ≤ 1024) := ⟨hE1, hB1, hI, hR, hL⟩
  clear hE1 hM1 hI hR hL hB1 HP
  go_wp2_with fail
  refine (model_any none 0 0 0 0 [] _ (raw_nil _)).mono ?_
  rintro e w2 ⟨rfl, hB2⟩
  have hb2 : w1.heap.size ≤ w2.heap.size := hB2.size
  have hl := mdl_length [] 0
  have hpr := mdl_probs [] 0
  have hfresh : ∀ S n, n ≤ 64 → (numRun z n S (mdl [] 0)).2 = expRun z n (mdl [] 0) := fun S n hn => num_exp z n S hn
  generalize hM0 : mdl [] 0 = M0 at *
  have H2 : Hid (Below w1.heap.size w1 w2 ∧ M0.length = 145 ∧ Probs M0 ∧ (∀ S n, n ≤ 64 → (numRun z n S M0).2 = expRun z n M0)) := ⟨hB2, hl, hpr, hfresh⟩
  have HM0 : Hid (mdl [] 0 = M0) := hM0
  clear hB2 hl hpr hfresh hM0
  go_wp2_with (refine wpList_store36 rfl _ _ rfl w2.heap.size M0 zeros H2.out.2.1 (by decide) rfl rfl (modAt_new _ _) ?_)
  obtain ⟨hB3, hA3, hz3⟩ := laid_new w2 M0
  have hE3 := (H1.out.1.below H2.out.1).below hB3
  have hrc3 : r1 ≠ some w2.heap.size := fun e => by have := (H1.out.1.row_lt _ e).2; omega
  generalize (w2.alloc (.cells (mcells zeros) 36)).setRow w2.heap.size (mcells M0) = W3 at *
  refine (number_any w.heap.size w.heap.size r1 S w2.heap.size M0 z _ hE3 H1.out.2.2.1 H1.out.2.2.2.1 hA3 H2.out.2.2.1 H2.out.2.1 hz (by omega) hrc3 (by have := H1.out.2.2.2.2; omega)).mono ?_
  rintro e w4 ⟨rfl, r2, hE4, hM4, hA4⟩
  have hn := bitLen_64 z hz
  have hMx : (numRun z (Lib.bitLen z) S M0).2 = expRun z (Lib.bitLen z) M0 := H2.out.2.2.2 S _ hn
  have hRx : 16777216 ≤ (numRun z (Lib.bitLen z) S M0).1.rng := num_rng z (Lib.bitLen z) S M0 hn H1.out.2.2.1 H1.out.2.2.2.1 H2.out.2.2.1 H2.out.2.1
  rw [hMx] at hA4
  have hc4 := hE4.cells.2.2.1
  have hlt4 : w.heap.size < w4.heap.size := hE4.lt
  generalize (numRun z (Lib.bitLen z) S M0).1.rng = R at *
  have hB4 : Below w.heap.size w w4 := by
    refine ((H1.out.2.1.trans (H2.out.1.mono (by omega))).trans (hB3.mono (by omega))).trans (hM4.below ?_ (Nat.le_refl _) ?_ ?_)
    · omega
    · exact fun k e => (H1.out.1.row_lt k e).1
    · intro k e; have := Option.some.inj e; omega
  have HLN : Hid (Lib.bitLen ((z : Int)).toNat = Lib.bitLen z) := by show Lib.bitLen ((z : Int)).toNat = Lib.bitLen z; rw [Int.toNat_natCast]
  generalize Lib.bitLen z = n at *
  have H4 : Hid (ModAt w2.heap.size (expRun z n M0) w4 ∧ w4.cell? ⟨w.heap.size, 3, none⟩ = some (.int .u32 R) ∧ Below w.heap.size w w4 ∧ 16777216 ≤ R ∧ w2.heap.size < w4.heap.size) := ⟨hA4, hc4, hB4, hRx, hA4.lt⟩
  clear hB3 hA3 hz3 hE3 hrc3 hE4 hM4 hA4 hMx hRx hc4 hB4
  go_wp2_with fail
  refine (model_any none 0 0 0 0 [] _ (raw_nil _)).mono ?_
  rintro e w5 ⟨rfl, hB5⟩
  rw [HM0.out]
  have H5 : Hid (Below w4.heap.size w4 w5) := hB5
  have hb24 : w2.heap.size < w4.heap.size := H4.out.2.2.2.2
  have hb5 : w4.heap.size ≤ w5.heap.size := hB5.size
  clear hB5
  go_wp2_with (refine wpList_store36 rfl _ _ rfl w5.heap.size M0 zeros H2.out.2.1 (by decide) rfl rfl (modAt_new _ _) ?_)
  obtain ⟨hB6, hA6, hz6⟩ := laid_new w5 M0
  have H6 : Hid (ModAt w2.heap.size (expRun z n M0) ((w5.alloc (.cells (mcells zeros) 36)).setRow w5.heap.size (mcells M0)) ∧ ((w5.alloc (.cells (mcells zeros) 36)).setRow w5.heap.size (mcells M0)).cell? ⟨w.heap.size, 3, none⟩ = some (.int .u32 R) ∧
      Below w.heap.size w ((w5.alloc (.cells (mcells zeros) 36)).setRow w5.heap.size (mcells M0)) ∧ 16777216 ≤ R ∧ ModAt w5.heap.size M0 ((w5.alloc (.cells (mcells zeros) 36)).setRow w5.heap.size (mcells M0))) := by
    obtain ⟨g1, g2, g3, g4, g5⟩ := H4.out
    refine ⟨(g1.below H5.out).below hB6, ?_, (g3.trans (H5.out.mono (by omega))).trans (hB6.mono (by omega)), g4, hA6⟩
    exact ((hB6.cell (p := ⟨w.heap.size, 3, none⟩) (by show w.heap.size < w5.heap.size; omega)).trans (H5.out.cell (p := ⟨w.heap.size, 3, none⟩) hlt4)).trans g2
  clear hB6 hA6 hz6
  generalize (w5.alloc (.cells (mcells zeros) 36)).setRow w5.heap.size (mcells M0) = W6 at *
  refine (Yba.bits_Len64 z _ (by omega) (by omega)).mono ?_
  rintro e w6 ⟨rfl, hw6⟩
  subst hw6
  rw [HLN.out]
  have hl1 : less1 n < 18446744073709551616 := Nat.mod_lt _ (by omega)
  have hW : IntKind.u64.wrap ((n : Int) - 1) = ((less1 n : Nat) : Int) := by
    rw [IntKind.wrap_u64]; unfold less1; omega
  obtain ⟨vv, hvv⟩ : ∃ vv, vv = less1 n % 64 := ⟨_, rfl⟩
  have hV : bits .and .u64 ((less1 n : Nat) : Int) 63 = (vv : Int) := by rw [hvv]; exact and_63 (less1 n) hl1
  have hvv64 : vv < 18446744073709551616 := by omega
  have HVV : Hid (treeExp 6 1 vv M0 = treeExp 6 1 (less1 n) M0) := by rw [hvv]; exact treeExp_low 6 1 (less1 n) M0 (Nat.le_refl _)
  clear hvv
  go_wp2_with fail
  go_loopg [10, 11] 6 (fun gk nd ki wr => ∃ (node : Nat) (N : List Int), nd = .int .u64 node ∧ ki = .int .i64 ((gk : Int) - 1) ∧ gk ≤ 6 ∧ Hid ((node + 1) * 2 ^ gk ≤ 128) ∧ Hid (treeExp gk node vv N = treeExp 6 1 vv M0) ∧
      Hid (ModAt w2.heap.size (expRun z n M0) wr ∧ wr.cell? ⟨w.heap.size, 3, none⟩ = some (.int .u32 R) ∧ Below w.heap.size w wr ∧ 16777216 ≤ R ∧ ModAt w5.heap.size N wr ∧ N.length = 145))
  case atStart =>
    obtain ⟨g1, g2, g3, g4, g5⟩ := H6.out
    exact ⟨1, M0, rfl, rfl, Nat.le_refl _, (show (1 + 1) * 2 ^ 6 ≤ 128 by decide), rfl, g1, g2, g3, g4, g5, H2.out.2.1⟩
  case round =>
    obtain ⟨node, N, rfl, hk, hg6, hnd, htr, hfx⟩ := hrel
    cases gk with
    | succ k =>
      obtain rfl : _ = Value.int .i64 (k : Int) := hk.trans (by congr 1; omega)
      clear hk
      obtain ⟨g1, g2, g3, g4, g5, g6⟩ := hfx.out
      have hn64 : node < 64 := by
        have := hnd.out
        have h2 : (node + 1) * 2 ≤ (node + 1) * 2 ^ (k + 1) := Nat.mul_le_mul_left _ (by rw [Nat.pow_succ]; have := Nat.one_le_two_pow (n := k); omega)
        omega
      have hcell := g5.cell (i := node) (by omega)
      have hfz := g5.frozen node
      obtain ⟨bt, hbt⟩ : ∃ bt, bt = bitAt vv k := ⟨_, rfl⟩
      have hb01 : bt = 0 ∨ bt = 1 := by rw [hbt]; exact bitAt_bd vv k
      have heb : bits .and .u64 ((vv : Int) / 2 ^ k) 1 = (bt : Int) := by rw [hbt]; exact and_shift vv k hvv64
      have hor : bits .or .u64 ((node : Int) * 2) (bt : Int) = ((2 * node + bt : Nat) : Int) := or_bit node bt (by omega) hb01
      have hstep : treeExp k (2 * node + bt) vv (N.set node (adapt 2048 bt)) = treeExp 6 1 vv M0 := by
        rw [← htr.out, hbt]; rfl
      have hnd2 : (2 * node + bt + 1) * 2 ^ k ≤ 128 := by
        have h1 := hnd.out
        rw [Nat.pow_succ] at h1
        have h2 : (2 * node + bt + 1) * 2 ^ k ≤ (2 * node + 2) * 2 ^ k := Nat.mul_le_mul_right _ (by omega)
        have h3 : (2 * node + 2) * 2 ^ k = (node + 1) * (2 ^ k * 2) := by rw [show 2 * node + 2 = (node + 1) * 2 by omega, Nat.mul_assoc, Nat.mul_comm 2]
        omega
      have HX : Hid (treeExp k (2 * node + bt) vv (N.set node (adapt 2048 bt)) = treeExp 6 1 vv M0 ∧ (2 * node + bt + 1) * 2 ^ k ≤ 128) := ⟨hstep, hnd2⟩
      clear g1 g2 g3 g4 g5 g6 hstep hnd2 hbt htr hnd
      go_wp2_with fail
      refine (after_any bt _ hb01).mono ?_
      rintro e w7 ⟨rfl, hw7⟩
      subst hw7
      generalize adapt 2048 (bt : Int) = y at *
      go_wp2
      go_roundg k
      case measure => omega
      case rel =>
        obtain ⟨g1, g2, g3, g4, g5, g6⟩ := hfx.out
        refine ⟨2 * node + bt, N.set node y, by go_num, rfl, by omega, HX.out.2, HX.out.1, g1.kept (Below.heap_setCell _ _ _ _ (by show w2.heap.size ≠ w5.heap.size; omega)), ?_, g3.setCell (by show w.heap.size ≤ w5.heap.size; omega) _, g4, g5.stored node y rfl, by rw [List.length_set]; exact g6⟩
        rw [World.cell?_setCell_other _ _ _ _ (by first | (simp; done) | (simp; omega))]
        exact g2
    | zero =>
      obtain rfl : _ = Value.int .i64 (-1) := hk
      have HN : Hid (N = treeExp 6 1 (less1 n) M0) := htr.out.trans HVV.out
      clear htr HVV hnd hl1 hvv64 hzv hV hW H1 H4 H5 H6 HM0
      by_cases hn2 : n < 2
      · have hn2i : (n : Int) < 2 := by omega
        have hx2 : expRun z n M0 = N := by unfold expRun; rw [if_pos hn2, HN.out]
        obtain ⟨g1, g2, g3, g4, g5, g6⟩ := hfx.out
        rw [hx2] at g1
        have HG : Hid (ModAt w2.heap.size N wr ∧ ModAt w5.heap.size N wr ∧ N.length = 145 ∧ Below w.heap.size w wr) := ⟨g1, g5, g6, g3⟩
        clear g1 g3 g5 g6 hx2 hfx hn2 HN H2
        go_wp2_with (first
          | refine wpList_load36 rfl (.tmp 6) rfl w2.heap.size rfl N HG.out.2.2.1 HG.out.1 ?_
          | refine wpList_load36 rfl (.tmp 7) rfl w5.heap.size rfl N HG.out.2.2.1 HG.out.2.1 ?_
          | refine wpList_eq36 rfl (.tmp 57) (.tmp 58) rfl N HG.out.2.2.1 rfl rfl ?_)
        go_ret
        exact ⟨rfl, HG.out.2.2.2⟩
      · have hn2i : (2 : Int) ≤ (n : Int) := by omega
        obtain ⟨bt, hbt⟩ : ∃ bt, bt = bitAt z (n - 2) := ⟨_, rfl⟩
        have hb01 : bt = 0 ∨ bt = 1 := by rw [hbt]; exact bitAt_bd z (n - 2)
        have heb : bits .and .u64 ((z : Int) / 2 ^ (n - 2)) 1 = (bt : Int) := by rw [hbt]; exact and_shift z (n - 2) hz
        have hx2 : expRun z n M0 = N.set (64 + n) (adapt 2048 bt) := by unfold expRun; rw [if_neg hn2, HN.out, hbt]
        obtain ⟨g1, g2, g3, g4, g5, g6⟩ := hfx.out
        rw [hx2] at g1
        have hcell := g5.cell (i := 64 + n) (by omega)
        have hfz := g5.frozen (64 + n)
        generalize hy : adapt 2048 (bt : Int) = y at *
        have HY : Hid (adapt 2048 (bt : Int) = y) := hy
        clear hy
        have HG : Hid (ModAt w2.heap.size (N.set (64 + n) y) wr ∧ ModAt w5.heap.size N wr ∧ N.length = 145 ∧ Below w.heap.size w wr ∧ wr.cell? ⟨w.heap.size, 3, none⟩ = some (.int .u32 R)) := ⟨g1, g5, g6, g3, g2⟩
        have hn2n : 2 ≤ n := by omega
        clear g1 g2 g3 g5 g6 hx2 hfx hn2 HN H2 hbt
        go_wp2_with fail
        refine (after_any bt _ hb01).mono ?_
        rintro e w7 ⟨rfl, hw7⟩
        subst hw7
        rw [HY.out]
        have HG2 : Hid (ModAt w2.heap.size (N.set (64 + n) y) (w7.setCell ⟨w5.heap.size, 64 + n, none⟩ (.int .u16 y)) ∧ ModAt w5.heap.size (N.set (64 + n) y) (w7.setCell ⟨w5.heap.size, 64 + n, none⟩ (.int .u16 y)) ∧ (N.set (64 + n) y).length = 145 ∧ Below w.heap.size w (w7.setCell ⟨w5.heap.size, 64 + n, none⟩ (.int .u16 y))) := by
          obtain ⟨g1, g5, g6, g3, g2⟩ := HG.out
          exact ⟨g1.kept (Below.heap_setCell _ _ _ _ (by show w2.heap.size ≠ w5.heap.size; omega)), g5.stored _ _ rfl, by rw [List.length_set]; exact g6, g3.setCell (by show w.heap.size ≤ w5.heap.size; omega) _⟩
        have g2' : (w7.setCell ⟨w5.heap.size, 64 + n, none⟩ (.int .u16 y)).cell? ⟨w.heap.size, 3, none⟩ = some (.int .u32 R) := by
          rw [World.cell?_setCell_other _ _ _ _ (by first | (simp; done) | (simp; omega))]
          exact HG.out.2.2.2.2
        generalize hNN : N.set (64 + n) y = NN at *
        clear hNN HG
        go_wp2_with (first
          | refine wpList_load36 rfl (.tmp 6) rfl w2.heap.size rfl NN HG2.out.2.2.1 HG2.out.1 ?_
          | refine wpList_load36 rfl (.tmp 7) rfl w5.heap.size rfl NN HG2.out.2.2.1 HG2.out.2.1 ?_
          | refine wpList_eq36 rfl (.tmp 57) (.tmp 58) rfl NN HG2.out.2.2.1 rfl rfl ?_)
        go_ret
        exact ⟨rfl, HG2.out.2.2.2⟩
end Go.Proofs.Ybulkalfa
