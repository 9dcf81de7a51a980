/-
  b1846a: reset (18), zzs1846bprep (8): the walks.
-/
import Derived.Test.YbulkalfaModel
namespace Go.Proofs.Ybulkalfa
open Go.RowKit
set_option linter.unusedVariables false
set_option linter.unusedSimpArgs false

/-! ### Plain -/
def S0 : St := ⟨[], 0, 4294967295⟩
def b2i (b : Bool) : Int := if b then 1 else 0
def prepRun (l : List Bool) : St × Int := l.foldl (fun p b => (encS p.1 p.2 (b2i b), adapt p.2 (b2i b))) (S0, 2048)
theorem prepRun_snoc (l : List Bool) (b : Bool) : prepRun (l ++ [b]) = (encS (prepRun l).1 (prepRun l).2 (b2i b), adapt (prepRun l).2 (b2i b)) := by
  unfold prepRun; rw [List.foldl_append]; rfl
theorem S0_inv : Inv S0 := ⟨fun x hx => by simp [S0] at hx, by decide, by decide, by decide, by decide, fun h => absurd h (by decide)⟩

/-- What the walk is told of a slice of bools. -/
structure Pre (w : World) (a0 : Option Addr) (len b off : Nat) (bs : List Bool) : Prop where
  addr : 0 < len → a0 = some ⟨b, off, none⟩
  cell : ∀ k, k < len → w.cell? ⟨b, off + k, none⟩ = some (.bool (bs.getD k false))
  small : len ≤ 1024
  full : bs.length = len
  block : 0 < len → b < w.heap.size

theorem Pre.below {w w' : World} {a0 : Option Addr} {len b off : Nat} {bs : List Bool} (h : Pre w a0 len b off bs) (hb : Below w.heap.size w w') : Pre w' a0 len b off bs :=
  ⟨h.addr, fun k hk => (hb.cell (p := ⟨b, off + k, none⟩) (h.block (by omega))).trans (h.cell k hk), h.small, h.full, fun hl => Nat.lt_of_lt_of_le (h.block hl) hb.size⟩

/-- A rangeEncoder as 'var e rangeEncoder' lays it. -/
def Fresh (b : Nat) (w : World) : Prop := blockOf w b = some (.cells #[.slice none 0 0, .int .i64 0, .int .u64 0, .int .u32 0] 27 (0, 0))

set_option maxHeartbeats 400000 in
theorem reset_any (B b : Nat) (w : World) (hB : B ≤ b) (h : Fresh b w) :
    Calls Yba.prog 18 #[.pointer (some ⟨b, 0, none⟩), .slice none 0 0] w fun e w' => e = .returned (.tuple #[]) ∧ EncAt B b none [] 0 4294967295 w' ∧ Moved b none none w w' none := by
  have hh : w.heap[b]? = some (.cells #[.slice none 0 0, .int .i64 0, .int .u64 0, .int .u32 0] 27 (0, 0)) := h
  have c0 : w.cell? ⟨b, 0, none⟩ = some (.slice none 0 0) := by rw [Lib.cell_of_heap hh]; rfl
  have c1 : w.cell? ⟨b, 1, none⟩ = some (.int .i64 0) := by rw [Lib.cell_of_heap hh]; rfl
  have c2 : w.cell? ⟨b, 2, none⟩ = some (.int .u64 0) := by rw [Lib.cell_of_heap hh]; rfl
  have c3 : w.cell? ⟨b, 3, none⟩ = some (.int .u32 0) := by rw [Lib.cell_of_heap hh]; rfl
  have cf : ∀ o, w.frozen? ⟨b, o, none⟩ = false := fun o => Lib.frozen_of_heap hh o
  have HH : Hid (w.heap[b]? = some (.cells #[.slice none 0 0, .int .i64 0, .int .u64 0, .int .u32 0] 27 (0, 0))) := hh
  clear hh h
  go_enter Yba.func18, Yba.ntmps18
  go_wp2
  go_end0
  have h1 := heap_setCell_same w b 0 _ 27 (.slice none 0 0) HH.out
  have h2 := heap_setCell_same _ b 1 _ 27 (.int .i64 0) h1
  have h3 := heap_setCell_same _ b 2 _ 27 (.int .u64 0) h2
  have h4 := heap_setCell_same _ b 3 _ 27 (.int .u32 4294967295) h3
  refine ⟨rfl, ⟨hB, .slice none 0 0, h4, ?_, rfl, by simp⟩, ?_⟩
  · exact World.ownsRow_nil _ _ _ _
  · exact ((((Moved.refl b none none w).setB b 0 _ (.inl rfl)).setB b 1 _ (.inl rfl)).setB b 2 _ (.inl rfl)).setB b 3 _ (.inl rfl)

theorem Moved.alloc {b : Nat} {r m : Option Nat} {w w' : World} {r' : Option Nat} (h : Moved b r m w w' r') (o : Obj) : Moved b r m w (w'.alloc o) r' :=
  ⟨h.1, by have := h.2.1; simp; omega, fun k a b c d => (Below.heap_alloc _ _ _ (by have := h.2.1; omega)).trans (h.2.2.1 k a b c d), h.2.2.2⟩

/-- What lies in new blocks alone is no change of the old ones. -/
theorem Moved.forget {b : Nat} {r m : Option Nat} {w w' : World} {r' : Option Nat} {q : Nat} (h : Moved b r (some q) w w' r') (hq : w.heap.size ≤ q) : Moved b r m w w' r' :=
  ⟨h.1, h.2.1, fun k a b c d => h.2.2.1 k a b c (fun e => by have := Option.some.inj e; omega), h.2.2.2⟩

theorem b2i_bd (b : Bool) : b2i b = 0 ∨ b2i b = 1 := by cases b <;> simp [b2i]

set_option maxHeartbeats 1000000 in
set_option maxRecDepth 100000 in
theorem prep_any (B b : Nat) (a0 : Option Addr) (len cap pb off : Nat) (bs : List Bool) (w : World) (hB : B ≤ b) (hF : Fresh b w) (hp : Pre w a0 len pb off bs) (hpb : 0 < len → pb ≠ b) :
    Calls Yba.prog 8 #[.pointer (some ⟨b, 0, none⟩), .slice a0 len cap] w fun e w' => e = .returned (.tuple #[]) ∧ ∃ r', EncAt B b r' (prepRun bs).1.buf (prepRun bs).1.low (prepRun bs).1.rng w' ∧ Moved b none none w w' r' ∧ Inv (prepRun bs).1 ∧ 16777216 ≤ (prepRun bs).1.rng ∧ (prepRun bs).1.buf.length ≤ 1024 := by
  have hs := hp.small
  have hfl := hp.full
  have HP : Hid (Pre w a0 len pb off bs) := hp
  have HFL : Hid (bs.length = len) := hfl
  have HFr : Hid (Fresh b w) := hF
  clear hF hp hfl
  go_enter Yba.func8, Yba.ntmps8
  go_wp2_with fail
  refine (reset_any B b _ hB HFr.out).mono ?_
  rintro e w1 ⟨rfl, hE1, hM1⟩
  have hq : w.heap.size ≤ w1.heap.size := hM1.2.1
  have hbq : b < w1.heap.size := hE1.lt
  have HE : Hid (EncAt B b none [] 0 4294967295 w1 ∧ Moved b none none w w1 none) := ⟨hE1, hM1⟩
  clear hE1 hM1 HFr
  go_wp2
  go_loopg [5] len (fun gk i wr => ∃ (k : Nat) (S : St) (v : Int) (r' : Option Nat), k + gk = len ∧ i = .int .i64 k ∧ Hid ((S, v) = prepRun (bs.take k)) ∧
      Hid (EncAt B b r' S.buf S.low S.rng wr ∧ Moved b none (some w1.heap.size) w wr r' ∧ blockOf wr w1.heap.size = some (.cells #[.int .u16 v] 31 (0, 0)) ∧ Inv S ∧ 16777216 ≤ S.rng ∧ Prob v ∧ S.buf.length ≤ k))
  case atStart =>
    refine ⟨0, S0, 2048, none, by omega, rfl, rfl, HE.out.1.alloc _, (HE.out.2.mono.alloc _), ?_, S0_inv, by decide, ⟨by decide, by decide⟩, Nat.le_refl _⟩
    exact heap_alloc_new _ _
  case round =>
    obtain ⟨k, S, v, r', hk, rfl, hS, hx⟩ := hrel
    by_cases hlt : k < len
    · obtain ⟨gE, gM, gB, gI, gR, gP, gL⟩ := hx.out
      obtain rfl := HP.out.addr (by omega)
      have hcell : wr.cell? ⟨pb, off + k, none⟩ = some (.bool (bs.getD k false)) := by
        have hblk := HP.out.block (by omega)
        rw [World.cell?_of_block (w := w) (gM.block (k := pb) hblk (hpb (by omega)) (by simp) (by intro e; have := Option.some.inj e; omega))]
        exact HP.out.cell k hlt
      have hpc : wr.cell? ⟨w1.heap.size, 0, none⟩ = some (.int .u16 v) := by rw [Lib.cell_of_heap (show wr.heap[w1.heap.size]? = _ from gB)]; rfl
      have hpf : wr.frozen? ⟨w1.heap.size, 0, none⟩ = false := Lib.frozen_of_heap (show wr.heap[w1.heap.size]? = _ from gB) 0
      have hps : w1.heap.size < wr.heap.size := (Array.getElem?_eq_some_iff.1 (show wr.heap[w1.heap.size]? = _ from gB)).1
      have hklt : (k : Int) < (len : Int) := by omega
      have hrq : r' ≠ some w1.heap.size := gE.row_ne (show wr.heap[w1.heap.size]? = _ from gB) (by decide)
      have hsn : ∀ bv, bs.getD k false = bv → (encS S v (b2i bv), adapt v (b2i bv)) = prepRun (bs.take (k + 1)) := by
        intro bv hbv
        have hkl : k < bs.length := by rw [HFL.out]; exact hlt
        rw [List.take_succ_eq_append_getElem hkl, prepRun_snoc, ← hS.out]
        rw [List.getD_eq_getElem?_getD, List.getElem?_eq_getElem hkl] at hbv
        rw [show bs[k] = bv from hbv]
      have hei : ∀ bt, Inv (encS S v bt) ∧ 16777216 ≤ (encS S v bt).rng := fun bt => enc_inv S v bt gI gR gP
      have hea : ∀ bt, Prob (adapt v bt) := fun bt => adapt_prob v bt gP
      have hel : ∀ bt, (encS S v bt).buf.length ≤ k + 1 := fun bt => by have := enc_length S v bt; omega
      generalize hbv : bs.getD k false = bv at *
      have hsn' := hsn bv rfl
      have HX : Hid (EncAt B b r' S.buf S.low S.rng wr ∧ Moved b none (some w1.heap.size) w wr r' ∧ blockOf wr w1.heap.size = some (.cells #[.int .u16 v] 31 (0, 0)) ∧ Inv S ∧ 16777216 ≤ S.rng ∧ Prob v ∧ S.buf.length ≤ k) := ⟨gE, gM, gB, gI, gR, gP, gL⟩
      have HY : Hid ((encS S v (b2i bv), adapt v (b2i bv)) = prepRun (bs.take (k + 1)) ∧ (Inv (encS S v (b2i bv)) ∧ 16777216 ≤ (encS S v (b2i bv)).rng) ∧ Prob (adapt v (b2i bv)) ∧ (encS S v (b2i bv)).buf.length ≤ k + 1) := ⟨hsn', hei _, hea _, hel _⟩
      have HC : Hid (wr.cell? ⟨w1.heap.size, 0, none⟩ = some (.int .u16 v) ∧ wr.frozen? ⟨w1.heap.size, 0, none⟩ = false) := ⟨hpc, hpf⟩
      clear gE gM gB gI gR gP gL hsn hei hea hel hsn' hbv hpc hpf hx hS
      have hfin : ∀ (bt : Int) (w2 : World), bt = b2i bv → (∃ r2, EncAt B b r2 (encS S v bt).buf (encS S v bt).low (encS S v bt).rng w2 ∧ Moved b r' (some w1.heap.size) wr w2 r2 ∧ blockOf w2 w1.heap.size = blockOf (wr.setCell ⟨w1.heap.size, 0, none⟩ (.int .u16 (adapt v bt))) w1.heap.size) →
          ∃ (S2 : St) (v2 : Int) (r2 : Option Nat), (S2, v2) = prepRun (bs.take (k + 1)) ∧ EncAt B b r2 S2.buf S2.low S2.rng w2 ∧ Moved b none (some w1.heap.size) w w2 r2 ∧ blockOf w2 w1.heap.size = some (.cells #[.int .u16 v2] 31 (0, 0)) ∧ Inv S2 ∧ 16777216 ≤ S2.rng ∧ Prob v2 ∧ S2.buf.length ≤ k + 1 := by
        rintro bt w2 rfl ⟨r2, a1, a2, a3⟩
        obtain ⟨y1, ⟨y2, y3⟩, y4, y5⟩ := HY.out
        refine ⟨encS S v (b2i bv), adapt v (b2i bv), r2, y1, a1, HX.out.2.1.trans a2, ?_, y2, y3, y4, y5⟩
        rw [a3]
        show (wr.setCell ⟨w1.heap.size, 0, none⟩ (.int .u16 (adapt v (b2i bv)))).heap[w1.heap.size]? = _
        rw [heap_setCell_same wr w1.heap.size 0 _ 31 _ (show wr.heap[w1.heap.size]? = _ from HX.out.2.2.1)]
        rfl
      have HFin : Hid (∀ (bt : Int) (w2 : World), bt = b2i bv → (∃ r2, EncAt B b r2 (encS S v bt).buf (encS S v bt).low (encS S v bt).rng w2 ∧ Moved b r' (some w1.heap.size) wr w2 r2 ∧ blockOf w2 w1.heap.size = blockOf (wr.setCell ⟨w1.heap.size, 0, none⟩ (.int .u16 (adapt v bt))) w1.heap.size) →
          ∃ (S2 : St) (v2 : Int) (r2 : Option Nat), (S2, v2) = prepRun (bs.take (k + 1)) ∧ EncAt B b r2 S2.buf S2.low S2.rng w2 ∧ Moved b none (some w1.heap.size) w w2 r2 ∧ blockOf w2 w1.heap.size = some (.cells #[.int .u16 v2] 31 (0, 0)) ∧ Inv S2 ∧ 16777216 ≤ S2.rng ∧ Prob v2 ∧ S2.buf.length ≤ k + 1) := hfin
      clear hfin
      cases bv with
      | false =>
        go_wp2_with fail
        refine (encode_any B b r' S.buf S.low S.rng w1.heap.size 0 v 0 _ HX.out.1 HX.out.2.2.2.1 HX.out.2.2.2.2.1 HX.out.2.2.2.2.2.1 (.inl rfl) HC.out.1 HC.out.2 (by omega) hrq hps (by have := HX.out.2.2.2.2.2.2; omega)).mono ?_
        rintro e w2 ⟨rfl, hx2⟩
        obtain ⟨S2, v2, r2, f1, f2⟩ := HFin.out 0 w2 rfl hx2
        have HZ : Hid ((S2, v2) = prepRun (bs.take (k + 1)) ∧ EncAt B b r2 S2.buf S2.low S2.rng w2 ∧ Moved b none (some w1.heap.size) w w2 r2 ∧ blockOf w2 w1.heap.size = some (.cells #[.int .u16 v2] 31 (0, 0)) ∧ Inv S2 ∧ 16777216 ≤ S2.rng ∧ Prob v2 ∧ S2.buf.length ≤ k + 1) := ⟨f1, f2⟩
        clear f1 f2 hx2 HFin HX HY HC
        go_wp2
        go_roundg (gk - 1)
        case measure => omega
        case rel => exact ⟨k + 1, S2, v2, r2, by omega, by go_num, HZ.out.1, HZ.out.2⟩
      | true =>
        go_wp2_with fail
        refine (encode_any B b r' S.buf S.low S.rng w1.heap.size 0 v 1 _ HX.out.1 HX.out.2.2.2.1 HX.out.2.2.2.2.1 HX.out.2.2.2.2.2.1 (.inr rfl) HC.out.1 HC.out.2 (by omega) hrq hps (by have := HX.out.2.2.2.2.2.2; omega)).mono ?_
        rintro e w2 ⟨rfl, hx2⟩
        obtain ⟨S2, v2, r2, f1, f2⟩ := HFin.out 1 w2 rfl hx2
        have HZ : Hid ((S2, v2) = prepRun (bs.take (k + 1)) ∧ EncAt B b r2 S2.buf S2.low S2.rng w2 ∧ Moved b none (some w1.heap.size) w w2 r2 ∧ blockOf w2 w1.heap.size = some (.cells #[.int .u16 v2] 31 (0, 0)) ∧ Inv S2 ∧ 16777216 ≤ S2.rng ∧ Prob v2 ∧ S2.buf.length ≤ k + 1) := ⟨f1, f2⟩
        clear f1 f2 hx2 HFin HX HY HC
        go_wp2
        go_roundg (gk - 1)
        case measure => omega
        case rel => exact ⟨k + 1, S2, v2, r2, by omega, by go_num, HZ.out.1, HZ.out.2⟩
    · obtain rfl : len = k := by omega
      go_wp2
      go_end0
      obtain ⟨gE, gM, gB, gI, gR, gP, gL⟩ := hx.out
      have e1 : (S, v) = prepRun bs := by rw [hS.out, List.take_of_length_le (by rw [HFL.out]; exact Nat.le_refl _)]
      rw [← e1]
      exact ⟨rfl, r', gE, gM.forget hq, gI, gR, by show S.buf.length ≤ 1024; omega⟩
end Go.Proofs.Ybulkalfa
