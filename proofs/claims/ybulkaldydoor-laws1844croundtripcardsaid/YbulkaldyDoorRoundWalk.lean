/-
  b1844aD: packID (8), idKeyOf (6), LawS1844CRoundTrip (3): the walks.
-/
import Derived.Test.YbulkaldyDoorId
import Derived.Test.YbulkaldyDoorRoundMath
import Derived.Laws.BytesArg
import Derived.Laws.OwnMore
namespace Go.Proofs.YbulkaldyDoor
open Go.RowKit
set_option linter.unusedVariables false
set_option linter.unusedSimpArgs false

/-- What the tie gives of idDigit: the cells of the 66 characters. -/
def TabAt (w : World) : Prop := ∀ d : Int, 0 ≤ d → d < 66 → w.cell? ⟨1, (chr d).toNat, none⟩ = some (.int .u64 (d + 1))

theorem TabAt.below {w w' : World} (h : TabAt w) (hsz : 1 < w.heap.size) (hb : Below w.heap.size w w') : TabAt w' :=
  fun d d0 d1 => (hb.cell (p := ⟨1, (chr d).toNat, none⟩) hsz).trans (h d d0 d1)

/-- bits.Mul64(x, 66). -/
theorem mul66 (x : Int) (w : World) (h0 : 0 ≤ x) (h1 : x ≤ 18446744073709551615) :
    Calls Ybad.prog 10 #[.int .u64 x, .int .u64 66] w fun e w' => e = .returned (.tuple #[.int .u64 (x * 66 / 18446744073709551616), .int .u64 (x * 66 % 18446744073709551616)]) ∧ w' = w := by
  obtain ⟨n, rfl⟩ := Int.eq_ofNat_of_zero_le h0
  refine (Ybad.bits_Mul64 n 66 (by omega) (by omega) w).mono ?_
  rintro e w' ⟨rfl, hw⟩
  exact ⟨ret2_int (by omega) (by omega), hw⟩

/-- bits.Add64(x, y, 0): the model's entry. -/
theorem add64 (x y : Int) (hx : 0 ≤ x) (hy : 0 ≤ y) (w : World) :
    (callFunc 11 #[.int .u64 x, .int .u64 y, .int .u64 0]).run Ybad.prog w = .ok (.value (.tuple #[.int .u64 ((x + y) % 18446744073709551616), .int .u64 ((x + y) / 18446744073709551616)])) w := by
  rw [run_callFunc_extern Ybad.func11 (by kernel_rfl) (by kernel_rfl) (by kernel_rfl) (e := add64Entry) (by kernel_rfl), run_add64 x y 0 hx hy (by omega) (by omega)]
  simp only [Result.andThen, Int.add_zero]

/-- A string that is the characters of the digits. -/
def StrOf (s : ByteArray) (ds : List Int) : Prop := s = ⟨(ds.map chr).toArray⟩

theorem StrOf.size {s : ByteArray} {ds : List Int} (h : StrOf s ds) : s.size = ds.length := by
  unfold StrOf at h; subst h; simp [ByteArray.size]
theorem StrOf.get {s : ByteArray} {ds : List Int} (h : StrOf s ds) (k : Nat) (hk : k < s.size) (d : Int) (hd : ds[k]? = some d) : s[k] = chr d := by
  unfold StrOf at h
  subst h
  obtain ⟨hk', e⟩ := List.getElem?_eq_some_iff.1 hd
  show ((ds.map chr).toArray)[k] = chr d
  simp [e]

set_option maxHeartbeats 1000000 in
set_option maxRecDepth 100000 in
theorem packID_short (s : ByteArray) (ds : List Int) (w : World) (hs : StrOf s ds) (hd : Digits ds) (hlen : ds.length ≤ 15) (hT : TabAt w) (hsz : 1 < w.heap.size) :
    Calls Ybad.prog 8 #[.string s] w fun e w' => ∃ lo hi : Int, e = .returned (.agg #[.int .u64 lo, .int .u32 hi]) ∧ 0 ≤ lo ∧ lo ≤ 18446744073709551615 ∧ 0 ≤ hi ∧ hi ≤ 4294967295 ∧ hi * 18446744073709551616 + lo = pack ds ∧ Below w.heap.size w w' := by
  have hsize := hs.size
  have HS : Hid (StrOf s ds) := hs
  have HT : Hid (TabAt w) := hT
  have HD : Hid (Digits ds) := hd
  have hle : s.size ≤ 15 := by omega
  have HZ : Hid (s.size = ds.length) := hsize
  clear hs hT hd hsize hlen
  go_enter Ybad.func8, Ybad.ntmps8
  go_wp2
  go_loopw [4] (fun i wr => ∃ (k : Nat) (lo hi : Int), k ≤ s.size ∧ i = .int .i64 ((k : Int) - 1) ∧ 0 ≤ lo ∧ lo ≤ 18446744073709551615 ∧ 0 ≤ hi ∧ hi ≤ 4294967295 ∧ Hid (hi * 18446744073709551616 + lo = pack (ds.drop k)) ∧
      Hid (wr = (w.alloc (.cells #[.int .u64 0, .int .u32 0] 26)).alloc (.cells #[.int .u64 lo, .int .u32 hi] 26))) (fun i _ => (intOf i + 1).toNat)
  case atStart =>
    refine ⟨s.size, 0, 0, Nat.le_refl _, rfl, by omega, by omega, by omega, by omega, ?_, rfl⟩
    rw [HZ.out, List.drop_length]; rfl
  case round =>
    obtain ⟨k, lo, hi, hk, hi_, l0, l1, h0, h1, hN, hw⟩ := hrel
    have hw' := hw.out
    subst hw'
    clear hw
    cases k with
    | succ k =>
      obtain rfl : _ = Value.int .i64 (k : Int) := hi_.trans (by congr 1; omega)
      clear hi_
      have hkl : k < ds.length := by have := HZ.out; omega
      obtain ⟨d, hdk⟩ : ∃ d, ds[k]? = some d := ⟨_, List.getElem?_eq_getElem hkl⟩
      obtain ⟨d0, d1⟩ := HD.out d (List.mem_of_getElem? hdk)
      have hcell : ∀ o1 o2, ((w.alloc o1).alloc o2).cell? ⟨1, (chr d).toNat, none⟩ = some (.int .u64 (d + 1)) := fun o1 o2 =>
        (Below.cell (((Below.refl w.heap.size w).alloc (Nat.le_refl _) o1).alloc (by simp) o2) (p := ⟨1, (chr d).toNat, none⟩) hsz).trans (HT.out d d0 d1)
      have hget : s[k] = chr d := HS.out.get k (by omega) d hdk
      have HP : Hid (pack (ds.drop k) = pack (ds.drop (k + 1)) * 66 + d + 1) := drop_pack ds k d hdk
      have hbd : pack (ds.drop (k + 1)) * 66 + d + 1 ≤ 1994295971739234748065968191 := by
        rw [← HP.out]
        exact pack_15 _ (fun x hx => HD.out x (List.mem_of_mem_drop hx)) (by rw [List.length_drop]; have := HZ.out; omega)
      obtain ⟨h, l, c, sm, hh, hl, hc, hsm⟩ : ∃ h l c sm : Int, h = lo * 66 / 18446744073709551616 ∧ l = lo * 66 % 18446744073709551616 ∧ c = (l + (d + 1)) / 18446744073709551616 ∧ sm = (l + (d + 1)) % 18446744073709551616 := ⟨_, _, _, _, rfl, rfl, rfl, rfl⟩
      have HLAW : Hid ((hi * 66 + (h + c)) * 18446744073709551616 + sm = pack (ds.drop k)) := (pk_law hi lo _ d h l c sm hN.out hh hl hc hsm).trans HP.out.symm
      obtain ⟨b1, b2, b3, b4, b5, b6, b7, b8, b9⟩ := pk_bd hi lo _ d h l c sm hN.out hh hl hc hsm l0 l1 h0 d0 d1 hbd
      have HM : Hid (lo * 66 / 18446744073709551616 = h ∧ lo * 66 % 18446744073709551616 = l) := ⟨hh.symm, hl.symm⟩
      have e1 : ∀ W, (callFunc 11 #[.int .u64 l, .int .u64 (d + 1), .int .u64 0]).run Ybad.prog W = .ok (.value (.tuple #[.int .u64 sm, .int .u64 c])) W := fun W => by
        rw [add64 l (d + 1) b3 (by omega) W, hc, hsm]
      clear hh hl hc hsm hbd hdk hN
      have hklt : (k : Int) < (s.size : Int) := by omega
      have hch : ((chr d).toNat : Int) < 256 := by have := (chr d).toNat_lt; omega
      go_wp2_with fail
      refine (mul66 lo _ l0 l1).mono ?_
      rintro e w' ⟨rfl, rfl⟩
      rw [HM.out.1, HM.out.2]
      go_wp2
      go_roundw
      case rel => exact ⟨k, sm, hi * 66 + (h + c), by omega, rfl, b7, b8, by omega, b9, HLAW, rfl⟩
      case measure => first | (simp [intOf]; done) | (simp [intOf]; omega)
    | zero =>
      obtain rfl : _ = Value.int .i64 (-1) := hi_
      go_wp2
      exact bodyPost_ret (v := .agg #[.int .u64 lo, .int .u32 hi]) (by simp [results, Ybad.results8, go_sem]) rfl ⟨lo, hi, rfl, l0, l1, h0, h1, hN.out, ((Below.refl _ _).alloc (Nat.le_refl _) _).alloc (by simp) _⟩

set_option maxHeartbeats 400000 in
theorem packID_long (s : ByteArray) (w : World) (hlen : 15 < s.size) (hL : LongAt w) (hsz : 0 < w.heap.size) :
    Calls Ybad.prog 8 #[.string s] w fun e w' => e = .returned (.agg #[.int .u64 18446744073709551615, .int .u32 134217727]) ∧ Below w.heap.size w w' := by
  obtain ⟨g0, g1⟩ := hL
  have hl : (15 : Int) < (s.size : Int) := by omega
  go_enter Ybad.func8, Ybad.ntmps8
  go_wp2
  exact bodyPost_ret (v := .agg #[.int .u64 18446744073709551615, .int .u32 134217727]) (by simp [results, Ybad.results8, go_sem]) rfl ⟨rfl, (Below.refl _ _).alloc (Nat.le_refl _) _⟩

theorem cells3 (w1 : World) (B : Nat) (x y z a b c : Value) (o : Obj) (hB : B < w1.heap.size) (c0 : w1.cell? ⟨B, 0, none⟩ = some x) (c1 : w1.cell? ⟨B, 1, none⟩ = some y) (c2 : w1.cell? ⟨B, 2, none⟩ = some z) :
    ((((w1.setCell ⟨B, 0, none⟩ a).setCell ⟨B, 1, none⟩ b).setCell ⟨B, 2, none⟩ c).alloc o).cell? ⟨B, 0, none⟩ = some a ∧
    ((((w1.setCell ⟨B, 0, none⟩ a).setCell ⟨B, 1, none⟩ b).setCell ⟨B, 2, none⟩ c).alloc o).cell? ⟨B, 1, none⟩ = some b ∧
    ((((w1.setCell ⟨B, 0, none⟩ a).setCell ⟨B, 1, none⟩ b).setCell ⟨B, 2, none⟩ c).alloc o).cell? ⟨B, 2, none⟩ = some c := by
  have hs : B < (((w1.setCell ⟨B, 0, none⟩ a).setCell ⟨B, 1, none⟩ b).setCell ⟨B, 2, none⟩ c).heap.size := by simp [World.setCell]; exact hB
  have ho : ∀ j, ((((w1.setCell ⟨B, 0, none⟩ a).setCell ⟨B, 1, none⟩ b).setCell ⟨B, 2, none⟩ c).alloc o).cell? ⟨B, j, none⟩ = (((w1.setCell ⟨B, 0, none⟩ a).setCell ⟨B, 1, none⟩ b).setCell ⟨B, 2, none⟩ c).cell? ⟨B, j, none⟩ := fun j =>
    Below.cell ((Below.refl _ _).alloc (Nat.le_refl _) o) (p := ⟨B, j, none⟩) hs
  have n (i j : Nat) (h : i ≠ j) : (⟨B, i, none⟩ : Addr) ≠ ⟨B, j, none⟩ := by simp [h]
  refine ⟨(ho 0).trans ?_, (ho 1).trans ?_, (ho 2).trans ?_⟩
  · rw [World.cell?_setCell_other _ _ _ _ (n 2 0 (by omega)), World.cell?_setCell_other _ _ _ _ (n 1 0 (by omega)), World.cell?_setCell_same _ _ _ c0]
  · rw [World.cell?_setCell_other _ _ _ _ (n 2 1 (by omega))]
    exact World.cell?_setCell_same _ _ _ ((World.cell?_setCell_other _ _ _ _ (n 0 1 (by omega))).trans c1)
  · exact World.cell?_setCell_same _ _ _ ((World.cell?_setCell_other _ _ _ _ (n 1 2 (by omega))).trans ((World.cell?_setCell_other _ _ _ _ (n 0 2 (by omega))).trans c2))

theorem below3 {w w1 : World} {a b c : Value} {o : Obj} (h : Below w.heap.size w w1) (hz : w.heap.size < w1.heap.size) :
    Below w.heap.size w ((((w1.setCell ⟨w.heap.size, 0, none⟩ a).setCell ⟨w.heap.size, 1, none⟩ b).setCell ⟨w.heap.size, 2, none⟩ c).alloc o) := by
  refine Below.alloc (((h.setCell (Nat.le_refl _) _).setCell (Nat.le_refl _) _).setCell (Nat.le_refl _) _) ?_ o
  simp [World.setCell]; omega

set_option maxHeartbeats 400000 in
theorem key_long (s : ByteArray) (w : World) (hlen : 15 < s.size) (hL : LongAt w) (hsz : 0 < w.heap.size) :
    Calls Ybad.prog 6 #[.string s] w fun e w' => e = .returned (.agg #[.int .u64 18446744073709551615, .int .u32 134217727, .string s]) ∧ Below w.heap.size w w' := by
  have HL : Hid (LongAt w) := hL
  clear hL
  go_enter Ybad.func6, Ybad.ntmps6
  go_wp2_with fail
  refine (packID_long s _ hlen (HL.out.alloc hsz _) (by simp)).mono ?_
  rintro e w1 ⟨rfl, hb⟩
  have hbw : Below w.heap.size w w1 := ((Below.refl _ _).alloc (Nat.le_refl _) _).trans (hb.mono (by simp))
  have hz1 : w.heap.size < w1.heap.size := by have := hb.size; simp at this; omega
  have hz0 : 0 < w1.heap.size := by omega
  have c0 : w1.cell? ⟨w.heap.size, 0, none⟩ = some (.int .u64 0) := (hb.cell (by simp)).trans (by simp [go_sem])
  have c1 : w1.cell? ⟨w.heap.size, 1, none⟩ = some (.int .u32 0) := (hb.cell (by simp)).trans (by simp [go_sem])
  have c2 : w1.cell? ⟨w.heap.size, 2, none⟩ = some (.string ⟨#[]⟩) := (hb.cell (by simp)).trans (by simp [go_sem])
  have f0 : ∀ o, w1.frozen? ⟨w.heap.size, o, none⟩ = false := fun o => (hb.frozen (by simp)).trans (by simp [go_sem])
  obtain ⟨g0, g1⟩ := HL.out.below hsz hbw
  have HB : Hid (Below w.heap.size w w1) := hbw
  clear hb hbw
  go_wp2
  obtain ⟨r0, r1, r2⟩ := cells3 w1 w.heap.size _ _ _ (.int .u64 18446744073709551615) (.int .u32 134217727) (.string s) (.cells #[.int .u64 18446744073709551615, .int .u32 134217727] 26) hz1 c0 c1 c2
  exact bodyPost_ret (v := .agg #[.int .u64 18446744073709551615, .int .u32 134217727, .string s]) (by simp [results, Ybad.results6, go_sem, r0, r1, r2]) rfl ⟨rfl, below3 HB.out hz1⟩

set_option maxHeartbeats 400000 in
theorem key_short (s : ByteArray) (ds : List Int) (w : World) (hs : StrOf s ds) (hd : Digits ds) (hlen : ds.length ≤ 15) (hT : TabAt w) (hL : LongAt w) (hsz : 1 < w.heap.size) :
    Calls Ybad.prog 6 #[.string s] w fun e w' => ∃ lo hi : Int, e = .returned (.agg #[.int .u64 lo, .int .u32 hi, .string ⟨#[]⟩]) ∧ 0 ≤ lo ∧ lo ≤ 18446744073709551615 ∧ 0 ≤ hi ∧ hi < 134217727 ∧ hi * 18446744073709551616 + lo = pack ds ∧ Below w.heap.size w w' := by
  have HL : Hid (LongAt w) := hL
  have HT : Hid (TabAt w) := hT
  have HP := pack_15 ds hd hlen
  have HH : Hid (StrOf s ds ∧ Digits ds ∧ ds.length ≤ 15 ∧ pack ds ≤ 1994295971739234748065968191) := ⟨hs, hd, hlen, HP⟩
  clear hL hT hs hd hlen HP
  go_enter Ybad.func6, Ybad.ntmps6
  go_wp2_with fail
  refine (packID_short s ds _ HH.out.1 HH.out.2.1 HH.out.2.2.1 (HT.out.below hsz ((Below.refl _ _).alloc (Nat.le_refl _) _)) (by simp; omega)).mono ?_
  rintro e w1 ⟨lo, hi, rfl, l0, l1, h0, h1, hN, hb⟩
  have hbw : Below w.heap.size w w1 := ((Below.refl _ _).alloc (Nat.le_refl _) _).trans (hb.mono (by simp))
  have hz1 : w.heap.size < w1.heap.size := by have := hb.size; simp at this; omega
  have hz0 : 0 < w1.heap.size := by omega
  have c0 : w1.cell? ⟨w.heap.size, 0, none⟩ = some (.int .u64 0) := (hb.cell (by simp)).trans (by simp [go_sem])
  have c1 : w1.cell? ⟨w.heap.size, 1, none⟩ = some (.int .u32 0) := (hb.cell (by simp)).trans (by simp [go_sem])
  have c2 : w1.cell? ⟨w.heap.size, 2, none⟩ = some (.string ⟨#[]⟩) := (hb.cell (by simp)).trans (by simp [go_sem])
  have f0 : ∀ o, w1.frozen? ⟨w.heap.size, o, none⟩ = false := fun o => (hb.frozen (by simp)).trans (by simp [go_sem])
  obtain ⟨g0, g1⟩ := HL.out.below (by omega) hbw
  have HB : Hid (Below w.heap.size w w1) := hbw
  have hlt : hi < 134217727 := by have := HH.out.2.2.2; omega
  have HN : Hid (hi * 18446744073709551616 + lo = pack ds) := hN
  clear hb hbw hN
  go_wp2
  obtain ⟨r0, r1, r2⟩ := cells3 w1 w.heap.size _ _ _ (.int .u64 lo) (.int .u32 hi) (.string ⟨#[]⟩) (.cells #[.int .u64 lo, .int .u32 hi] 26) hz1 c0 c1 c2
  exact bodyPost_ret (v := .agg #[.int .u64 lo, .int .u32 hi, .string ⟨#[]⟩]) (by simp [results, Ybad.results6, go_sem, r0, r1, r2]) rfl ⟨lo, hi, rfl, l0, l1, h0, hlt, HN.out, below3 HB.out hz1⟩

set_option maxHeartbeats 2000000 in
set_option maxRecDepth 100000 in
/-- LawS1844CRoundTrip (3). -/
theorem round_walk (a0 : Option Addr) (len cap b off : Nat) (zs : List Int) (w : World) (ha : 0 < len → a0 = some ⟨b, off, none⟩)
    (hc : ∀ k, k < len → w.cell? ⟨b, off + k, none⟩ = some (.int .u8 (zs.getD k 0))) (hz : len ≤ zs.length) (hr : ∀ k, 0 ≤ zs.getD k 0 ∧ zs.getD k 0 ≤ 255)
    (hlen : len ≤ 9223372036854775807) (hL : LongAt w) (hT : TabAt w) (hsz : 1 < w.heap.size) (hbsz : 0 < len → b < w.heap.size) :
    Calls Ybad.prog 3 #[.slice a0 len cap] w fun e w' => e = .returned (.bool true) ∧ Below w.heap.size w w' := by
  by_cases hbig : 1024 < len
  · have hb' : (1024 : Int) < (len : Int) := by omega
    clear hc hr ha hL hT
    go_enter Ybad.func3, Ybad.ntmps3
    go_wp2
    go_ret
    exact ⟨rfl, Below.refl _ _⟩
  have HL : Hid (LongAt w) := hL
  have HT : Hid (TabAt w) := hT
  have HC : Hid (∀ k, k < len → w.cell? ⟨b, off + k, none⟩ = some (.int .u8 (zs.getD k 0))) := hc
  have HR : Hid (∀ k, 0 ≤ zs.getD k 0 ∧ zs.getD k 0 ≤ 255) := hr
  have HA : Hid (0 < len → a0 = some ⟨b, off, none⟩) := ha
  have hb' : ¬ (1024 : Int) < (len : Int) := by omega
  clear hL hT hc hr ha
  obtain ⟨i0, hi, hz0, hz1, hz2⟩ := info_parts infoByte
  go_enter Ybad.func3, Ybad.ntmps3
  go_wp2_with (at_make; refine wpList_make_full _ rfl _ _ 22 rfl w.heap.size 5 i0 (.int .u8 0) 1 Ybad.underlying22 hi hz0 hz1 .i64 .i64 _ _ len rfl rfl rfl rfl (by rw [hz2]; omega) (by unfold maxLen; omega) (Nat.le_refl _) ?_)
  intro w1 hown hgrow
  have hb1 : Below w.heap.size w w1 := (Below.refl _ _).grown hgrow (Nat.le_refl _) (fun k h => by cases h)
  have hmade : (madeCells #[Value.int .u8 0] len).toList = part (digs zs len) 0 := by
    rw [part_zero, digs_length zs _ (by omega)]
    exact toList_madeCells_one _ _
  rw [hmade] at hown
  have HO : Hid (w1.ownsRow w.heap.size 5 1 (.slice (some ⟨w.heap.size, 0, none⟩) len len) len (part (digs zs len) 0)) := hown
  have HB : Hid (Below w.heap.size w w1) := hb1
  clear hmade hown hgrow hb1
  go_wp2
  go_loopw [15] (fun i wr => ∃ k : Nat, k ≤ len ∧ i = .int .i64 k ∧ Hid (wr.ownsRow w.heap.size 5 1 (.slice (some ⟨w.heap.size, 0, none⟩) len len) len (part (digs zs len) k)) ∧ Hid (Below w.heap.size w wr)) (fun i _ => len - (intOf i).toNat)
  case atStart => exact ⟨0, Nat.zero_le _, rfl, HO, HB⟩
  case round =>
    clear HO HB
    obtain ⟨k, hk, rfl, HO, HB⟩ := hrel
    by_cases hlt : k < len
    · obtain rfl := HA.out (by omega)
      have hcell : wr.cell? ⟨b, off + k, none⟩ = some (.int .u8 (zs.getD k 0)) := (HB.out.cell (by exact hbsz (by omega))).trans (HC.out k (by omega))
      obtain ⟨r0, r1⟩ := HR.out k
      have hdg := digs_get zs len k (by omega) (by omega)
      have hstep := part_step (digs zs len) k _ hdg
      have HS : Hid (wr.ownsRow w.heap.size 5 1 (.slice (some ⟨w.heap.size, 0, none⟩) len len) len (part (digs zs len) k) ∧ (part (digs zs len) k).set k (.int .u8 ((chr (zs.getD k 0 % 66)).toNat : Int)) = part (digs zs len) (k + 1)) := ⟨HO.out, hstep⟩
      have f1 : wr.frozen? ⟨w.heap.size, k, none⟩ = false := HO.out.frozenAt k
      obtain ⟨v, hv⟩ : ∃ v, wr.cell? ⟨w.heap.size, k, none⟩ = some v := by
        have hl1 : k < (part (digs zs len) k).length := by simp [part, digs_length zs _ (show len ≤ zs.length by omega)]; omega
        exact ⟨_, (HO.out.cellAt k (by omega)).trans (List.getElem?_eq_getElem hl1)⟩
      clear hdg hstep HO
      generalize zs.getD k 0 = c at *
      have hklt : (k : Int) < (len : Int) := by omega
      go_wp2
      go_roundw
      case rel =>
        obtain ⟨ho, hst⟩ := HS.out
        have h1 := (ho.stored k (.int .u8 ((chr (c % 66)).toNat : Int))).1
        rw [hst] at h1
        refine ⟨k + 1, by omega, by go_num, ?_, ?_⟩
        · rw [chr_of _ _ rfl]; exact h1
        · exact HB.out.setCell (Nat.le_refl _) _
      case measure => first | (simp [intOf]; done) | (simp [intOf]; omega)
    · obtain rfl : len = k := by omega
      have hwsz : w.heap.size < wr.heap.size := by
        rcases HO.out.2 with ⟨e, _⟩ | ⟨g, cap', cur, e, _, hg, _⟩
        · simp at e
        · simp at e
          obtain ⟨rfl, _⟩ := e
          exact (Array.getElem?_eq_some_iff.1 hg).1
      obtain ⟨s, hs⟩ : ∃ s : ByteArray, StrOf s (digs zs len) := ⟨_, rfl⟩
      have hcv : (convert 22 9 (.slice (some ⟨w.heap.size, 0, none⟩) len len)).run Ybad.prog wr = .ok (.string s) wr := by
        rw [show s = _ from hs, ← str_part]
        refine run_convert_bytes_arg wr 22 5 Ybad.underlying22 Ybad.underlying5 w.heap.size 0 len len _ (by simp [digs_length zs _ (show len ≤ zs.length by omega)]) ?_ 9 Ybad.underlying9
        intro j hj
        rw [Nat.zero_add, HO.out.cellAt j (by omega)]
        have := part_all (digs zs len) j (by rw [digs_length zs _ (show len ≤ zs.length by omega)]; exact hj)
        rw [digs_length zs _ (show len ≤ zs.length by omega)] at this
        exact this
      have HS : Hid (StrOf s (digs zs len)) := hs
      have hl := digs_length zs len (by omega)
      have hss : Hid (s.size = len) := hs.size.trans hl
      clear HO HC HA HR hs hl
      by_cases h15 : 15 < len
      · go_wp2_with fail
        refine (key_long s _ (by rw [hss.out]; exact h15) (HL.out.below (by omega) HB.out) (by omega)).mono ?_
        rintro e w2 ⟨rfl, hb2⟩
        have HB2 : Hid (Below w.heap.size w w2) := HB.out.trans (hb2.mono (by omega))
        have hz2 : wr.heap.size ≤ w2.heap.size := hb2.size
        clear hb2
        go_wp2_with fail
        refine (id_long s _ (HL.out.below (by omega) HB2.out) (by omega)).mono ?_
        rintro e w3 ⟨rfl, hb3⟩
        go_wp2
        go_ret
        exact ⟨rfl, HB2.out.trans (hb3.mono (by omega))⟩
      · go_wp2_with fail
        refine (key_short s (digs zs len) _ HS.out (digs_digits _ _) (by rw [digs_length zs len (by omega)]; omega) (HT.out.below hsz HB.out) (HL.out.below (by omega) HB.out) (by omega)).mono ?_
        rintro e w2 ⟨lo, h, rfl, l0, l1, h0, h1, hN, hb2⟩
        have HB2 : Hid (Below w.heap.size w w2) := HB.out.trans (hb2.mono (by omega))
        have hz2 : wr.heap.size ≤ w2.heap.size := hb2.size
        have HN : Hid (h * 18446744073709551616 + lo = pack (digs zs len)) := hN
        clear hb2 hN
        go_wp2_with fail
        refine (id_short (digs zs len) lo h _ (digs_digits _ _) l0 l1 h0 h1 HN.out (by rw [digs_length zs len (by omega)]; omega) (HL.out.below (by omega) HB2.out) (by omega)).mono ?_
        rintro e w3 ⟨rfl, hb3⟩
        rw [← show s = _ from HS.out]
        go_wp2
        go_ret
        exact ⟨rfl, HB2.out.trans (hb3.mono (by omega))⟩
end Go.Proofs.YbulkaldyDoor
