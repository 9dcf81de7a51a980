/-
  b1844aD: (packedID).String (9): the characters of the digits that the number packs.
-/
import Derived.Test.YbulkaldyDoorBuilder
import Derived.Test.YbulkaldyDoorDiv
import Derived.Test.YbulkaldyDoorPack
import Derived.Shelf.Spec.BitsCarry
import Derived.Deep.LoopGhost
namespace Go.Proofs.YbulkaldyDoor
set_option linter.unusedVariables false
set_option linter.unusedSimpArgs false
open Go.RowKit

theorem byteCells_snoc (l : List UInt8) (c : UInt8) : Lib.byteCells l ++ [.int .u8 (c.toNat : Int)] = Lib.byteCells (l ++ [c]) := by
  simp [Lib.byteCells]

/-- A character of the constant that the program's text has. -/
theorem chr_of (X : ByteArray) (d : Int) (hX : X.data.toList = idChars) (h : d.toNat < X.size) : ((X[d.toNat]).toNat : Int) = ((chr d).toNat : Int) := by
  unfold chr
  have : d.toNat < X.data.size := h
  rw [← hX, List.getD_eq_getElem?_getD, Array.getElem?_toList, Array.getElem?_eq_getElem this]
  rfl

/-- A store into a block below the builder's own leaves the builder as it was. -/
theorem builder_other {B b c : Nat} {bs : List Value} {w : World} (h : Lib.IsBuilder 40 5 B b bs w) (hc : c < B) (o : Nat) (u : Value) :
    Lib.IsBuilder 40 5 B b bs (w.setCell ⟨c, o, none⟩ u) := by
  have key : ∀ p, Lib.BuilderAt 40 5 B b p bs w → Lib.BuilderAt 40 5 B b p bs (w.setCell ⟨c, o, none⟩ u) := by
    rintro p ⟨hB, v, hb, hown, hne⟩
    refine ⟨hB, v, ?_, ?_, hne⟩
    · rw [Below.heap_setCell _ _ _ _ (show b ≠ c by omega)]; exact hb
    · refine hown.kept (row := some c) ⟨rfl, rfl, rfl, by simp [World.setCell], fun k _ hk => Below.heap_setCell _ _ _ _ (fun e => hk (by simp [e]))⟩ ?_
      refine Or.inr fun e => ?_
      have := (hown.lt c e).1
      omega
  rcases h with h | h
  · exact Or.inl (key _ h)
  · exact Or.inr (key _ h)

/-- What a round's four stores leave in the number's two cells. -/
theorem cells_after (wr : World) (B n : Nat) (x y sd a b q : Value) (c0 : wr.cell? ⟨B, 0, none⟩ = some x) (c1 : wr.cell? ⟨B, 1, none⟩ = some y) :
    (((((wr.setCell ⟨B, 0, none⟩ sd).setCell ⟨B, 1, none⟩ a).setCell ⟨B, 1, none⟩ b).drewN n).setCell ⟨B, 0, none⟩ q).cell? ⟨B, 0, none⟩ = some q ∧
    (((((wr.setCell ⟨B, 0, none⟩ sd).setCell ⟨B, 1, none⟩ a).setCell ⟨B, 1, none⟩ b).drewN n).setCell ⟨B, 0, none⟩ q).cell? ⟨B, 1, none⟩ = some b := by
  have n1 : (⟨B, 1, none⟩ : Addr) ≠ ⟨B, 0, none⟩ := by simp
  have n2 : (⟨B, 0, none⟩ : Addr) ≠ ⟨B, 1, none⟩ := by simp
  have k0 : (((wr.setCell ⟨B, 0, none⟩ sd).setCell ⟨B, 1, none⟩ a).setCell ⟨B, 1, none⟩ b).cell? ⟨B, 0, none⟩ = some sd := by
    rw [World.cell?_setCell_other _ _ _ _ n1, World.cell?_setCell_other _ _ _ _ n1, World.cell?_setCell_same _ _ _ c0]
  have k1 : (((wr.setCell ⟨B, 0, none⟩ sd).setCell ⟨B, 1, none⟩ a).setCell ⟨B, 1, none⟩ b).cell? ⟨B, 1, none⟩ = some b :=
    World.cell?_setCell_same _ _ _ (World.cell?_setCell_same _ _ _ ((World.cell?_setCell_other _ _ _ _ n2).trans c1))
  exact ⟨World.cell?_setCell_same _ _ _ k0, (World.cell?_setCell_other _ _ _ _ n2).trans k1⟩

theorem below_after {w wr : World} {n : Nat} {sd a b q : Value} (h : Below w.heap.size w wr) :
    Below w.heap.size w (((((wr.setCell ⟨w.heap.size, 0, none⟩ sd).setCell ⟨w.heap.size, 1, none⟩ a).setCell ⟨w.heap.size, 1, none⟩ b).drewN n).setCell ⟨w.heap.size, 0, none⟩ q) := by
  have h1 : Below w.heap.size w (((wr.setCell ⟨w.heap.size, 0, none⟩ sd).setCell ⟨w.heap.size, 1, none⟩ a).setCell ⟨w.heap.size, 1, none⟩ b) :=
    ((h.setCell (Nat.le_refl _) _).setCell (Nat.le_refl _) _).setCell (Nat.le_refl _) _
  have h2 : Below w.heap.size w ((((wr.setCell ⟨w.heap.size, 0, none⟩ sd).setCell ⟨w.heap.size, 1, none⟩ a).setCell ⟨w.heap.size, 1, none⟩ b).drewN n) :=
    h1.trans ⟨rfl, rfl, rfl, Nat.le_refl _, fun _ _ => rfl⟩
  exact h2.setCell (p := ⟨w.heap.size, 0, none⟩) (Nat.le_refl _) _

theorem alloc2_at (w : World) (o1 o2 : Obj) : ((w.alloc o1).alloc o2).heap[w.heap.size + 1]? = some o2 := by
  show ((w.heap.push o1).push o2)[w.heap.size + 1]? = some o2
  rw [show w.heap.size + 1 = (w.heap.push o1).size by simp]
  exact Array.getElem?_push_size

/-- bits.Sub64(x, 1, 0): the model's entry. -/
theorem sub64 (x : Int) (h0 : 0 ≤ x) (h1 : x ≤ 18446744073709551615) (w : World) :
    (callFunc 12 #[.int .u64 x, .int .u64 1, .int .u64 0]).run Ybad.prog w = .ok (.value (.tuple #[.int .u64 (subD x), .int .u64 (subB x)])) w := by
  obtain ⟨n, rfl⟩ := Int.eq_ofNat_of_zero_le h0
  rw [run_callFunc_extern Ybad.func12 (by kernel_rfl) (by kernel_rfl) (by kernel_rfl) (e := sub64Entry) (by kernel_rfl)]
  have := run_sub64 (P := Ybad.prog) n 1 0 (by omega) w
  simp only [Int.natCast_one, Int.natCast_zero] at this
  rw [this]
  have e1 : (((n + 18446744073709551616 - 1 - 0) % 18446744073709551616 : Nat) : Int) = subD n := by unfold subD; split <;> omega
  have e2 : ((if n < 1 + 0 then 1 else 0 : Nat) : Int) = subB n := by unfold subB; split <;> split <;> omega
  rw [e1, e2]
  rfl

set_option maxHeartbeats 1000000 in
set_option maxRecDepth 100000 in
theorem string_any (ds : List Int) (lo hi : Int) (w : World) (hd : Digits ds) (l0 : 0 ≤ lo) (l1 : lo ≤ 18446744073709551615) (h0 : 0 ≤ hi) (h1 : hi ≤ 4294967295)
    (hN : hi * 18446744073709551616 + lo = pack ds) (hlen : ds.length ≤ 1024) :
    Calls Ybad.prog 9 #[.agg #[.int .u64 lo, .int .u32 hi]] w fun e w' => e = .returned (.string ⟨(ds.map chr).toArray⟩) ∧ Below w.heap.size w w' := by
  have HN : Hid (hi * 18446744073709551616 + lo = pack ds) := hN
  clear hN
  go_enter Ybad.func9, Ybad.ntmps9
  go_wp2
  go_loopg [4] ds.length (fun gk _ wr => ∃ (pre rest : List Int) (lo hi : Int), Hid (ds = pre ++ rest ∧ gk = rest.length) ∧ 0 ≤ lo ∧ lo ≤ 18446744073709551615 ∧ 0 ≤ hi ∧ hi ≤ 4294967295 ∧ Hid (hi * 18446744073709551616 + lo = pack rest) ∧
      wr.cell? ⟨w.heap.size, 0, none⟩ = some (.int .u64 lo) ∧ wr.cell? ⟨w.heap.size, 1, none⟩ = some (.int .u32 hi) ∧ wr.frozen? ⟨w.heap.size, 0, none⟩ = false ∧ wr.frozen? ⟨w.heap.size, 1, none⟩ = false ∧
      Hid (Lib.IsBuilder 40 5 (w.heap.size + 1) (w.heap.size + 1) (Lib.byteCells (pre.map chr)) wr) ∧ Hid (Below w.heap.size w wr ∧ w.heap.size + 1 < wr.heap.size))
  case atStart =>
    refine ⟨[], ds, lo, hi, ⟨rfl, rfl⟩, l0, l1, h0, h1, HN, by simp [go_sem], by simp [go_sem], by simp [go_sem], by simp [go_sem], ?_, ?_⟩
    · refine Or.inl ⟨Nat.le_refl _, .slice none 0 0, ?_, World.ownsRow_nil _ _ _ _, by simp [Value.ownBlock]⟩
      exact alloc2_at _ _ _
    · exact ⟨((Below.refl _ _).alloc (Nat.le_refl _) _).alloc (by simp) _, by simp⟩
  case round =>
    obtain ⟨pre, rest, lo, hi, hs, l0, l1, h0, h1, hN, c0, c1, f0, f1, hB, hbw⟩ := hrel
    cases rest with
    | nil =>
      have e0 := hN.out
      unfold pack at e0
      obtain rfl : lo = 0 := by omega
      obtain rfl : hi = 0 := by omega
      clear e0
      go_wp2_with fail
      obtain ⟨hbl, hsz⟩ := hbw.out
      refine (Ybad.Builder_String_any _ _ _ _ hB.out (by omega)).mono ?_
      rintro e w' ⟨rfl, hb⟩
      go_wp2
      go_ret
      refine ⟨?_, hbl.trans (hb.mono (by omega))⟩
      have := hs.out.1
      rw [List.append_nil] at this
      rw [this]
      rfl
    | cons d rest =>
      have hd' : Digits rest := fun x hx => hd x (by rw [hs.out.1]; simp [hx])
      have hp := pack_nonneg rest hd'
      obtain ⟨d0, d1⟩ : 0 ≤ d ∧ d < 66 := hd d (by rw [hs.out.1]; simp)
      obtain ⟨sd, sb, e1, s0, s1, b0, b1, hh, hl1, hl2⟩ : ∃ sd sb : Int, (∀ w, (callFunc 12 #[.int .u64 lo, .int .u64 1, .int .u64 0]).run Ybad.prog w = .ok (.value (.tuple #[.int .u64 sd, .int .u64 sb])) w) ∧ 0 ≤ sd ∧ sd ≤ 18446744073709551615 ∧ 0 ≤ sb ∧ sb ≤ 1 ∧ 0 ≤ hi - sb ∧
          Hid ((hi - sb) / 66 * 18446744073709551616 + ((hi - sb) % 66 * 18446744073709551616 + sd) / 66 = pack rest) ∧ Hid (((hi - sb) % 66 * 18446744073709551616 + sd) % 66 = d) :=
        have hlaw := round_law hi lo (pack rest) d hN.out d0 d1 h0 l0 l1
        ⟨subD lo, subB lo, fun w => sub64 lo l0 l1 w, (subD_bd lo l0 l1).1, (subD_bd lo l0 l1).2, (subB_bd lo).1, (subB_bd lo).2, hi_bd hi lo _ hN.out (by unfold pack; omega) h0 l0, hlaw.1, hlaw.2⟩
      obtain ⟨q, hq⟩ : ∃ q : Int, q = ((hi - sb) % 66 * 18446744073709551616 + sd) / 66 := ⟨_, rfl⟩
      have q0 : 0 ≤ q := by omega
      have q1 : q ≤ 18446744073709551615 := by omega
      have HQ : Hid (((hi - sb) % 66 * 18446744073709551616 + sd) / 66 = q) := hq.symm
      have hn0 : lo = 0 → ¬ hi = 0 := by
        rintro rfl rfl
        have := hN.out
        unfold pack at this
        omega
      clear hq
      have key : (lo = 0 ∧ ¬ hi = 0) ∨ ¬ lo = 0 := by
        by_cases h : lo = 0
        · exact Or.inl ⟨h, hn0 h⟩
        · exact Or.inr h
      clear hn0
      rcases key with ⟨rfl, hn⟩ | hz
      all_goals
        go_wp2_with fail
        refine (div_any _ _ _ (by omega) (by omega) s0 s1).mono ?_
        rintro e w' ⟨rfl, n, rfl⟩
        rw [hl2.out, HQ.out]
        go_wp2_with fail
        obtain ⟨hbl, hsz⟩ := hbw.out
        refine (writeByte_any (w.heap.size + 1) (w.heap.size + 1) (Lib.byteCells (pre.map chr)) _ _ ?_ ?_ ?_).mono ?_
        · exact builder_other (builder_other (builder_other (builder_other hB.out (by omega) _ _) (by omega) _ _) (by omega) _ _) (by omega) _ _
        · have := congrArg List.length hs.out.1
          simp [Lib.byteCells] at this ⊢
          omega
        · simp [World.setCell]; omega
        rintro e w1 ⟨rfl, hB1, hb1⟩
        go_wp2
        go_roundg rest.length
        case measure => have := hs.out.2; simp at this; omega
        case rel =>
          refine ⟨pre ++ [d], rest, q, (hi - sb) / 66, ⟨by rw [hs.out.1]; simp, rfl⟩, q0, q1, by omega, by omega, ?_, ?_, ?_, ?_, ?_, ?_, ?_⟩
          · have := hl1.out
            rw [HQ.out] at this
            exact this
          · rw [hb1.cell (by simp)]; exact (cells_after wr _ n _ _ _ _ _ _ c0 c1).1
          · rw [hb1.cell (by simp)]; exact (cells_after wr _ n _ _ _ _ _ _ c0 c1).2
          · rw [hb1.frozen (by simp)]; simpa using f0
          · rw [hb1.frozen (by simp)]; simpa using f1
          · refine Or.inr ?_
            rw [chr_of _ d rfl, byteCells_snoc] at hB1
            rw [List.map_append]
            exact hB1
          · refine ⟨(below_after hbl).trans (hb1.mono (by omega)), ?_⟩
            have := hb1.size
            simp [World.setCell] at this
            omega
end Go.Proofs.YbulkaldyDoor
