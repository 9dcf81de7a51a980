/-
  b1844aD: LawS1844CShortDigits (4): the walk.
-/
import Derived.Test.YbulkaldyDoorId
import Derived.Test.YbulkaldyDoorShortMath
import Derived.Laws.BytesArg
import Derived.Laws.OwnMore
import Derived.Deep.RegionWith
namespace Go.Proofs.YbulkaldyDoor
open Go.RowKit
set_option linter.unusedVariables false
set_option linter.unusedSimpArgs false

set_option maxHeartbeats 2000000 in
set_option maxRecDepth 100000 in
theorem short_walk (a0 : Option Addr) (len cap b off : Nat) (zs : List Int) (w : World) (ha : 0 < len → a0 = some ⟨b, off, none⟩)
    (hc : ∀ k, k < len → w.cell? ⟨b, off + k, none⟩ = some (.int .u8 (zs.getD k 0))) (hz : len ≤ zs.length) (hr : ∀ k, 0 ≤ zs.getD k 0 ∧ zs.getD k 0 ≤ 255)
    (hlen : len ≤ 9223372036854775807) (hL : LongAt w) (hsz : 0 < w.heap.size) (hbsz : 0 < len → b < w.heap.size) :
    Calls Ybad.prog 4 #[.slice a0 len cap] w fun e w' => e = .returned (.bool true) ∧ Below w.heap.size w w' := by
  have HL : Hid (LongAt w) := hL
  have HC : Hid (∀ k, k < len → w.cell? ⟨b, off + k, none⟩ = some (.int .u8 (zs.getD k 0))) := hc
  have HR : Hid (∀ k, 0 ≤ zs.getD k 0 ∧ zs.getD k 0 ≤ 255) := hr
  have HA : Hid (0 < len → a0 = some ⟨b, off, none⟩) := ha
  clear hL hc hr ha
  obtain ⟨i0, hi, hz0, hz1, hz2⟩ := info_parts infoByte
  by_cases h10 : 10 < len
  · have h10' : (10 : Int) < (len : Int) := by omega
    go_enter Ybad.func4, Ybad.ntmps4
    go_wp2
    go_loop [4, 5] (fun lo i => ∃ k : Nat, k ≤ 10 ∧ i = .int .i64 ((k : Int) - 1) ∧ lo = .int .u64 (pack ((digs zs 10).drop k))) (fun _ i => (intOf i + 1).toNat)
    case atStart =>
      refine ⟨10, Nat.le_refl _, ?_, ?_⟩
      · first | rfl | simp
      · rw [List.drop_of_length_le (by rw [digs_length zs _ (by omega)]; exact Nat.le_refl _)]; rfl
    case round =>
      obtain ⟨k, hk, hi_, hlo⟩ := hrel
      cases k with
      | succ k =>
        obtain rfl : _ = Value.int .i64 (k : Int) := hi_.trans (by congr 1; omega)
        clear hi_
        obtain rfl := HA.out (by omega)
        have hdr := drop_pack (digs zs 10) k _ (digs_get zs 10 k (by omega) (by omega))
        have hdd : Digits ((digs zs 10).drop (k + 1)) := fun d hd => digs_digits zs 10 d (List.mem_of_mem_drop hd)
        have p0 := pack_nonneg _ hdd
        have p1 := pack_smaller _ hdd (by rw [List.length_drop, digs_length zs _ (by omega)]; omega)
        have hcell := HC.out k (by omega)
        obtain ⟨r0, r1⟩ := HR.out k
        have HD : Hid (pack ((digs zs 10).drop k) = pack ((digs zs 10).drop (k + 1)) * 66 + zs.getD k 0 % 66 + 1) := hdr
        clear hdr hdd
        generalize pack ((digs zs 10).drop (k + 1)) = P at *
        generalize zs.getD k 0 = c at *
        subst hlo
        have hklt : (k : Int) < (len : Int) := by omega
        go_wp2
        go_round
        case rel => exact ⟨k, by omega, rfl, by rw [HD.out]⟩
        case measure => first | (simp [intOf]; done) | (simp [intOf]; omega)
      | zero =>
        obtain rfl : _ = Value.int .i64 (-1) := hi_
        rw [List.drop_zero] at hlo
        have p0 := pack_nonneg _ (digs_digits zs 10)
        have p1 := pack_small _ (digs_digits zs 10) (by rw [digs_length zs _ (by omega)]; omega)
        obtain ⟨P, hP⟩ : ∃ P, P = pack (digs zs 10) := ⟨_, rfl⟩
        rw [← hP] at hlo p0 p1
        have HP : Hid (P = pack (digs zs 10)) := hP
        clear hP
        subst hlo
        go_wp2_with (at_make; refine wpList_make_full _ rfl _ _ 22 rfl w.heap.size 5 i0 (.int .u8 0) 1 Ybad.underlying22 hi hz0 hz1 .i64 .i64 _ _ 10 rfl rfl (by first | rfl | simp) (by first | rfl | simp) (by rw [hz2]; omega) (by unfold maxLen; omega) (Nat.le_refl _) ?_)
        intro w1 hown hgrow
        have hb1 : Below w.heap.size w w1 := (Below.refl _ _).grown hgrow (Nat.le_refl _) (fun k h => by cases h)
        have hmade : (madeCells #[Value.int .u8 0] 10).toList = part (digs zs 10) 0 := by
          rw [part_zero, digs_length zs _ (by omega)]
          exact toList_madeCells_one _ _
        rw [hmade] at hown
        have HO : Hid (w1.ownsRow w.heap.size 5 1 (.slice (some ⟨w.heap.size, 0, none⟩) 10 10) 10 (part (digs zs 10) 0)) := hown
        have HB : Hid (Below w.heap.size w w1) := hb1
        clear hmade hown hgrow hb1
        go_wp2
        go_loopw [7] (fun i wr => ∃ k : Nat, k ≤ 10 ∧ i = .int .i64 k ∧ Hid (wr.ownsRow w.heap.size 5 1 (.slice (some ⟨w.heap.size, 0, none⟩) 10 10) 10 (part (digs zs 10) k)) ∧ Hid (Below w.heap.size w wr)) (fun i _ => 10 - (intOf i).toNat)
        case atStart => exact ⟨0, Nat.zero_le _, rfl, HO, HB⟩
        case round =>
          clear HO HB
          obtain ⟨k, hk, rfl, HO, HB⟩ := hrel
          by_cases hlt : k < 10
          · obtain rfl := HA.out (by omega)
            have hcell : wr.cell? ⟨b, off + k, none⟩ = some (.int .u8 (zs.getD k 0)) := (HB.out.cell (by exact hbsz (by omega))).trans (HC.out k (by omega))
            obtain ⟨r0, r1⟩ := HR.out k
            have hdg := digs_get zs 10 k (by omega) (by omega)
            have hstep := part_step (digs zs 10) k _ hdg
            have HS : Hid (wr.ownsRow w.heap.size 5 1 (.slice (some ⟨w.heap.size, 0, none⟩) 10 10) 10 (part (digs zs 10) k) ∧ (part (digs zs 10) k).set k (.int .u8 ((chr (zs.getD k 0 % 66)).toNat : Int)) = part (digs zs 10) (k + 1)) := ⟨HO.out, hstep⟩
            have f1 : wr.frozen? ⟨w.heap.size, k, none⟩ = false := HO.out.frozenAt k
            obtain ⟨v, hv⟩ : ∃ v, wr.cell? ⟨w.heap.size, k, none⟩ = some v := by
              have hl1 : k < (part (digs zs 10) k).length := by simp [part, digs_length zs _ (show 10 ≤ zs.length by omega)]; omega
              exact ⟨_, (HO.out.cellAt k (by omega)).trans (List.getElem?_eq_getElem hl1)⟩
            clear hdg hstep HO
            generalize zs.getD k 0 = c at *
            have hklt : (k : Int) < (len : Int) := by omega
            go_wp2
            go_roundw
            case rel =>
              obtain ⟨ho, hst⟩ := HS.out
              have h1 := (ho.stored k (.int .u8 ((chr (c % 66)).toNat : Int))).1
              rw [hst] at h1
              refine ⟨k + 1, by omega, by go_num, ?_, ?_⟩
              · rw [chr_of _ _ rfl]; exact h1
              · exact HB.out.setCell (Nat.le_refl _) _
            case measure => first | (simp [intOf]; done) | (simp [intOf]; omega)
          · obtain rfl : 10 = k := by omega
            have hwsz : w.heap.size < wr.heap.size := by
              rcases HO.out.2 with ⟨e, _⟩ | ⟨g, cap', cur, e, _, hg, _⟩
              · simp at e
              · simp at e
                obtain ⟨rfl, _⟩ := e
                exact (Array.getElem?_eq_some_iff.1 hg).1
            have HV : Hid (∀ W : World, (∀ j, W.cell? ⟨w.heap.size, j, none⟩ = wr.cell? ⟨w.heap.size, j, none⟩) →
                (convert 22 9 (.slice (some ⟨w.heap.size, 0, none⟩) 10 10)).run Ybad.prog W = .ok (.string ⟨((digs zs 10).map chr).toArray⟩) W) := by
              intro W hW
              rw [← str_part]
              refine run_convert_bytes_arg W 22 5 Ybad.underlying22 Ybad.underlying5 w.heap.size 0 10 10 _ (by simp [digs_length zs _ (show 10 ≤ zs.length by omega)]) ?_ 9 Ybad.underlying9
              intro j hj
              rw [Nat.zero_add, hW, HO.out.cellAt j (by omega)]
              have := part_all (digs zs 10) j (by rw [digs_length zs _ (show 10 ≤ zs.length by omega)]; exact hj)
              rw [digs_length zs _ (show 10 ≤ zs.length by omega)] at this
              exact this
            have HI : Hid (∀ W : World, Below wr.heap.size wr W → wr.heap.size < W.heap.size → Calls Ybad.prog 7 #[.agg #[.int .u64 P, .int .u32 0, .string ⟨#[]⟩]] W fun e w' => e = .returned (.string ⟨((digs zs 10).map chr).toArray⟩) ∧ Below W.heap.size W w') := by
              intro W hW hWs
              refine id_short (digs zs 10) P 0 W (digs_digits _ _) p0 (by omega) (by omega) (by omega) (by rw [← HP.out]; omega) (by rw [digs_length zs _ (show 10 ≤ zs.length by omega)]; omega) ?_ (by omega)
              exact HL.out.below hsz (HB.out.trans (hW.mono (by omega)))
            clear HO HC HA HR
            go_wp2
            have hcv0 := HV.out (wr.alloc (.cells #[.int .u64 P, .int .u32 0, .string ⟨#[]⟩] 28)).drew (fun j => (Below.cell (((Below.refl wr.heap.size wr).alloc (Nat.le_refl _) _).drew) (p := ⟨w.heap.size, j, none⟩) hwsz))
            go_region_with (go_at_call 7; refine (HI.out _ (by exact (((Below.refl _ _).alloc (Nat.le_refl _) _).drew)) (by simp)).mono ?_; rintro e w3 ⟨rfl, hb3⟩; have hb4 : Below wr.heap.size wr w3 := (((Below.refl wr.heap.size wr).alloc (Nat.le_refl _) _).drew).trans (hb3.mono (by simp)); have hcv3 := HV.out w3 (fun j => hb4.cell (p := ⟨w.heap.size, j, none⟩) hwsz); have HB4 : Hid (Below wr.heap.size wr w3) := hb4; clear hb3 hb4)
            all_goals
              go_wp2
              go_ret
              exact ⟨rfl, HB.out.trans (HB4.out.mono (by omega))⟩
  · have h10' : ¬ (10 : Int) < (len : Int) := by omega
    go_enter Ybad.func4, Ybad.ntmps4
    go_wp2
    go_loop [4, 5] (fun lo i => ∃ k : Nat, k ≤ len ∧ i = .int .i64 ((k : Int) - 1) ∧ lo = .int .u64 (pack ((digs zs len).drop k))) (fun _ i => (intOf i + 1).toNat)
    case atStart =>
      refine ⟨len, Nat.le_refl _, ?_, ?_⟩
      · first | rfl | simp
      · rw [List.drop_of_length_le (by rw [digs_length zs _ (by omega)]; exact Nat.le_refl _)]; rfl
    case round =>
      obtain ⟨k, hk, hi_, hlo⟩ := hrel
      cases k with
      | succ k =>
        obtain rfl : _ = Value.int .i64 (k : Int) := hi_.trans (by congr 1; omega)
        clear hi_
        obtain rfl := HA.out (by omega)
        have hdr := drop_pack (digs zs len) k _ (digs_get zs len k (by omega) (by omega))
        have hdd : Digits ((digs zs len).drop (k + 1)) := fun d hd => digs_digits zs len d (List.mem_of_mem_drop hd)
        have p0 := pack_nonneg _ hdd
        have p1 := pack_smaller _ hdd (by rw [List.length_drop, digs_length zs _ (by omega)]; omega)
        have hcell := HC.out k (by omega)
        obtain ⟨r0, r1⟩ := HR.out k
        have HD : Hid (pack ((digs zs len).drop k) = pack ((digs zs len).drop (k + 1)) * 66 + zs.getD k 0 % 66 + 1) := hdr
        clear hdr hdd
        generalize pack ((digs zs len).drop (k + 1)) = P at *
        generalize zs.getD k 0 = c at *
        subst hlo
        have hklt : (k : Int) < (len : Int) := by omega
        go_wp2
        go_round
        case rel => exact ⟨k, by omega, rfl, by rw [HD.out]⟩
        case measure => first | (simp [intOf]; done) | (simp [intOf]; omega)
      | zero =>
        obtain rfl : _ = Value.int .i64 (-1) := hi_
        rw [List.drop_zero] at hlo
        have p0 := pack_nonneg _ (digs_digits zs len)
        have p1 := pack_small _ (digs_digits zs len) (by rw [digs_length zs _ (by omega)]; omega)
        obtain ⟨P, hP⟩ : ∃ P, P = pack (digs zs len) := ⟨_, rfl⟩
        rw [← hP] at hlo p0 p1
        have HP : Hid (P = pack (digs zs len)) := hP
        clear hP
        subst hlo
        go_wp2_with (at_make; refine wpList_make_full _ rfl _ _ 22 rfl w.heap.size 5 i0 (.int .u8 0) 1 Ybad.underlying22 hi hz0 hz1 .i64 .i64 _ _ len rfl rfl (by first | rfl | simp) (by first | rfl | simp) (by rw [hz2]; omega) (by unfold maxLen; omega) (Nat.le_refl _) ?_)
        intro w1 hown hgrow
        have hb1 : Below w.heap.size w w1 := (Below.refl _ _).grown hgrow (Nat.le_refl _) (fun k h => by cases h)
        have hmade : (madeCells #[Value.int .u8 0] len).toList = part (digs zs len) 0 := by
          rw [part_zero, digs_length zs _ (by omega)]
          exact toList_madeCells_one _ _
        rw [hmade] at hown
        have HO : Hid (w1.ownsRow w.heap.size 5 1 (.slice (some ⟨w.heap.size, 0, none⟩) len len) len (part (digs zs len) 0)) := hown
        have HB : Hid (Below w.heap.size w w1) := hb1
        clear hmade hown hgrow hb1
        go_wp2
        go_loopw [7] (fun i wr => ∃ k : Nat, k ≤ len ∧ i = .int .i64 k ∧ Hid (wr.ownsRow w.heap.size 5 1 (.slice (some ⟨w.heap.size, 0, none⟩) len len) len (part (digs zs len) k)) ∧ Hid (Below w.heap.size w wr)) (fun i _ => len - (intOf i).toNat)
        case atStart => exact ⟨0, Nat.zero_le _, rfl, HO, HB⟩
        case round =>
          clear HO HB
          obtain ⟨k, hk, rfl, HO, HB⟩ := hrel
          by_cases hlt : k < len
          · obtain rfl := HA.out (by omega)
            have hcell : wr.cell? ⟨b, off + k, none⟩ = some (.int .u8 (zs.getD k 0)) := (HB.out.cell (by exact hbsz (by omega))).trans (HC.out k (by omega))
            obtain ⟨r0, r1⟩ := HR.out k
            have hdg := digs_get zs len k (by omega) (by omega)
            have hstep := part_step (digs zs len) k _ hdg
            have HS : Hid (wr.ownsRow w.heap.size 5 1 (.slice (some ⟨w.heap.size, 0, none⟩) len len) len (part (digs zs len) k) ∧ (part (digs zs len) k).set k (.int .u8 ((chr (zs.getD k 0 % 66)).toNat : Int)) = part (digs zs len) (k + 1)) := ⟨HO.out, hstep⟩
            have f1 : wr.frozen? ⟨w.heap.size, k, none⟩ = false := HO.out.frozenAt k
            obtain ⟨v, hv⟩ : ∃ v, wr.cell? ⟨w.heap.size, k, none⟩ = some v := by
              have hl1 : k < (part (digs zs len) k).length := by simp [part, digs_length zs _ (show len ≤ zs.length by omega)]; omega
              exact ⟨_, (HO.out.cellAt k (by omega)).trans (List.getElem?_eq_getElem hl1)⟩
            clear hdg hstep HO
            generalize zs.getD k 0 = c at *
            have hklt : (k : Int) < (len : Int) := by omega
            go_wp2
            go_roundw
            case rel =>
              obtain ⟨ho, hst⟩ := HS.out
              have h1 := (ho.stored k (.int .u8 ((chr (c % 66)).toNat : Int))).1
              rw [hst] at h1
              refine ⟨k + 1, by omega, by go_num, ?_, ?_⟩
              · rw [chr_of _ _ rfl]; exact h1
              · exact HB.out.setCell (Nat.le_refl _) _
            case measure => first | (simp [intOf]; done) | (simp [intOf]; omega)
          · obtain rfl : len = k := by omega
            have hwsz : w.heap.size < wr.heap.size := by
              rcases HO.out.2 with ⟨e, _⟩ | ⟨g, cap', cur, e, _, hg, _⟩
              · simp at e
              · simp at e
                obtain ⟨rfl, _⟩ := e
                exact (Array.getElem?_eq_some_iff.1 hg).1
            have HV : Hid (∀ W : World, (∀ j, W.cell? ⟨w.heap.size, j, none⟩ = wr.cell? ⟨w.heap.size, j, none⟩) →
                (convert 22 9 (.slice (some ⟨w.heap.size, 0, none⟩) len len)).run Ybad.prog W = .ok (.string ⟨((digs zs len).map chr).toArray⟩) W) := by
              intro W hW
              rw [← str_part]
              refine run_convert_bytes_arg W 22 5 Ybad.underlying22 Ybad.underlying5 w.heap.size 0 len len _ (by simp [digs_length zs _ (show len ≤ zs.length by omega)]) ?_ 9 Ybad.underlying9
              intro j hj
              rw [Nat.zero_add, hW, HO.out.cellAt j (by omega)]
              have := part_all (digs zs len) j (by rw [digs_length zs _ (show len ≤ zs.length by omega)]; exact hj)
              rw [digs_length zs _ (show len ≤ zs.length by omega)] at this
              exact this
            have HI : Hid (∀ W : World, Below wr.heap.size wr W → wr.heap.size < W.heap.size → Calls Ybad.prog 7 #[.agg #[.int .u64 P, .int .u32 0, .string ⟨#[]⟩]] W fun e w' => e = .returned (.string ⟨((digs zs len).map chr).toArray⟩) ∧ Below W.heap.size W w') := by
              intro W hW hWs
              refine id_short (digs zs len) P 0 W (digs_digits _ _) p0 (by omega) (by omega) (by omega) (by rw [← HP.out]; omega) (by rw [digs_length zs _ (show len ≤ zs.length by omega)]; omega) ?_ (by omega)
              exact HL.out.below hsz (HB.out.trans (hW.mono (by omega)))
            clear HO HC HA HR
            go_wp2
            have hcv0 := HV.out (wr.alloc (.cells #[.int .u64 P, .int .u32 0, .string ⟨#[]⟩] 28)).drew (fun j => (Below.cell (((Below.refl wr.heap.size wr).alloc (Nat.le_refl _) _).drew) (p := ⟨w.heap.size, j, none⟩) hwsz))
            go_region_with (go_at_call 7; refine (HI.out _ (by exact (((Below.refl _ _).alloc (Nat.le_refl _) _).drew)) (by simp)).mono ?_; rintro e w3 ⟨rfl, hb3⟩; have hb4 : Below wr.heap.size wr w3 := (((Below.refl wr.heap.size wr).alloc (Nat.le_refl _) _).drew).trans (hb3.mono (by simp)); have hcv3 := HV.out w3 (fun j => hb4.cell (p := ⟨w.heap.size, j, none⟩) hwsz); have HB4 : Hid (Below wr.heap.size wr w3) := hb4; clear hb3 hb4)
            all_goals
              go_wp2
              go_ret
              exact ⟨rfl, HB.out.trans (HB4.out.mono (by omega))⟩
end Go.Proofs.YbulkaldyDoor
