/-
  b1846a: carry (24), shift (23): the walks.
-/
import Derived.Test.YbulkalfaMem
namespace Go.Proofs.Ybulkalfa
open Go.RowKit
set_option linter.unusedVariables false
set_option linter.unusedSimpArgs false

/-- The bytes while the carry runs: q of the run of 255 are left. -/
def ls (pre : List Int) (x : Int) (t q : Nat) : List Int := pre ++ x :: (List.replicate q 255 ++ List.replicate (t - q) 0)
theorem ls_all (pre : List Int) (x : Int) (t : Nat) : ls pre x t t = pre ++ x :: List.replicate t 255 := by simp [ls]
theorem ls_get (pre : List Int) (x : Int) (t q : Nat) : (ls pre x t (q + 1))[pre.length + (q + 1)]? = some 255 := by
  unfold ls
  rw [List.getElem?_append_right (by omega), show pre.length + (q + 1) - pre.length = q + 1 by omega, List.getElem?_cons_succ, List.getElem?_append_left (by simp)]
  simp
theorem ls_set (pre : List Int) (x : Int) (t q : Nat) (h : q + 1 ≤ t) : (ls pre x t (q + 1)).set (pre.length + (q + 1)) 0 = ls pre x t q := by
  unfold ls
  rw [List.set_append_right _ _ (by omega), show pre.length + (q + 1) - pre.length = q + 1 by omega, List.set_cons_succ, List.set_append_left _ _ (by simp)]
  rw [show t - q = (t - (q + 1)) + 1 by omega, List.replicate_succ' (n := q), List.replicate_succ (n := t - (q + 1)), List.set_append_right _ _ (by simp)]
  simp
theorem ls_head (pre : List Int) (x : Int) (t : Nat) : (ls pre x t 0)[pre.length]? = some x := by
  unfold ls
  rw [List.getElem?_append_right (by omega), Nat.sub_self]
  rfl
theorem ls_done (pre : List Int) (x y : Int) (t : Nat) : (ls pre x t 0).set pre.length y = pre ++ y :: List.replicate t 0 := by
  unfold ls
  rw [List.set_append_right _ _ (by omega), Nat.sub_self, List.set_cons_zero]
  simp
theorem ls_length (pre : List Int) (x : Int) (t q : Nat) (h : q ≤ t) : (ls pre x t q).length = pre.length + t + 1 := by simp [ls]; omega

theorem ret_int' {k : IntKind} {a b : Int} (h : a = b) : Ending.returned (.int k a) = .returned (.int k b) := by rw [h]

set_option maxHeartbeats 1000000 in
set_option maxRecDepth 100000 in
theorem carry_any (B b : Nat) (r : Option Nat) (buf : List Int) (lo rg low : Int) (w : World) (h : EncAt B b r buf lo rg w) (hby : Bytes buf) (l0 : 0 ≤ low) (l1 : low ≤ 8589934592)
    (hcap : 4294967296 ≤ low → ∃ x, x ∈ buf ∧ x ≠ 255) (hlen : buf.length ≤ 1099511627776) :
    Calls Yba.prog 24 #[.pointer (some ⟨b, 0, none⟩), .int .u64 low] w fun e w' => e = .returned (.int .u64 (lowC low)) ∧ EncAt B b r (bufC buf low) lo rg w' ∧ Moved b r none w w' r := by
  by_cases hc : 4294967296 ≤ low
  · obtain ⟨pre, x, t, rfl, hx⟩ := split_ff buf (hcap hc)
    have e1 : bufC (pre ++ x :: List.replicate t 255) low = pre ++ (x + 1) :: List.replicate t 0 := by unfold bufC; rw [if_pos hc, carryL_run pre x hx t]
    have e2 : lowC low = low - 4294967296 := by unfold lowC; rw [if_pos hc]
    rw [e1, e2]
    clear e1 e2 hcap
    obtain ⟨x0, x1⟩ := hby x (by simp)
    obtain ⟨hB, v, hv, hown, hr, hne⟩ := h
    obtain ⟨g, cap, rfl, hgc⟩ : ∃ g cap, v = .slice (some ⟨g, 0, none⟩) (pre.length + t + 1) cap ∧ pre.length + t + 1 ≤ cap := by
      rcases hown.2 with ⟨_, hn⟩ | ⟨g, cap, cur, hv', _, _, hnc, _⟩
      · simp at hn
      · have el : (pre ++ x :: List.replicate t 255).length = pre.length + t + 1 := by simp; omega
        exact ⟨g, cap, by rw [hv', el], by omega⟩
    have el : (pre ++ x :: List.replicate t 255).length = pre.length + t + 1 := by simp; omega
    rw [el] at hown hlen
    obtain rfl : some g = r := hr
    have hgb : g ≠ b := fun e => hne (by rw [e])
    have HV : Hid (w.heap[b]? = some (.cells #[.slice (some ⟨g, 0, none⟩) (pre.length + t + 1) cap, .int .i64 0, .int .u64 lo, .int .u32 rg] 27 (0, 0))) := hv
    have HO : Hid (w.ownsRow B 5 1 (.slice (some ⟨g, 0, none⟩) (pre.length + t + 1) cap) (pre.length + t + 1) (bcells (pre ++ x :: List.replicate t 255))) := hown
    have c0 : w.cell? ⟨b, 0, none⟩ = some (.slice (some ⟨g, 0, none⟩) (pre.length + t + 1) cap) := by rw [Lib.cell_of_heap hv]; rfl
    have c1 : w.cell? ⟨b, 1, none⟩ = some (.int .i64 0) := by rw [Lib.cell_of_heap hv]; rfl
    clear hv hown hne hby
    generalize hp : pre.length = p at *
    have HP : Hid (pre.length = p) := hp
    clear hp
    go_enter Yba.func24, Yba.ntmps24
    go_wp2
    go_loopw [5] (fun i wr => ∃ q : Nat, q ≤ t ∧ i = .int .i64 ((p : Int) + (q : Int)) ∧ Hid (wr.heap[b]? = w.heap[b]?) ∧
        Hid (wr.ownsRow B 5 1 (.slice (some ⟨g, 0, none⟩) (p + t + 1) cap) (p + t + 1) (bcells (ls pre x t q))) ∧ Hid (Moved b (some g) none w wr (some g))) (fun i _ => (intOf i).toNat)
    case atStart => exact ⟨t, Nat.le_refl _, rfl, rfl, by rw [ls_all]; exact HO, Moved.refl _ _ _ _⟩
    case round =>
      clear HO c0 c1
      obtain ⟨q, hq, rfl, hb, HO, HM⟩ := hrel
      have hv := hb.out.trans HV.out
      have c0 : wr.cell? ⟨b, 0, none⟩ = some (.slice (some ⟨g, 0, none⟩) (p + t + 1) cap) := by rw [Lib.cell_of_heap hv]; rfl
      have c1 : wr.cell? ⟨b, 1, none⟩ = some (.int .i64 0) := by rw [Lib.cell_of_heap hv]; rfl
      clear hv
      cases q with
      | succ q =>
        have cg : wr.cell? ⟨g, p + (q + 1), none⟩ = some (.int .u8 255) := by
          rw [HO.out.cellAt _ (by omega)]
          refine bcells_get _ _ _ ?_
          have := ls_get pre x t q
          rw [HP.out] at this
          exact this
        have fg : ∀ o, wr.frozen? ⟨g, o, none⟩ = false := fun o => HO.out.frozenAt o
        have hidx : (p : Int) + ((q : Int) + 1) < ((p + t + 1 : Nat) : Int) := by omega
        go_wp2
        go_roundw
        case rel =>
          refine ⟨q, by omega, ?_, ?_, ?_, ?_⟩
          · first | rfl | (congr 1; omega)
          · exact (Below.heap_setCell _ _ _ _ (fun e => hgb e.symm)).trans hb.out
          · have h1 := (HO.out.stored (p + (q + 1)) (.int .u8 0)).1
            rw [bcells_set, show (ls pre x t (q + 1)).set (p + (q + 1)) 0 = ls pre x t q from by have := ls_set pre x t q (by omega); rw [HP.out] at this; exact this] at h1
            exact h1
          · exact HM.out.setCell g _ _ (.inr (.inl rfl))
        case measure => simp [intOf]; omega
      | zero =>
        have cg : wr.cell? ⟨g, p, none⟩ = some (.int .u8 x) := by
          rw [HO.out.cellAt _ (by omega)]
          refine bcells_get _ _ _ ?_
          have := ls_head pre x t
          rw [HP.out] at this
          exact this
        have fg : ∀ o, wr.frozen? ⟨g, o, none⟩ = false := fun o => HO.out.frozenAt o
        have hxn : (x == 255) = false := by rw [beq_eq_false_iff_ne]; exact hx
        have hx254 : x ≤ 254 := by omega
        have hidx : (p : Int) < ((p + t + 1 : Nat) : Int) := by omega
        clear hx x1
        go_wp2
        go_ret
        refine ⟨rfl, ⟨hB, .slice (some ⟨g, 0, none⟩) (p + t + 1) cap, ?_, ?_, rfl, fun e => hgb (Option.some.inj e)⟩, HM.out.setCell g _ _ (.inr (.inl rfl))⟩
        · exact (Below.heap_setCell _ _ _ _ (fun e => hgb e.symm)).trans (hb.out.trans HV.out)
        · have h1 := (HO.out.stored p (.int .u8 (x + 1))).1
          rw [bcells_set, show (ls pre x t 0).set p (x + 1) = pre ++ (x + 1) :: List.replicate t 0 from by have := ls_done pre x (x + 1) t; rw [HP.out] at this; exact this] at h1
          have el : (pre ++ (x + 1) :: List.replicate t 0).length = p + t + 1 := by have := HP.out; simp; omega
          rw [el]
          exact h1
  · have e1 : bufC buf low = buf := by unfold bufC; rw [if_neg hc]
    have e2 : lowC low = low := by unfold lowC; rw [if_neg hc]
    rw [e1, e2]
    have HE : Hid (EncAt B b r buf lo rg w) := h
    clear h hcap hby e1 e2
    go_enter Yba.func24, Yba.ntmps24
    go_wp2
    go_ret
    exact ⟨rfl, HE.out, Moved.refl _ _ _ _⟩

theorem infoByte : (Yba.prog.info? 5).map (fun i => (i.zero, i.size, i.bytes)) = some (some (.int .u8 0), 1, 1) := by kernel_rfl
theorem ret2_int {k k' : IntKind} {a b a' b' : Int} (h : a = b) (h' : a' = b') : Ending.returned (.tuple #[.int k a, .int k' a']) = .returned (.tuple #[.int k b, .int k' b']) := by rw [h, h']

/-- An append of one byte to a row that is owned: behind it the value's row is the old one or a new block. -/
theorem append_row {P : Program} (w : World) (base : Nat) (t ty e : TypeId) (i : TypeInfo) (z : Value) (ht : P.underlying t = some (.slice e)) (hi : P.info? e = some i) (hz : i.zero = some z) (hsize : i.size = 1) (hby : i.bytes = 1) (hzs : z.cells.size = 1)
    (v : Value) (n : Nat) (xs : List Value) (hown : w.ownsRow base e 1 v n xs) (a : Addr) (u : Value) (hu : u.oneCell' = true) (hcell : w.cell? a = some u) (hadd : a.add 0 = a)
    (h63 : n + 1 ≤ maxLen) (hbytes : (n + 1) * 1 ≤ 140737488355328) (hbase : base ≤ w.heap.size) :
    ∃ v' w', (Builtin.append_ #[t, t] ty #[v, .slice (some a) 1 1]).run P w = .ok v' w' ∧ w'.ownsRow base e 1 v' (n + 1) (xs ++ [u]) ∧ w.grownBy w' v.ownBlock ∧ (v'.ownBlock = v.ownBlock ∨ ∃ k, v'.ownBlock = some k ∧ w.heap.size ≤ k) := by
  have hnews : ∀ j x, [u][j]? = some x → w.cell? (a.add j) = some x := by
    intro j x hj
    match j, hj with
    | 0, hj => simp at hj; subst hj; rw [hadd]; exact hcell
  have h1 : ∀ x ∈ [u], x.oneCell' = true := fun x hx => by simp at hx; subst hx; exact hu
  obtain ⟨v', w', hr, ho, hg, _⟩ := run_append_own (P := P) w base t ty e i z 1 1 ht hi hz hsize hby hzs (by decide) v n xs hown a 1 1 [u] rfl hnews h1 h63 hbytes hbase
  refine ⟨v', w', hr, ho, hg, ?_⟩
  rcases hown.2 with ⟨rfl, rfl⟩ | ⟨g, cap, cur, rfl, hbg, hgg, hnc, hcm, hcs, htake⟩
  · obtain ⟨v2, w2, hr2, ho2, _⟩ := run_append_own (P := P) w w.heap.size t ty e i z 1 1 ht hi hz hsize hby hzs (by decide) (.slice none 0 0) 0 xs ⟨hown.1, .inl ⟨rfl, rfl⟩⟩ a 1 1 [u] rfl hnews h1 h63 hbytes (Nat.le_refl _)
    rw [hr] at hr2
    injection hr2 with e1 e2
    subst e1
    rcases ho2.2 with ⟨_, h0⟩ | ⟨g', cap', cur', rfl, hb', _⟩
    · omega
    · exact .inr ⟨g', rfl, hb'⟩
  · by_cases hroom : n + 1 ≤ cap
    · have hr2 := run_append_room (P := P) w t ty e i ht hi g n cap cur hgg a 1 1 [u] (by rw [hsize]; rfl) hnews h1 hroom (by rw [hsize]; simp; omega)
      rw [hr] at hr2
      injection hr2 with e1 e2
      subst e1
      exact .inl rfl
    · have hr2 := run_append_grow (P := P) w t ty e i z ht hi hz ⟨g, 0, none⟩ n cap xs (by rw [hsize]; exact hown.1) (hown.cells (g := g) rfl) a 1 1 [u] (by rw [hsize]; rfl) hnews (by omega) (by simp only [maxLen] at h63; omega) (by rw [hby]; exact growslice_fits (by omega) hbytes)
      rw [hr] at hr2
      injection hr2 with e1 e2
      subst e1
      exact .inr ⟨w.heap.size, rfl, Nat.le_refl _⟩

theorem wpList_append_row {P : Program} (w : World) {ops : Array Oper} {rest : List Oper} {o : Oper} {a : Act} {Q : Exit → Act → World → Prop} (hgd : o.guard = none) (s x : Operand) (t : TypeId)
    (ho : o.op = .call { callee := .builtin .append, args := #[s, x], argTypes := #[t, t] })
    (base : Nat) (e : TypeId) (i : TypeInfo) (z : Value) (ht : P.underlying t = some (.slice e)) (hi : P.info? e = some i) (hz : i.zero = some z) (hsize : i.size = 1) (hby : i.bytes = 1) (hzs : z.cells.size = 1)
    (v : Value) (n : Nat) (xs : List Value) (hs : a.eval s = v) (hown : w.ownsRow base e 1 v n xs) (ad : Addr) (u : Value) (hx : a.eval x = .slice (some ad) 1 1) (hu : u.oneCell' = true) (hcell : w.cell? ad = some u) (hadd : ad.add 0 = ad)
    (h63 : n + 1 ≤ maxLen) (hbytes : (n + 1) * 1 ≤ 140737488355328) (hbase : base ≤ w.heap.size)
    (h : ∀ v' w', w'.ownsRow base e 1 v' (n + 1) (xs ++ [u]) → w.grownBy w' v.ownBlock → (v'.ownBlock = v.ownBlock ∨ ∃ k, v'.ownBlock = some k ∧ w.heap.size ≤ k) → wpList P ops Q rest (a.put o.dst v') w') : wpList P ops Q (o :: rest) a w := by
  obtain ⟨v', w', hr, h2, h3, h4⟩ := append_row (P := P) w base t o.type e i z ht hi hz hsize hby hzs v n xs hown ad u hu hcell hadd h63 hbytes hbase
  refine wpList_plain hgd fun K hK => ?_
  unfold Oper.wp execOp
  simp only [ho, resolve, invoke, builtin, Sem.run_bind, Sem.run_pure, Result.andThen_ok, List.map_toArray, List.map_cons, List.map_nil, hs, hx, hr]
  exact hK _ _ (h v' w' h2 h3 h4)

/-- 'low<<8 & (1<<32 - 1)'. -/
theorem shl_and (x : Int) (h0 : 0 ≤ x) (h1 : x < 4294967296) : bits .and .u64 (x * 256) 4294967295 = x * 256 % 4294967296 := by
  obtain ⟨n, rfl⟩ := Int.eq_ofNat_of_zero_le h0
  rw [show ((n : Int) * 256) = ((n * 256 : Nat) : Int) by omega, show (4294967295 : Int) = ((4294967295 : Nat) : Int) from rfl, u64_and_nat _ _ (by omega) (by omega)]
  have := Nat.and_two_pow_sub_one_eq_mod (n * 256) 32
  rw [show 2 ^ 32 - 1 = 4294967295 from rfl, show 2 ^ 32 = 4294967296 from rfl] at this
  rw [this]
  omega

set_option maxHeartbeats 1000000 in
set_option maxRecDepth 100000 in
theorem shift_any (B b : Nat) (r : Option Nat) (buf : List Int) (lo rg low rng : Int) (w : World) (h : EncAt B b r buf lo rg w) (hI : Inv ⟨buf, low, rng⟩) (hr : rng < 16777216)
    (hlen : buf.length ≤ 1000000) :
    Calls Yba.prog 23 #[.pointer (some ⟨b, 0, none⟩), .int .u64 low, .int .u32 rng] w fun e w' =>
      e = .returned (.tuple #[.int .u64 (shiftS ⟨buf, low, rng⟩).low, .int .u32 (shiftS ⟨buf, low, rng⟩).rng]) ∧ ∃ r', EncAt B b r' (shiftS ⟨buf, low, rng⟩).buf lo rg w' ∧ Moved b r none w w' r' := by
  obtain ⟨i0, hi, hz0, hz1, hz2⟩ := info_parts infoByte
  have l0 : 0 ≤ low := hI.low0
  have r0 : 1 ≤ rng := hI.rng0
  have ls : low + rng ≤ 8589934592 := hI.sum
  obtain ⟨k0, k1⟩ : 0 ≤ lowC low ∧ lowC low < 4294967296 := lowC_bd ⟨buf, low, rng⟩ hI
  have hby := hI.bytes
  have hcp : 4294967296 ≤ low → ∃ x, x ∈ buf ∧ x ≠ 255 := fun hc => hI.cap (by show 4294967296 < low + rng; omega)
  have hbl := bufC_length buf low
  have HA : Hid (bits .and .u64 (lowC low * 256) 4294967295 = lowC low * 256 % 4294967296) := shl_and _ k0 k1
  have HG : Hid ((shiftS ⟨buf, low, rng⟩) = ⟨bufC buf low ++ [lowC low / 16777216], lowC low * 256 % 4294967296, rng * 256⟩) := rfl
  rw [HG.out]
  have HH : Hid (EncAt B b r buf lo rg w ∧ Bytes buf ∧ (4294967296 ≤ low → ∃ x, x ∈ buf ∧ x ≠ 255)) := ⟨h, hby, hcp⟩
  clear h hI hby hcp HG
  have HL : Hid ((bufC buf low).length = buf.length) := hbl
  clear hbl
  go_enter Yba.func23, Yba.ntmps23
  go_wp2_with fail
  refine (carry_any B b r buf lo rg low _ HH.out.1 HH.out.2.1 l0 (by omega) HH.out.2.2 (by omega)).mono ?_
  rintro e w1 ⟨rfl, hE, hM⟩
  generalize hx : lowC low = x at *
  have HX : Hid (lowC low = x) := hx
  clear hx
  generalize hbf : bufC buf low = bf at *
  have HBF : Hid (bufC buf low = bf) := hbf
  clear hbf
  obtain ⟨hB, v, hv, hown, hrr, hne⟩ := hE
  have hc0 : w1.cell? ⟨b, 0, none⟩ = some v := by rw [Lib.cell_of_heap hv]; rfl
  have HM : Hid (Moved b r none w w1 r) := hM
  clear hM HH
  have hbl : bf.length ≤ 1000000 := by rw [HL.out]; exact hlen
  have HR : Hid (v.ownBlock = r) := hrr
  clear hrr
  have hlt : b < w1.heap.size := (Array.getElem?_eq_some_iff.1 hv).1
  go_wp2_with (at_builtin; refine wpList_append_row _ rfl _ _ 24 rfl B 5 i0 (.int .u8 0) Yba.underlying24 hi hz0 hz1 hz2 rfl _ _ _ rfl (hown.alloc _) ⟨w1.heap.size, 0, none⟩ (.int .u8 (x / 16777216)) rfl rfl ?c1 rfl ?c3 ?c4 ?c5 ?_)
  case c1 => simp [go_sem]
  case c3 => unfold maxLen; omega
  case c4 => omega
  case c5 => simp; omega
  intro v' w2 hown' hgrow hrow
  have hb2 : w2.heap[b]? = some (.cells #[v, .int .i64 0, .int .u64 lo, .int .u32 rg] 27 (0, 0)) := by
    rw [hgrow.block b (by simp; omega) (fun e => hne (by rw [← HR.out]; exact e.symm)), Below.heap_alloc _ _ _ hlt]
    exact hv
  have d0 : w2.cell? ⟨b, 0, none⟩ = some v := by rw [Lib.cell_of_heap hb2]; rfl
  have f0 : ∀ o, w2.frozen? ⟨b, o, none⟩ = false := fun o => Lib.frozen_of_heap hb2 o
  have hM2 : Moved b r none w w2 v'.ownBlock := by
    refine HM.out.trans ⟨⟨?_, ?_, ?_⟩, ?_, ?_, ?_⟩
    · exact hgrow.os
    · exact hgrow.tape
    · exact hgrow.output
    · have := hgrow.size; simp at this; omega
    · intro k hk h1 h2 _
      rw [hgrow.block k (by simp; omega) (fun e => h2 (by rw [← HR.out]; exact e.symm)), Below.heap_alloc _ _ _ hk]
    · rw [HR.out] at hrow
      rcases hrow with e | ⟨k, e, hk⟩
      · exact .inl e
      · exact .inr ⟨k, e, by first | omega | (simp at hk; omega)⟩
  have hne' : v'.ownBlock ≠ some b := by
    rcases hrow with e | ⟨k, e, hk⟩
    · rw [e, HR.out]; exact hne
    · rw [e]; intro e'; have e'' := Option.some.inj e'; first | omega | (simp at hk; omega)
  have HF : Hid (w2.heap[b]? = some (.cells #[v, .int .i64 0, .int .u64 lo, .int .u32 rg] 27 (0, 0)) ∧ w2.ownsRow B 5 1 v' (bf.length + 1) (bcells bf ++ [.int .u8 (x / 16777216)]) ∧ v'.ownBlock ≠ some b ∧ Moved b r none w w2 v'.ownBlock) := ⟨hb2, hown', hne', hM2⟩
  obtain ⟨g, cap, rfl⟩ : ∃ g cap, v' = .slice (some ⟨g, 0, none⟩) (bf.length + 1) cap := by
    rcases hown'.2 with ⟨_, hn⟩ | ⟨g, cap, cur, hv', _⟩
    · omega
    · exact ⟨g, cap, hv'⟩
  clear hb2 hown' hne' hM2 hgrow hrow hown hv HM HR hne HL
  go_wp2
  go_ret2
  obtain ⟨hb2, hown', hne', hM2⟩ := HF.out
  refine ⟨ret2_int ?_ ?_, some g, ⟨hB, .slice (some ⟨g, 0, none⟩) (bf.length + 1) cap, ?_, ?_, rfl, hne'⟩, ?_⟩
  · rw [HX.out]; exact HA.out
  · rfl
  · rw [heap_setCell_same w2 b 0 _ 27 _ hb2]
    rfl
  · have key := hown'.kept (w' := w2.setCell ⟨b, 0, none⟩ (.slice (some ⟨g, 0, none⟩) (bf.length + 1) cap)) (row := some b) ⟨rfl, rfl, rfl, by simp [World.setCell], fun k _ hk => Below.heap_setCell _ _ _ _ (fun e => hk (by simp [e]))⟩ (.inr hne')
    rw [bcells_snoc] at key
    rw [HX.out, HBF.out, List.length_append]
    exact key
  · exact hM2.setB b 0 _ (.inl rfl)
end Go.Proofs.Ybulkalfa
