/-
  b1846a: zzs1846bpick (19), zzs1846bmodel (9): the walks.
-/
import Derived.Test.YbulkalfaNumber
import Derived.Laws.Tables
import Derived.Laws.Rows
namespace Go.Proofs.Ybulkalfa
open Go.RowKit
set_option linter.unusedVariables false
set_option linter.unusedSimpArgs false

/-- What pick yields: the k-th prob that the raw numbers give. -/
def pickF (zs : List Int) (len k : Nat) : Int := if len = 0 then 2048 else 16 + zs.getD (k % len) 0 % 4065
theorem pickF_prob (zs : List Int) (len k : Nat) : Prob (pickF zs len k) := by unfold pickF Prob; split <;> omega

/-- What the walk is told of the slice of raw numbers. -/
structure Raw (w : World) (a0 : Option Addr) (len b off : Nat) (zs : List Int) : Prop where
  addr : 0 < len → a0 = some ⟨b, off, none⟩
  cell : ∀ k, k < len → w.cell? ⟨b, off + k, none⟩ = some (.int .u16 (zs.getD k 0))
  rng : ∀ k, 0 ≤ zs.getD k 0 ∧ zs.getD k 0 ≤ 65535
  small : len ≤ 1024
  block : 0 < len → b < w.heap.size

theorem Raw.below {w w' : World} {a0 : Option Addr} {len b off : Nat} {zs : List Int} (h : Raw w a0 len b off zs) (hb : Below w.heap.size w w') : Raw w' a0 len b off zs :=
  ⟨h.addr, fun k hk => (hb.cell (p := ⟨b, off + k, none⟩) (h.block (by omega))).trans (h.cell k hk), h.rng, h.small, fun hl => Nat.lt_of_lt_of_le (h.block hl) hb.size⟩

set_option maxHeartbeats 400000 in
theorem pick_any (a0 : Option Addr) (len cap b off k : Nat) (zs : List Int) (w : World) (h : Raw w a0 len b off zs) (hk : k ≤ 1000) :
    Calls Yba.prog 19 #[.slice a0 len cap, .int .i64 k] w fun e w' => e = .returned (.int .u16 (pickF zs len k)) ∧ w' = w := by
  have hs := h.small
  by_cases h0 : len = 0
  · subst h0
    have HE : Hid (pickF zs 0 k = 2048) := by show pickF zs 0 k = 2048; unfold pickF; rw [if_pos rfl]
    clear h
    go_enter Yba.func19, Yba.ntmps19
    go_wp2
    go_ret
    exact ⟨ret_int' HE.out.symm, rfl⟩
  · obtain rfl := h.addr (by omega)
    have hm : k % len < len := Nat.mod_lt _ (by omega)
    have hc := h.cell (k % len) hm
    obtain ⟨r0, r1⟩ := h.rng (k % len)
    have HE : Hid (pickF zs len k = 16 + zs.getD (k % len) 0 % 4065) := by show pickF zs len k = _; unfold pickF; rw [if_neg h0]
    generalize zs.getD (k % len) 0 = x at *
    obtain ⟨j, hj⟩ : ∃ j, j = k % len := ⟨_, rfl⟩
    rw [← hj] at hc hm
    have ej : (k : Int).tmod (len : Int) = (j : Int) := by rw [hj, ← Int.ofNat_tmod]
    have ej' : (k : Int) % (len : Int) = (j : Int) := by rw [hj]; exact (Int.natCast_emod k len).symm
    have hne : ((len : Int) == 0) = false := by rw [beq_eq_false_iff_ne]; omega
    have hmi : (j : Int) < (len : Int) := by omega
    clear h hj
    go_enter Yba.func19, Yba.ntmps19
    go_wp2
    go_ret
    refine ⟨ret_int' ?_, rfl⟩
    rw [HE.out]

/-- The model that the raw numbers give: 145 probs. -/
def mdl (zs : List Int) (len : Nat) : List Int := (List.range 145).map (pickF zs len)
/-- .. while j of them are laid. -/
def mpart (zs : List Int) (len j : Nat) : List Int := (List.range j).map (pickF zs len) ++ List.replicate (145 - j) 0
theorem mpart_length (zs : List Int) (len j : Nat) (h : j ≤ 145) : (mpart zs len j).length = 145 := by simp [mpart]; omega
theorem mpart_all (zs : List Int) (len : Nat) : mpart zs len 145 = mdl zs len := by simp [mpart, mdl]
theorem mpart_set (zs : List Int) (len j : Nat) (h : j < 145) : (mpart zs len j).set j (pickF zs len j) = mpart zs len (j + 1) := by
  unfold mpart
  rw [List.set_append_right _ _ (by simp)]
  rw [show 145 - j = (145 - (j + 1)) + 1 by omega, List.replicate_succ]
  simp [List.range_succ]
theorem mdl_length (zs : List Int) (len : Nat) : (mdl zs len).length = 145 := by simp [mdl]
theorem mdl_probs (zs : List Int) (len : Nat) : Probs (mdl zs len) := by
  intro x hx
  obtain ⟨k, _, rfl⟩ := List.mem_map.1 hx
  exact pickF_prob zs len k

theorem below_setRow {B : Nat} {a w : World} (h : Below B a w) {g : Nat} (hg : B ≤ g) (cs : Array Value) : Below B a (w.setRow g cs) :=
  ⟨h.os, h.tape, h.output, by simpa using h.size, fun k hk => (setRow_other w g k cs (by omega)).trans (h.block k hk)⟩
theorem mcells_size (M : List Int) : (mcells M).size = M.length := by simp [mcells]
theorem mcells_one (M : List Int) : (mcells M).all (·.oneCell') = true := by simp [mcells, Value.oneCell']

def zeros : List Int := List.replicate 145 0
theorem mpart_zero (zs : List Int) (len : Nat) : mpart zs len 0 = zeros := by simp [mpart, zeros]
theorem zero36 (w : World) : (zeroValue 36).run Yba.prog w = .ok (.agg (mcells zeros)) w := by kernel_rfl

set_option maxHeartbeats 2000000 in
set_option maxRecDepth 100000 in
theorem model_any (a0 : Option Addr) (len cap b off : Nat) (zs : List Int) (w : World) (h : Raw w a0 len b off zs) :
    Calls Yba.prog 9 #[.slice a0 len cap] w fun e w' => e = .returned (.agg (mcells (mdl zs len))) ∧ Below w.heap.size w w' := by
  have HR : Hid (Raw w a0 len b off zs) := h
  clear h
  have hzv := zero36
  go_enter Yba.func9, Yba.ntmps9
  go_wp2
  go_loopg [4, 5] 64 (fun gk kk i wr => ∃ j : Nat, j + gk = 64 ∧ kk = .int .i64 (j : Int) ∧ i = .int .i64 j ∧ Hid (ModAt (w.heap.size + 1) (mpart zs len j) wr ∧ ModAt w.heap.size (mpart zs len 0) wr ∧ Below w.heap.size w wr))
  case atStart =>
    refine ⟨0, rfl, rfl, rfl, ?_, ?_, ?_⟩
    · rw [mpart_zero]; exact heap_alloc2_new _ _ _
    · rw [mpart_zero]; exact heap_alloc2_old _ _ _
    · exact ((Below.refl _ _).alloc (Nat.le_refl _) _).alloc (by simp) _
  case round =>
    obtain ⟨j, hj, hkk, rfl, hx⟩ := hrel
    by_cases hlt : j < 64
    · have hcell := hx.out.1.cell (i := j) (by rw [mpart_length _ _ _ (by omega)]; omega)
      have hfz := hx.out.1.frozen j
      have hlti : (j : Int) < 64 := by omega
      have hRw : Hid (Raw wr a0 len b off zs) := HR.out.below hx.out.2.2
      obtain rfl : _ = Value.int .i64 ((j : Nat) : Int) := hkk.trans (by first | (congr 1; omega) | congr 1 | rfl)
      clear hkk
      go_wp2_with fail
      refine (pick_any a0 len cap b off j zs _ hRw.out (by omega)).mono ?_
      rintro e w1 ⟨rfl, hw1⟩
      subst hw1
      generalize hp : pickF zs len j = x at *
      have HP : Hid (pickF zs len j = x) := hp
      clear hp
      go_wp2
      go_roundg (gk - 1)
      case measure => omega
      case rel =>
        refine ⟨j + 1, by omega, by go_num, by go_num, ?_, ?_, ?_⟩
        · have h1 := hx.out.1.stored j x rfl
          rw [show (mpart zs len j).set j x = mpart zs len (j + 1) from by rw [← HP.out]; exact mpart_set zs len j (by omega)] at h1
          exact h1
        · exact hx.out.2.1.kept (Below.heap_setCell _ _ _ _ (by simp))
        · exact hx.out.2.2.setCell (by simp) _
    · obtain rfl : 64 = j := by omega
      clear hlt hj
      obtain rfl : _ = Value.int .i64 64 := hkk
      go_wp2
      go_loopg [4, 6] 65 (fun gk kk i wr => ∃ j : Nat, j + gk = 65 ∧ kk = .int .i64 (64 + (j : Int)) ∧ i = .int .i64 j ∧ Hid (ModAt (w.heap.size + 1) (mpart zs len (64 + j)) wr ∧ ModAt w.heap.size (mpart zs len 0) wr ∧ Below w.heap.size w wr))
      case atStart =>
        exact ⟨0, rfl, rfl, rfl, hx⟩
      case round =>
        obtain ⟨j, hj, hkk, rfl, hx⟩ := hrel
        by_cases hlt : j < 65
        · have hcell := hx.out.1.cell (i := 64 + j) (by rw [mpart_length _ _ _ (by omega)]; omega)
          have hfz := hx.out.1.frozen (64 + j)
          have hlti : (j : Int) < 65 := by omega
          have hRw : Hid (Raw wr a0 len b off zs) := HR.out.below hx.out.2.2
          obtain rfl : _ = Value.int .i64 ((64 + j : Nat) : Int) := hkk.trans (by first | (congr 1; omega) | congr 1 | rfl)
          clear hkk
          go_wp2_with fail
          refine (pick_any a0 len cap b off (64 + j) zs _ hRw.out (by omega)).mono ?_
          rintro e w1 ⟨rfl, hw1⟩
          subst hw1
          generalize hp : pickF zs len (64 + j) = x at *
          have HP : Hid (pickF zs len (64 + j) = x) := hp
          clear hp
          go_wp2
          go_roundg (gk - 1)
          case measure => omega
          case rel =>
            refine ⟨j + 1, by omega, by go_num, by go_num, ?_, ?_, ?_⟩
            · have h1 := hx.out.1.stored (64 + j) x rfl
              rw [show (mpart zs len (64 + j)).set (64 + j) x = mpart zs len (64 + (j + 1)) from by rw [← HP.out]; exact mpart_set zs len (64 + j) (by omega)] at h1
              exact h1
            · exact hx.out.2.1.kept (Below.heap_setCell _ _ _ _ (by simp))
            · exact hx.out.2.2.setCell (by simp) _
        · obtain rfl : 65 = j := by omega
          clear hlt hj
          obtain rfl : _ = Value.int .i64 129 := hkk
          go_wp2
          go_loopg [4, 7] 16 (fun gk kk i wr => ∃ j : Nat, j + gk = 16 ∧ kk = .int .i64 (129 + (j : Int)) ∧ i = .int .i64 j ∧ Hid (ModAt (w.heap.size + 1) (mpart zs len (129 + j)) wr ∧ ModAt w.heap.size (mpart zs len 0) wr ∧ Below w.heap.size w wr))
          case atStart =>
            exact ⟨0, rfl, rfl, rfl, hx⟩
          case round =>
            obtain ⟨j, hj, hkk, rfl, hx⟩ := hrel
            by_cases hlt : j < 16
            · have hcell := hx.out.1.cell (i := 129 + j) (by rw [mpart_length _ _ _ (by omega)]; omega)
              have hfz := hx.out.1.frozen (129 + j)
              have hlti : (j : Int) < 16 := by omega
              have hRw : Hid (Raw wr a0 len b off zs) := HR.out.below hx.out.2.2
              obtain rfl : _ = Value.int .i64 ((129 + j : Nat) : Int) := hkk.trans (by first | (congr 1; omega) | congr 1 | rfl)
              clear hkk
              go_wp2_with fail
              refine (pick_any a0 len cap b off (129 + j) zs _ hRw.out (by omega)).mono ?_
              rintro e w1 ⟨rfl, hw1⟩
              subst hw1
              generalize hp : pickF zs len (129 + j) = x at *
              have HP : Hid (pickF zs len (129 + j) = x) := hp
              clear hp
              go_wp2
              go_roundg (gk - 1)
              case measure => omega
              case rel =>
                refine ⟨j + 1, by omega, by go_num, by go_num, ?_, ?_, ?_⟩
                · have h1 := hx.out.1.stored (129 + j) x rfl
                  rw [show (mpart zs len (129 + j)).set (129 + j) x = mpart zs len (129 + (j + 1)) from by rw [← HP.out]; exact mpart_set zs len (129 + j) (by omega)] at h1
                  exact h1
                · exact hx.out.2.1.kept (Below.heap_setCell _ _ _ _ (by simp))
                · exact hx.out.2.2.setCell (by simp) _
            · obtain rfl : 16 = j := by omega
              clear hlt hj
              obtain rfl : _ = Value.int .i64 145 := hkk
              go_wp2_with (first
                | refine wpList_load_row rfl 36 _ rfl (w.heap.size + 1) rfl 36 (mcells (mdl zs len)) (0, 0) _ (by rw [← mpart_all]; exact hx.out.1) Yba.underlying36 rfl (by rw [mcells_size, mdl_length]; kernel_rfl) ?_
                | refine wpList_store_row rfl 36 _ _ rfl w.heap.size (mcells (mdl zs len)) rfl rfl 36 (mcells (mpart zs len 0)) hx.out.2.1 (by rw [mcells_size, mdl_length]; kernel_rfl) (by rw [mcells_size, mcells_size, mdl_length, mpart_length _ _ _ (by omega)]) (mcells_one _) ?_)
              exact bodyPost_ret (v := .agg (mcells (mdl zs len))) (results_cell_row Yba.results9 _ _ w.heap.size 36 (mcells (mdl zs len)) (0, 0) _ rfl (setRow_heap _ _ _ _ _ _ hx.out.2.1) Yba.underlying36 rfl (by rw [mcells_size, mdl_length]; kernel_rfl)) rfl ⟨rfl, below_setRow hx.out.2.2 (Nat.le_refl _) _⟩
end Go.Proofs.Ybulkalfa
