/-
  b1846a: an encoder in memory, and what a call on it leaves alone.
-/
import Derived.Test.YbulkalfaRows
import Derived.Test.YbulkalfaEnc
import Derived.WalkKit
import Derived.Laws.OwnMore
import Derived.Lib.Builder
import Derived.Deep.Draws
namespace Go.Proofs.Ybulkalfa
open Go.RowKit
set_option linter.unusedVariables false
set_option linter.unusedSimpArgs false

/-- A block, under a name that the walk does not open. -/
def blockOf (w : World) (c : Nat) : Option Obj := w.heap[c]?

/-- Bytes as cells. -/
def bcells (l : List Int) : List Value := l.map (Value.int .u8)
theorem bcells_length (l : List Int) : (bcells l).length = l.length := by simp [bcells]
theorem bcells_get (l : List Int) (i : Nat) (x : Int) (h : l[i]? = some x) : (bcells l)[i]? = some (.int .u8 x) := by simp [bcells, h]
theorem bcells_set (l : List Int) (i : Nat) (x : Int) : (bcells l).set i (.int .u8 x) = bcells (l.set i x) := by simp [bcells, List.map_set]
theorem bcells_snoc (l : List Int) (x : Int) : bcells l ++ [.int .u8 x] = bcells (l ++ [x]) := by simp [bcells]

/-- A rangeEncoder in block b (a block of the call's own: from B on), its bytes in the row r; its stream starts at 0. -/
def EncAt (B b : Nat) (r : Option Nat) (buf : List Int) (lo rg : Int) (w : World) : Prop :=
  B ≤ b ∧ ∃ v, w.heap[b]? = some (.cells #[v, .int .i64 0, .int .u64 lo, .int .u32 rg] 27 (0, 0)) ∧ w.ownsRow B 5 1 v buf.length (bcells buf) ∧ v.ownBlock = r ∧ r ≠ some b

/-- w' is w with new blocks; of the old ones b, r and m alone may have turned; the row is the old one or a new block. -/
def Moved (b : Nat) (r : Option Nat) (m : Option Nat) (w w' : World) (r' : Option Nat) : Prop :=
  (w'.os = w.os ∧ w'.tape = w.tape ∧ w'.output = w.output) ∧ w.heap.size ≤ w'.heap.size ∧ (∀ k, k < w.heap.size → k ≠ b → r ≠ some k → m ≠ some k → w'.heap[k]? = w.heap[k]?) ∧
  (r' = r ∨ ∃ k, r' = some k ∧ w.heap.size ≤ k)

theorem Moved.refl (b : Nat) (r m : Option Nat) (w : World) : Moved b r m w w r := ⟨⟨rfl, rfl, rfl⟩, Nat.le_refl _, fun _ _ _ _ _ => rfl, .inl rfl⟩
theorem Moved.trans {b : Nat} {r m : Option Nat} {w w1 w2 : World} {r1 r2 : Option Nat} (h : Moved b r m w w1 r1) (k : Moved b r1 m w1 w2 r2) : Moved b r m w w2 r2 := by
  obtain ⟨⟨a1, a2, a3⟩, hs, hk, hr⟩ := h
  obtain ⟨⟨b1, b2, b3⟩, ks, kk, kr⟩ := k
  refine ⟨⟨b1.trans a1, b2.trans a2, b3.trans a3⟩, Nat.le_trans hs ks, fun j hj h1 h2 h3 => ?_, ?_⟩
  · rw [kk j (by omega) h1 ?_ h3, hk j hj h1 h2 h3]
    rcases hr with rfl | ⟨i, rfl, hi⟩
    · exact h2
    · intro e
      obtain rfl := Option.some.inj e
      omega
  · rcases kr with rfl | ⟨i, rfl, hi⟩
    · exact hr
    · exact .inr ⟨i, rfl, by omega⟩
theorem Moved.mono {b : Nat} {r m : Option Nat} {w w' : World} {r' : Option Nat} (h : Moved b r none w w' r') : Moved b r m w w' r' :=
  ⟨h.1, h.2.1, fun k a b c _ => h.2.2.1 k a b c (by simp), h.2.2.2⟩
theorem Moved.drewN {b : Nat} {r m : Option Nat} {w w' : World} {r' : Option Nat} (h : Moved b r m w w' r') (n : Nat) : Moved b r m w (w'.drewN n) r' := h
theorem Moved.drew {b : Nat} {r m : Option Nat} {w w' : World} {r' : Option Nat} (h : Moved b r m w w' r') : Moved b r m w w'.drew r' := h
theorem Moved.block {b : Nat} {r m : Option Nat} {w w' : World} {r' : Option Nat} (h : Moved b r m w w' r') {k : Nat} (hk : k < w.heap.size) (h1 : k ≠ b) (h2 : r ≠ some k) (h3 : m ≠ some k) : w'.heap[k]? = w.heap[k]? := h.2.2.1 k hk h1 h2 h3

/-- A store into the encoder's own block, its row, or m. -/
theorem Moved.setCell {b : Nat} {r m : Option Nat} {w w' : World} (h : Moved b r m w w' r) (c o : Nat) (u : Value) (hc : c = b ∨ r = some c ∨ m = some c) : Moved b r m w (w'.setCell ⟨c, o, none⟩ u) r := by
  obtain ⟨⟨a1, a2, a3⟩, hs, hk, hr⟩ := h
  refine ⟨⟨a1, a2, a3⟩, by simpa [World.setCell] using hs, fun j hj h1 h2 h3 => ?_, .inl rfl⟩
  rw [Below.heap_setCell _ _ _ _ (show j ≠ c by rintro rfl; rcases hc with rfl | hc | hc <;> simp_all), hk j hj h1 h2 h3]

/-- A store into the encoder's own block, or into m, whatever the row. -/
theorem Moved.setB {b : Nat} {r m : Option Nat} {w w' : World} {r' : Option Nat} (h : Moved b r m w w' r') (c o : Nat) (u : Value) (hc : c = b ∨ m = some c) : Moved b r m w (w'.setCell ⟨c, o, none⟩ u) r' := by
  obtain ⟨⟨a1, a2, a3⟩, hs, hk, hr⟩ := h
  refine ⟨⟨a1, a2, a3⟩, by simpa [World.setCell] using hs, fun j hj h1 h2 h3 => ?_, hr⟩
  rw [Below.heap_setCell _ _ _ _ (show j ≠ c by rintro rfl; rcases hc with rfl | hc <;> simp_all), hk j hj h1 h2 h3]

theorem EncAt.drewN {B b : Nat} {r : Option Nat} {buf : List Int} {lo rg : Int} {w : World} (h : EncAt B b r buf lo rg w) (n : Nat) : EncAt B b r buf lo rg (w.drewN n) := h
theorem EncAt.drew {B b : Nat} {r : Option Nat} {buf : List Int} {lo rg : Int} {w : World} (h : EncAt B b r buf lo rg w) : EncAt B b r buf lo rg w.drew := h
theorem EncAt.lt {B b : Nat} {r : Option Nat} {buf : List Int} {lo rg : Int} {w : World} (h : EncAt B b r buf lo rg w) : b < w.heap.size := by
  obtain ⟨_, v, hb, _⟩ := h
  exact (Array.getElem?_eq_some_iff.1 hb).1
theorem EncAt.row_lt {B b : Nat} {r : Option Nat} {buf : List Int} {lo rg : Int} {w : World} (h : EncAt B b r buf lo rg w) : ∀ k, r = some k → B ≤ k ∧ k < w.heap.size := by
  obtain ⟨_, v, hb, hown, hr, _⟩ := h
  intro k hk
  exact hown.lt k (hr.trans hk)
theorem EncAt.cells {B b : Nat} {r : Option Nat} {buf : List Int} {lo rg : Int} {w : World} (h : EncAt B b r buf lo rg w) :
    w.cell? ⟨b, 1, none⟩ = some (.int .i64 0) ∧ w.cell? ⟨b, 2, none⟩ = some (.int .u64 lo) ∧ w.cell? ⟨b, 3, none⟩ = some (.int .u32 rg) ∧ (∀ o, w.frozen? ⟨b, o, none⟩ = false) := by
  obtain ⟨_, v, hb, _⟩ := h
  exact ⟨by rw [Lib.cell_of_heap hb]; rfl, by rw [Lib.cell_of_heap hb]; rfl, by rw [Lib.cell_of_heap hb]; rfl, fun o => Lib.frozen_of_heap hb o⟩

/-- A world that has turned elsewhere alone bears the encoder still. -/
theorem EncAt.kept {B b : Nat} {r : Option Nat} {buf : List Int} {lo rg : Int} {w w' : World} (h : EncAt B b r buf lo rg w)
    (hb : w'.heap[b]? = w.heap[b]?) (hr : ∀ k, r = some k → w'.heap[k]? = w.heap[k]?) : EncAt B b r buf lo rg w' := by
  obtain ⟨hB, v, hv, hown, he, hne⟩ := h
  refine ⟨hB, v, hb.trans hv, ?_, he, hne⟩
  refine ⟨hown.1, ?_⟩
  rcases hown.2 with hn | ⟨g, cap, cur, rfl, hg, hgg, rest⟩
  · exact .inl hn
  · exact .inr ⟨g, cap, cur, rfl, hg, (hr g he.symm).trans hgg, rest⟩

/-- A store into a block that is neither the encoder's nor its row. -/
theorem EncAt.setOther {B b : Nat} {r : Option Nat} {buf : List Int} {lo rg : Int} {w : World} (h : EncAt B b r buf lo rg w) (c o : Nat) (u : Value) (h1 : c ≠ b) (h2 : r ≠ some c) :
    EncAt B b r buf lo rg (w.setCell ⟨c, o, none⟩ u) :=
  h.kept (Below.heap_setCell _ _ _ _ (fun e => h1 e.symm)) (fun k hk => Below.heap_setCell _ _ _ _ (fun e => h2 (by rw [hk]; exact congrArg some e)))

theorem EncAt.alloc {B b : Nat} {r : Option Nat} {buf : List Int} {lo rg : Int} {w : World} (h : EncAt B b r buf lo rg w) (o : Obj) : EncAt B b r buf lo rg (w.alloc o) :=
  h.kept (Below.heap_alloc _ _ _ h.lt) (fun k hk => Below.heap_alloc _ _ _ (h.row_lt k hk).2)

/-- The stores 'e.low = low', 'e.rng = rng'. -/
theorem EncAt.put {B b : Nat} {r : Option Nat} {buf : List Int} {lo rg : Int} {w : World} (h : EncAt B b r buf lo rg w) (lo' rg' : Int) :
    EncAt B b r buf lo' rg' ((w.setCell ⟨b, 2, none⟩ (.int .u64 lo')).setCell ⟨b, 3, none⟩ (.int .u32 rg')) := by
  obtain ⟨hB, v, hv, hown, he, hne⟩ := h
  refine ⟨hB, v, ?_, ?_, he, hne⟩
  · have h1 := heap_setCell_same w b 2 _ 27 (.int .u64 lo') hv
    have h2 := heap_setCell_same _ b 3 _ 27 (.int .u32 rg') h1
    rw [h2]
    rfl
  · have key : ∀ (W : World) (o : Nat) (u : Value), W.ownsRow B 5 1 v buf.length (bcells buf) → (W.setCell ⟨b, o, none⟩ u).ownsRow B 5 1 v buf.length (bcells buf) := fun W o u hW =>
      hW.kept (row := some b) ⟨rfl, rfl, rfl, by simp [World.setCell], fun k _ hk => Below.heap_setCell _ _ _ _ (fun e => hk (by simp [e]))⟩ (.inr (by rw [he]; exact hne))
    exact key _ _ _ (key _ _ _ hown)

/-- The row is no block of another type. -/
theorem EncAt.row_ne {B b : Nat} {r : Option Nat} {buf : List Int} {lo rg : Int} {w : World} (h : EncAt B b r buf lo rg w) {k : Nat} {cs : Array Value} {T : TypeId} {fr : Nat × Nat} (hk : w.heap[k]? = some (.cells cs T fr)) (hT : T ≠ 5) : r ≠ some k := by
  obtain ⟨hB, v, hv, hown, he, hne⟩ := h
  rcases hown.2 with ⟨rfl, _⟩ | ⟨g, cap, cur, rfl, hg, hgg, _⟩
  · rw [← he]; simp [Value.ownBlock]
  · rw [← he]
    intro e
    simp only [Value.ownBlock, Option.some.injEq] at e
    subst e
    rw [hk] at hgg
    simp only [Option.some.injEq, Obj.cells.injEq] at hgg
    exact hT hgg.2.1

/-- The two stores at an encoding's end. -/
theorem enc_fin {B b c : Nat} {r r' m : Option Nat} {buf : List Int} {lo rg : Int} {w w1 : World} {X : Option Obj} (hE : EncAt B b r' buf lo rg w1) (hM : Moved b r m w w1 r') (hX : w1.heap[c]? = X) (hcb : c ≠ b) (lo' rg' : Int) :
    EncAt B b r' buf lo' rg' ((w1.setCell ⟨b, 2, none⟩ (.int .u64 lo')).setCell ⟨b, 3, none⟩ (.int .u32 rg')) ∧ Moved b r m w ((w1.setCell ⟨b, 2, none⟩ (.int .u64 lo')).setCell ⟨b, 3, none⟩ (.int .u32 rg')) r' ∧
      ((w1.setCell ⟨b, 2, none⟩ (.int .u64 lo')).setCell ⟨b, 3, none⟩ (.int .u32 rg')).heap[c]? = X :=
  ⟨hE.put lo' rg', (hM.setB b 2 _ (.inl rfl)).setB b 3 _ (.inl rfl), by
    rw [Below.heap_setCell _ _ _ _ hcb, Below.heap_setCell _ _ _ _ hcb]; exact hX⟩
end Go.Proofs.Ybulkalfa
