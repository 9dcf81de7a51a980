/-
  b1846a: two encoders and two models at once.
-/
import Derived.Test.YbulkalfaBModelWalk
import Derived.Test.YbulkalfaSame
namespace Go.Proofs.Ybulkalfa
open Go.RowKit
set_option linter.unusedVariables false
set_option linter.unusedSimpArgs false

structure Both (s b1 b2 c1 c2 : Nat) (r1 r2 : Option Nat) (S1 S2 : St) (M1 M2 : List Int) (w0 w : World) : Prop where
  e1 : EncAt s b1 r1 S1.buf S1.low S1.rng w
  e2 : EncAt s b2 r2 S2.buf S2.low S2.rng w
  m1 : ModAt c1 M1 w
  m2 : ModAt c2 M2 w
  ne : ∀ k, r1 = some k → r2 ≠ some k
  bne : b1 ≠ b2
  cne : c1 ≠ c2
  s1 : s ≤ c1
  s2 : s ≤ c2
  low : s ≤ w.heap.size
  below : Below s w0 w

theorem EncAt.own {B b : Nat} {r : Option Nat} {buf : List Int} {lo rg : Int} {w : World} (h : EncAt B b r buf lo rg w) : B ≤ b := h.1
theorem EncAt.ne_mod {B b c : Nat} {r : Option Nat} {buf : List Int} {lo rg : Int} {M : List Int} {w : World} (h : EncAt B b r buf lo rg w) (hm : ModAt c M w) : c ≠ b := by
  obtain ⟨_, v, hb, _⟩ := h
  rintro rfl
  have hm' : w.heap[c]? = _ := hm
  rw [hb] at hm'
  simp only [Option.some.injEq, Obj.cells.injEq] at hm'
  exact absurd hm'.2.1 (by decide)
theorem EncAt.row_mod {B b c : Nat} {r : Option Nat} {buf : List Int} {lo rg : Int} {M : List Int} {w : World} (h : EncAt B b r buf lo rg w) (hm : ModAt c M w) : r ≠ some c := h.row_ne (show w.heap[c]? = _ from hm) (by decide)
theorem EncAt.row_enc {B b b' : Nat} {r r' : Option Nat} {buf buf' : List Int} {lo rg lo' rg' : Int} {w : World} (h : EncAt B b r buf lo rg w) (h' : EncAt B b' r' buf' lo' rg' w) : r ≠ some b' := by
  obtain ⟨_, v, hb, _⟩ := h'
  exact h.row_ne hb (by decide)

theorem Both.symm {s b1 b2 c1 c2 : Nat} {r1 r2 : Option Nat} {S1 S2 : St} {M1 M2 : List Int} {w0 w : World} (h : Both s b1 b2 c1 c2 r1 r2 S1 S2 M1 M2 w0 w) : Both s b2 b1 c2 c1 r2 r1 S2 S1 M2 M1 w0 w :=
  ⟨h.e2, h.e1, h.m2, h.m1, fun k e1 e2 => h.ne k e2 e1, h.bne.symm, h.cne.symm, h.s2, h.s1, h.low, h.below⟩

/-- A call on the second encoder and the second model. -/
theorem Both.step {s b1 b2 c1 c2 : Nat} {r1 r2 r2' : Option Nat} {S1 S2 S2' : St} {M1 M2 M2' : List Int} {w0 w w' : World} (h : Both s b1 b2 c1 c2 r1 r2 S1 S2 M1 M2 w0 w)
    (hE : EncAt s b2 r2' S2'.buf S2'.low S2'.rng w') (hM : Moved b2 r2 (some c2) w w' r2') (hA : ModAt c2 M2' w') : Both s b1 b2 c1 c2 r1 r2' S1 S2' M1 M2' w0 w' := by
  refine ⟨h.e1.kept (hM.block h.e1.lt h.bne (h.e2.row_enc h.e1) (fun e => h.e1.ne_mod h.m2 (Option.some.inj e))) (fun k hk => hM.block (h.e1.row_lt k hk).2 ?_ (h.ne k hk) ?_), hE,
    h.m1.kept (hM.block h.m1.lt (h.e2.ne_mod h.m1) (h.e2.row_mod h.m1) (fun e => h.cne (Option.some.inj e).symm)), hA, ?_, h.bne, h.cne, h.s1, h.s2, Nat.le_trans h.low hM.2.1, h.below.trans (hM.below h.low h.e2.own (fun k e => (h.e2.row_lt k e).1) (fun k e => by have := Option.some.inj e; have := h.s2; omega))⟩
  · rintro rfl; exact h.e1.row_enc h.e2 hk
  · intro e; exact h.e1.row_mod h.m2 (hk.trans e.symm)
  · intro k e1 e2
    rcases hM.2.2.2 with rfl | ⟨j, rfl, hj⟩
    · exact h.ne k e1 e2
    · have := (h.e1.row_lt k e1).2
      have := Option.some.inj e2
      omega

theorem Both.encoded {s b1 b2 c1 c2 : Nat} {r1 r2 r2' : Option Nat} {S1 S2 S2' : St} {M1 M2 : List Int} {w0 w w' : World} {i : Nat} {x : Int} (h : Both s b1 b2 c1 c2 r1 r2 S1 S2 M1 M2 w0 w)
    (hE : EncAt s b2 r2' S2'.buf S2'.low S2'.rng w') (hM : Moved b2 r2 (some c2) w w' r2') (hA : blockOf w' c2 = blockOf (w.setCell ⟨c2, i, none⟩ (.int .u16 x)) c2) : Both s b1 b2 c1 c2 r1 r2' S1 S2' M1 (M2.set i x) w0 w' :=
  h.step hE hM (h.m2.stored i x hA)
theorem Both.plain {s b1 b2 c1 c2 : Nat} {r1 r2 r2' : Option Nat} {S1 S2 S2' : St} {M1 M2 : List Int} {w0 w w' : World} (h : Both s b1 b2 c1 c2 r1 r2 S1 S2 M1 M2 w0 w)
    (hE : EncAt s b2 r2' S2'.buf S2'.low S2'.rng w') (hM : Moved b2 r2 none w w' r2') : Both s b1 b2 c1 c2 r1 r2' S1 S2' M1 M2 w0 w' :=
  h.step hE hM.mono (h.m2.kept (hM.block h.m2.lt (h.e2.ne_mod h.m2) (h.e2.row_mod h.m2) (by simp)))

/-- What the law's last line reads of an encoder. -/
theorem EncAt.reads {B b : Nat} {r : Option Nat} {buf : List Int} {lo rg : Int} {w : World} (h : EncAt B b r buf lo rg w) :
    ∃ (a : Option Addr) (cap : Nat), w.cell? ⟨b, 0, none⟩ = some (.slice a buf.length cap) ∧ w.ownsRow B 5 1 (.slice a buf.length cap) buf.length (bcells buf) := by
  obtain ⟨_, v, hb, hown, _⟩ := h
  obtain ⟨a, cap, g, rfl, _, _⟩ := row_read hown
  exact ⟨a, cap, by rw [Lib.cell_of_heap hb]; rfl, hown⟩
end Go.Proofs.Ybulkalfa
