/-
  b1846a: the range encoder as plain functions (no Go in sight), and the invariant that keeps the carry inside its stream.
-/
import Derived.Laws.BitsAllLaws
namespace Go.Proofs.Ybulkalfa
set_option linter.unusedVariables false
set_option linter.unusedSimpArgs false

/-- An encoder: the bytes appended so far, the interval's low end and width. -/
structure St where
  buf : List Int
  low : Int
  rng : Int

/-- A carry into the bytes, the last byte first. -/
def inc : List Int → List Int
  | [] => []
  | x :: t => if x = 255 then 0 :: inc t else (x + 1) :: t
def carryL (l : List Int) : List Int := (inc l.reverse).reverse

def lowC (low : Int) : Int := if 4294967296 ≤ low then low - 4294967296 else low
def bufC (buf : List Int) (low : Int) : List Int := if 4294967296 ≤ low then carryL buf else buf

def shiftS (S : St) : St := ⟨bufC S.buf S.low ++ [lowC S.low / 16777216], lowC S.low * 256 % 4294967296, S.rng * 256⟩
def stepS (S : St) (v bit : Int) : St := if bit = 0 then ⟨S.buf, S.low, S.rng / 4096 * v⟩ else ⟨S.buf, S.low + S.rng / 4096 * v, S.rng - S.rng / 4096 * v⟩
def adapt (v bit : Int) : Int := if bit = 0 then v + (4080 - v) / 16 else v - (v - 16) / 16
def normS (S : St) : St := if S.rng < 16777216 then shiftS S else S
def encS (S : St) (v bit : Int) : St := normS (stepS S v bit)

def Bytes (l : List Int) : Prop := ∀ x, x ∈ l → 0 ≤ x ∧ x ≤ 255
structure Inv (S : St) : Prop where
  bytes : Bytes S.buf
  low0 : 0 ≤ S.low
  rng0 : 1 ≤ S.rng
  rng1 : S.rng ≤ 4294967295
  sum : S.low + S.rng ≤ 8589934592
  cap : 4294967296 < S.low + S.rng → ∃ x, x ∈ S.buf ∧ x ≠ 255
def Prob (v : Int) : Prop := 16 ≤ v ∧ v ≤ 4080

theorem inc_length : ∀ l : List Int, (inc l).length = l.length
  | [] => rfl
  | x :: t => by unfold inc; split <;> simp [inc_length t]
theorem inc_bytes : ∀ l : List Int, Bytes l → Bytes (inc l)
  | [], h => h
  | x :: t, h => by
    have ht : Bytes t := fun y hy => h y (List.mem_cons_of_mem _ hy)
    have hx := h x (List.mem_cons_self ..)
    unfold inc
    split
    · intro y hy
      rcases List.mem_cons.1 hy with rfl | hy
      · omega
      · exact inc_bytes t ht y hy
    · intro y hy
      rcases List.mem_cons.1 hy with rfl | hy
      · omega
      · exact ht y hy
theorem carryL_length (l : List Int) : (carryL l).length = l.length := by simp [carryL, inc_length]
theorem carryL_bytes (l : List Int) (h : Bytes l) : Bytes (carryL l) := by
  intro x hx
  exact inc_bytes l.reverse (fun y hy => h y (List.mem_reverse.1 hy)) x (List.mem_reverse.1 hx)

theorem inc_run (x : Int) (rest : List Int) (hx : x ≠ 255) : ∀ t : Nat, inc (List.replicate t 255 ++ x :: rest) = List.replicate t 0 ++ (x + 1) :: rest
  | 0 => by simp [inc, hx]
  | t + 1 => by
    rw [List.replicate_succ, List.cons_append]
    unfold inc
    rw [if_pos rfl, inc_run x rest hx t, List.replicate_succ, List.cons_append]
theorem carryL_run (pre : List Int) (x : Int) (hx : x ≠ 255) (t : Nat) : carryL (pre ++ x :: List.replicate t 255) = pre ++ (x + 1) :: List.replicate t 0 := by
  unfold carryL
  rw [List.reverse_append, List.reverse_cons, List.reverse_replicate, List.append_assoc, List.singleton_append, inc_run x _ hx]
  simp

/-- Where some byte is no 255: the bytes are a head, that byte, and a run of 255. -/
theorem split_ff : ∀ l : List Int, (∃ x, x ∈ l ∧ x ≠ 255) → ∃ pre x t, l = pre ++ x :: List.replicate t 255 ∧ x ≠ 255
  | [], h => by obtain ⟨x, hx, _⟩ := h; cases hx
  | y :: l, h => by
    by_cases hl : ∃ x, x ∈ l ∧ x ≠ 255
    · obtain ⟨pre, x, t, e, hx⟩ := split_ff l hl
      exact ⟨y :: pre, x, t, by rw [e]; rfl, hx⟩
    · have hall : ∀ x, x ∈ l → x = 255 := fun x hx => by
        by_cases e : x = 255
        · exact e
        · exact absurd ⟨x, hx, e⟩ hl
      have e : l = List.replicate l.length 255 := List.eq_replicate_of_mem hall
      refine ⟨[], y, l.length, by rw [← e]; rfl, ?_⟩
      obtain ⟨x, hx, hn⟩ := h
      rcases List.mem_cons.1 hx with rfl | hx
      · exact hn
      · exact absurd (hall x hx) hn

theorem bufC_bytes (S : St) (h : Inv S) : Bytes (bufC S.buf S.low) := by
  unfold bufC; split
  · exact carryL_bytes _ h.bytes
  · exact h.bytes
theorem bufC_length (l : List Int) (low : Int) : (bufC l low).length = l.length := by
  unfold bufC; split
  · exact carryL_length _
  · rfl
theorem lowC_bd (S : St) (h : Inv S) : 0 ≤ lowC S.low ∧ lowC S.low < 4294967296 := by
  have := h.low0; have := h.sum; have := h.rng0
  unfold lowC; split <;> omega

theorem shift_inv (S : St) (h : Inv S) (hr : S.rng < 16777216) : Inv (shiftS S) := by
  obtain ⟨l0, l1⟩ := lowC_bd S h
  have hb := h.bytes; have hl := h.low0; have hr0 := h.rng0; have hs := h.sum
  have hbytes : Bytes (bufC S.buf S.low ++ [lowC S.low / 16777216]) := by
    intro x hx
    rcases List.mem_append.1 hx with hx | hx
    · exact bufC_bytes S h x hx
    · obtain rfl := List.mem_singleton.1 hx
      omega
  refine ⟨hbytes, ?_, ?_, ?_, ?_, ?_⟩
  · show 0 ≤ lowC S.low * 256 % 4294967296; omega
  · show 1 ≤ S.rng * 256; omega
  · show S.rng * 256 ≤ 4294967295; omega
  · show lowC S.low * 256 % 4294967296 + S.rng * 256 ≤ 8589934592; omega
  · show 4294967296 < lowC S.low * 256 % 4294967296 + S.rng * 256 → ∃ x, x ∈ bufC S.buf S.low ++ [lowC S.low / 16777216] ∧ x ≠ 255
    intro hc
    by_cases e : lowC S.low / 16777216 = 255
    · have hbig : 4294967296 < lowC S.low + S.rng := by omega
      by_cases hcar : 4294967296 ≤ S.low
      · have : lowC S.low = S.low - 4294967296 := by unfold lowC; rw [if_pos hcar]
        omega
      · have e1 : lowC S.low = S.low := by unfold lowC; rw [if_neg hcar]
        have e2 : bufC S.buf S.low = S.buf := by unfold bufC; rw [if_neg hcar]
        obtain ⟨x, hx, hn⟩ := h.cap (by omega)
        exact ⟨x, by rw [e2]; exact List.mem_append_left _ hx, hn⟩
    · exact ⟨_, List.mem_append_right _ (List.mem_singleton.2 rfl), e⟩

theorem bound_bd (rng v : Int) (h0 : 16777216 ≤ rng) (hv : Prob v) : 65536 ≤ rng / 4096 * v ∧ rng / 4096 * v ≤ rng - 65536 := by
  obtain ⟨v0, v1⟩ := hv
  have hq : 4096 ≤ rng / 4096 := by omega
  have a : rng / 4096 * 16 ≤ rng / 4096 * v := Int.mul_le_mul_of_nonneg_left v0 (by omega)
  have b : rng / 4096 * v ≤ rng / 4096 * 4080 := Int.mul_le_mul_of_nonneg_left v1 (by omega)
  generalize rng / 4096 * v = B at *
  omega

theorem step_inv (S : St) (v bit : Int) (h : Inv S) (hr : 16777216 ≤ S.rng) (hv : Prob v) : Inv (stepS S v bit) ∧ 65536 ≤ (stepS S v bit).rng := by
  obtain ⟨b0, b1⟩ := bound_bd S.rng v hr hv
  have hl := h.low0; have hr1 := h.rng1; have hs := h.sum
  unfold stepS
  generalize S.rng / 4096 * v = B at *
  split
  · exact ⟨⟨h.bytes, hl, by show 1 ≤ B; omega, by show B ≤ 4294967295; omega, by show S.low + B ≤ 8589934592; omega, fun hc => h.cap (by have hc' : 4294967296 < S.low + B := hc; omega)⟩, b0⟩
  · exact ⟨⟨h.bytes, by show 0 ≤ S.low + B; omega, by show 1 ≤ S.rng - B; omega, by show S.rng - B ≤ 4294967295; omega, by show S.low + B + (S.rng - B) ≤ 8589934592; omega, fun hc => h.cap (by have hc' : 4294967296 < S.low + B + (S.rng - B) := hc; omega)⟩, by show 65536 ≤ S.rng - B; omega⟩

theorem norm_inv (S : St) (h : Inv S) (hr : 65536 ≤ S.rng) : Inv (normS S) ∧ 16777216 ≤ (normS S).rng := by
  unfold normS
  split
  · refine ⟨shift_inv S h (by omega), ?_⟩
    show 16777216 ≤ S.rng * 256
    omega
  · exact ⟨h, by omega⟩

theorem enc_inv (S : St) (v bit : Int) (h : Inv S) (hr : 16777216 ≤ S.rng) (hv : Prob v) : Inv (encS S v bit) ∧ 16777216 ≤ (encS S v bit).rng := by
  obtain ⟨h1, h2⟩ := step_inv S v bit h hr hv
  exact norm_inv _ h1 h2

theorem shift_length (S : St) : (shiftS S).buf.length = S.buf.length + 1 := by simp [shiftS, bufC_length]
theorem step_buf (S : St) (v bit : Int) : (stepS S v bit).buf = S.buf := by unfold stepS; split <;> rfl
theorem enc_length (S : St) (v bit : Int) : (encS S v bit).buf.length ≤ S.buf.length + 1 := by
  unfold encS normS
  split
  · rw [shift_length, step_buf]; omega
  · rw [step_buf]; omega

theorem adapt_prob (v bit : Int) (h : Prob v) : Prob (adapt v bit) := by
  obtain ⟨a, b⟩ := h
  unfold adapt Prob
  split <;> omega
end Go.Proofs.Ybulkalfa
