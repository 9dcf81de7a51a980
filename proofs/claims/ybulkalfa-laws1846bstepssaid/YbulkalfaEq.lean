/-
  b1846a: '==' of two models in memory: the laws that the walk takes at the loads, the stores and the comparison of 145 cells.
-/
import Derived.Test.YbulkalfaModel
import Derived.Laws.StructEq
namespace Go.Proofs.Ybulkalfa
open Go.RowKit
set_option linter.unusedVariables false
set_option linter.unusedSimpArgs false
theorem eq_array_self {P : Program} (w : World) (d : Nat) (t e : TypeId) (n : Nat) (k : IntKind) (i : TypeInfo) (ht : P.underlying t = some (.array n e)) (he : P.underlying e = some (.int k)) (hi : P.info? e = some i) (hs : i.size = 1)
    (xs : Array Value) (h : ∀ j, j < n → ∃ a, xs[j]? = some (.int k a)) : (Op.equalIn (d + 2) t (.agg xs) (.agg xs)).run P w = .ok true w := by
  have hagg : (isAgg e).run P w = .ok false w := by simp [isAgg, run_underlying he]
  unfold Op.equalIn
  simp only [Sem.run_bind, run_underlying ht, Result.andThen_ok, sizeOf, typeInfo, run_program, hi, hs, Sem.run_pure]
  rw [Std.Legacy.Range.forIn_eq_forIn_range']
  simp only [Std.Legacy.Range.size]
  have key : ∀ l : List Nat, (∀ j ∈ l, j < n) → 
     Sem.run P (forIn l ((none, ()) : Option Bool × Unit) fun i r => do
        let x ← part e xs (i * 1)
        let y ← part e xs (i * 1)
        let b ← Op.equalIn (d+1) e x y
        if (!b) = true then pure (ForInStep.done (some false, ())) else pure (ForInStep.yield (none, ()))) w = .ok (none, ()) w := by
    intro l hl
    induction l with
    | nil => simp
    | cons j l ih =>
      obtain ⟨a, ha⟩ := h j (hl j (List.mem_cons_self ..))
      have hpart : (part e xs (j * 1)).run P w = .ok (.int k a) w := by simp [part, hagg, ha]
      simp only [List.forIn_cons, Sem.run_bind, hpart, Result.andThen_ok, run_equalIn_int w d e k k a a he]
      simp only [beq_self_eq_true, Bool.not_true, Bool.false_eq_true, if_false, Sem.run_pure, Result.andThen_ok]
      exact ih (fun x hx => hl x (List.mem_cons_of_mem _ hx))
  rw [key _ (fun j hj => by simp [List.mem_range'] at hj; omega)]
  simp


theorem mcells_get (M : List Int) (i : Nat) (h : i < M.length) : ∃ a, (mcells M)[i]? = some (.int .u16 a) := ⟨M[i], by simp [mcells, h]⟩

theorem info31 : ∃ i, Yba.prog.info? 31 = some i ∧ i.size = 1 := by
  have h : (Yba.prog.info? 31).map (·.size) = some 1 := by kernel_rfl
  obtain ⟨i, hi, hs⟩ := Option.map_eq_some_iff.1 h
  exact ⟨i, hi, hs⟩

/-- A field of the model held against itself. -/
theorem eq_field (M : List Int) (hM : M.length = 145) (w : World) (d : Nat) (t : TypeId) (n off : Nat) (ht : Yba.prog.underlying t = some (.array n 31)) (hoff : off + n ≤ 145) (hs : (Yba.prog.info? t).map (·.size) = some n) :
    (part t (mcells M) off).run Yba.prog w = .ok (.agg ((mcells M).extract off (off + n))) w ∧ (Op.equalIn (d + 2) t (.agg ((mcells M).extract off (off + n))) (.agg ((mcells M).extract off (off + n)))).run Yba.prog w = .ok true w := by
  obtain ⟨i, hi, his⟩ := info31
  obtain ⟨j, hj, hjs⟩ := Option.map_eq_some_iff.1 hs
  constructor
  · have hagg : (isAgg t).run Yba.prog w = .ok true w := by simp [isAgg, run_underlying ht]
    simp [part, hagg, sizeOf, typeInfo, hj, hjs]
  · refine eq_array_self w d t 31 n .u16 i ht Yba.underlying31 hi his _ (fun k hk => ?_)
    obtain ⟨a, ha⟩ := mcells_get M (off + k) (by omega)
    refine ⟨a, ?_⟩
    rw [Array.getElem?_extract]
    rw [if_pos (by rw [mcells_size, hM]; omega)]
    exact ha

theorem eqFields3 {P : Program} (w : World) (d : Nat) (xs : Array Value) (f1 f2 f3 : Field) (A B C : Value) (n1 : f1.name ≠ "_") (n2 : f2.name ≠ "_") (n3 : f3.name ≠ "_")
    (p1 : (part f1.type xs f1.offset).run P w = .ok A w) (q1 : (Op.equalIn d f1.type A A).run P w = .ok true w)
    (p2 : (part f2.type xs f2.offset).run P w = .ok B w) (q2 : (Op.equalIn d f2.type B B).run P w = .ok true w)
    (p3 : (part f3.type xs f3.offset).run P w = .ok C w) (q3 : (Op.equalIn d f3.type C C).run P w = .ok true w) :
    (Op.eqFields d xs xs [f1, f2, f3]).run P w = .ok true w := by
  simp only [Op.eqFields, n1, n2, n3, ne_eq, not_false_eq_true, if_true, Sem.run_bind, p1, p2, p3, q1, q2, q3, Result.andThen_ok, Bool.not_true, Bool.false_eq_true, if_false, Sem.run_pure]

theorem fields36 : ∃ f1 f2 f3 : Field, (Yba.prog.fieldsOf 36).toList = [f1, f2, f3] ∧ (f1.type = 32 ∧ f1.offset = 0 ∧ f1.name ≠ "_") ∧ (f2.type = 33 ∧ f2.offset = 64 ∧ f2.name ≠ "_") ∧ (f3.type = 34 ∧ f3.offset = 129 ∧ f3.name ≠ "_") := by
  unfold Program.fieldsOf
  rw [Yba.underlying36]
  exact ⟨_, _, _, rfl, ⟨rfl, rfl, by decide⟩, ⟨rfl, rfl, by decide⟩, ⟨rfl, rfl, by decide⟩⟩

/-- '==' of a model with itself. -/
theorem eq36 (M : List Int) (hM : M.length = 145) (w : World) : (binOp .eql 36 (.agg (mcells M)) (.agg (mcells M))).run Yba.prog w = .ok (.bool true) w := by
  have hst : Yba.prog.underlying 36 = some (.struct (Yba.prog.fieldsOf 36)) := by
    unfold Program.fieldsOf
    rw [Yba.underlying36]
  rw [run_eql_struct, run_equalIn_struct w 9999 36 _ _ hst (by kernel_rfl)]
  obtain ⟨f1, f2, f3, hl, ⟨t1, o1, n1⟩, ⟨t2, o2, n2⟩, ⟨t3, o3, n3⟩⟩ := fields36
  obtain ⟨p1, q1⟩ := eq_field M hM w 9997 32 64 0 Yba.underlying32 (by omega) (by kernel_rfl)
  obtain ⟨p2, q2⟩ := eq_field M hM w 9997 33 65 64 Yba.underlying33 (by omega) (by kernel_rfl)
  obtain ⟨p3, q3⟩ := eq_field M hM w 9997 34 16 129 Yba.underlying34 (by omega) (by kernel_rfl)
  rw [hl, eqFields3 w 9999 (mcells M) f1 f2 f3 _ _ _ n1 n2 n3 (by rw [t1, o1]; exact p1) (by rw [t1]; exact q1) (by rw [t2, o2]; exact p2) (by rw [t2]; exact q2) (by rw [t3, o3]; exact p3) (by rw [t3]; exact q3)]
  rfl

theorem wpList_load36g {ops : Array Oper} {rest : List Oper} {o : Oper} {a : Act} {w : World} {Q : Exit → Act → World → Prop} (x : Operand) (ho : o.op = .load 36 x) (c : Nat) (hx : a.eval x = .pointer (some ⟨c, 0, none⟩)) (hw : Region.wanted o (yielded ops a.tmps) = true) (M : List Int) (hM : M.length = 145)
    (hm : ModAt c M w) (h : wpList Yba.prog ops Q rest (a.put o.dst (.agg (mcells M))) w) : wpList Yba.prog ops Q (o :: rest) a w :=
  BigFrame.wpList_want hw fun _ hK => wp_load_row 36 x ho c hx 36 (mcells M) (0, 0) _ hm Yba.underlying36 rfl (by rw [mcells_size, hM]; kernel_rfl) (hK _ _ h)

theorem wpList_store36 {ops : Array Oper} {rest : List Oper} {o : Oper} {a : Act} {w : World} {Q : Exit → Act → World → Prop} (hgd : o.guard = none) (x y : Operand) (ho : o.op = .store 36 x y) (c : Nat) (M N : List Int) (hM : M.length = 145) (hN : N.length = 145)
    (hx : a.eval x = .pointer (some ⟨c, 0, none⟩)) (hy : a.eval y = .agg (mcells M)) (hm : ModAt c N w) (h : wpList Yba.prog ops Q rest (a.put o.dst undef) (w.setRow c (mcells M))) : wpList Yba.prog ops Q (o :: rest) a w :=
  wpList_store_row hgd 36 x y ho c (mcells M) hx hy 36 (mcells N) hm (by rw [mcells_size, hM]; kernel_rfl) (by rw [mcells_size, mcells_size, hM, hN]) (mcells_one _) h

theorem wpList_eq36g {ops : Array Oper} {rest : List Oper} {o : Oper} {a : Act} {w : World} {Q : Exit → Act → World → Prop} (x y : Operand) (ho : o.op = .binOp .eql 36 x y 36) (hw : Region.wanted o (yielded ops a.tmps) = true) (M : List Int) (hM : M.length = 145)
    (hx : a.eval x = .agg (mcells M)) (hy : a.eval y = .agg (mcells M)) (h : wpList Yba.prog ops Q rest (a.put o.dst (.bool true)) w) : wpList Yba.prog ops Q (o :: rest) a w :=
  BigFrame.wpList_want hw fun _ hK => by
    have hg : Yba.prog.eqGuardType Yba.prog.depth 36 = false := by kernel_rfl
    unfold Oper.wp execOp
    simp only [ho, hx, hy, Sem.run_bind, run_eqGuard_agg (P := Yba.prog) w .eql 36 x y (mcells M) (mcells M) hg, Result.andThen_ok, eq36 M hM w, Sem.run_pure]
    exact hK _ _ h

theorem wpList_load36 {ops : Array Oper} {rest : List Oper} {o : Oper} {a : Act} {w : World} {Q : Exit → Act → World → Prop} (hgd : o.guard = none) (x : Operand) (ho : o.op = .load 36 x) (c : Nat) (hx : a.eval x = .pointer (some ⟨c, 0, none⟩)) (M : List Int) (hM : M.length = 145)
    (hm : ModAt c M w) (h : wpList Yba.prog ops Q rest (a.put o.dst (.agg (mcells M))) w) : wpList Yba.prog ops Q (o :: rest) a w :=
  wpList_load36g x ho c hx (by simp [Region.wanted, hgd]) M hM hm h
theorem wpList_eq36 {ops : Array Oper} {rest : List Oper} {o : Oper} {a : Act} {w : World} {Q : Exit → Act → World → Prop} (hgd : o.guard = none) (x y : Operand) (ho : o.op = .binOp .eql 36 x y 36) (M : List Int) (hM : M.length = 145)
    (hx : a.eval x = .agg (mcells M)) (hy : a.eval y = .agg (mcells M)) (h : wpList Yba.prog ops Q rest (a.put o.dst (.bool true)) w) : wpList Yba.prog ops Q (o :: rest) a w :=
  wpList_eq36g x y ho (by simp [Region.wanted, hgd]) M hM hx hy h

theorem modAt_setRow {c : Nat} {M N : List Int} {w : World} (h : ModAt c N w) : ModAt c M (w.setRow c (mcells M)) := setRow_heap w c (mcells N) _ 36 _ h
theorem modAt_new (w : World) (M : List Int) : ModAt w.heap.size M (w.alloc (.cells (mcells M) 36)) := heap_alloc_new w _
end Go.Proofs.Ybulkalfa
