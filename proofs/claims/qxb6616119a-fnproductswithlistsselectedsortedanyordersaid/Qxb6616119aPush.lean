import Derived.Test.Qxb6616119aNew
import Derived.OwnWalk
namespace Go.Proofs.Qxb6616119a.Law
open Go.ChangeShapes Go.WideShapes Go.ChangeAt Go.RowKit
set_option linter.unusedSimpArgs false
set_option linter.unusedVariables false

/-- All cells of many rules. -/
def cellsOf (rs : List Rule) : List Value := rs.flatMap rcells
theorem cellsOf_snoc (rs : List Rule) (r : Rule) : cellsOf (rs ++ [r]) = cellsOf rs ++ rcells r := by simp [cellsOf]

theorem row40 : (Try.prog.info? 40).map (fun i => (i.zero, i.size, i.bytes)) = some (some (.agg (rcells (⟨#[]⟩, 0, 0)).toArray), 18, 88) := by kernel_rfl

set_option maxRecDepth 100000 in
theorem run_build18 (r : Rule) (w : World) : (Instr.buildSlice 26 1 #[(0, .agg (rcells r).toArray)]).run Try.prog w = .ok (.slice (some ⟨w.heap.size, 0, none⟩) 1 1) (w.alloc (.cells (rcells r).toArray 40)) := by
  simp [go_sem, rcells]

theorem wpList_build18 {ops : Array Oper} {rest : List Oper} {op : Oper} {a : Act} {w : World} {Q : Exit → Act → World → Prop} (hgd : op.guard = none) (x : Operand) (ho : op.op = .buildSlice 26 1 #[(0, x)])
    (r : Rule) (hx : a.eval x = .agg (rcells r).toArray)
    (h : wpList Try.prog ops Q rest (a.put op.dst (.slice (some ⟨w.heap.size, 0, none⟩) 1 1)) (w.alloc (.cells (rcells r).toArray 40))) : wpList Try.prog ops Q (op :: rest) a w :=
  wpList_plain hgd fun K hK => by
    unfold Oper.wp execOp
    simp only [ho, List.map_toArray, List.map_cons, List.map_nil, hx, Sem.run_bind, run_build18, Result.andThen_ok, Sem.run_pure]
    exact hK _ _ h

theorem wpList_push18 {ops : Array Oper} {rest : List Oper} {op : Oper} {a : Act} {w : World} {Q : Exit → Act → World → Prop} (hgd : op.guard = none) (s x : Operand)
    (ho : op.op = .call { callee := .builtin .append, args := #[s, x], argTypes := #[26, 26] })
    (base : Nat) (v : Value) (n : Nat) (xs : List Value) (r : Rule) (hs : a.eval s = v) (hx : a.eval x = .slice (some ⟨w.heap.size, 0, none⟩) 1 1) (hown : w.ownsRow base 40 18 v n xs) (hn : n ≤ 4096) (hbase : base ≤ w.heap.size)
    (h : ∀ v' w', w'.ownsRow base 40 18 v' (n + 1) (xs ++ rcells r) → Below base w w' → wpList Try.prog ops Q rest (a.put op.dst v') w') :
    wpList Try.prog ops Q (op :: rest) a (w.alloc (.cells (rcells r).toArray 40)) := by
  obtain ⟨i0, hi, hz0, hz1, hz2⟩ := info_parts row40
  have hsz := size_al w (.cells (rcells r).toArray 40)
  refine wpList_append_own _ hgd s x 26 ho base 40 i0 _ 18 88 Try.underlying26 hi hz0 hz1 hz2 rfl (by decide) v n xs hs (hown.alloc _) ⟨w.heap.size, 0, none⟩ 1 1 (rcells r) hx rfl ?_ (rcells_one r) (by unfold maxLen; omega) (by omega) (by omega) ?_
  · intro j u hj
    have hadd : (⟨w.heap.size, 0, none⟩ : Addr).add j = ⟨w.heap.size, j, none⟩ := by unfold Addr.add; split <;> simp_all
    rw [hadd, cell_of_row _ _ j (rcells r).toArray 40 (0, 0) (heap_alloc_last w _)]
    simpa using hj
  · intro v' w' h1 h2 _
    exact h v' w' h1 (((Below.refl base w).alloc hbase _).grown h2 (by omega) (fun k hk => (hown.lt k hk).1))
end Go.Proofs.Qxb6616119a.Law
