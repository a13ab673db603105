import Derived.Test.Qxb6616119aBase
import Derived.Deep.AppendLies
import Derived.Deep.WholeRow
namespace Go.Proofs.Qxb6616119a.Law
open Go.ChangeShapes Go.WideShapes Go.ChangeAt Go.RowKit
set_option linter.unusedSimpArgs false
set_option linter.unusedVariables false

theorem size_al (w : World) (o : Obj) : (w.alloc o).heap.size = w.heap.size + 1 := by
  show (w.heap.push o).size = _
  exact Array.size_push _
theorem two_last {w w1 : World} {o o1 : Obj} (hb : Below ((w.alloc o).alloc o1).heap.size ((w.alloc o).alloc o1) w1) : w1.heap[w.heap.size + 1]? = some o1 := by
  rw [hb.block (w.heap.size + 1) (by rw [size_al, size_al]; omega), ← size_al w o]
  exact heap_alloc_last _ _
theorem two_below {w w1 : World} {o o1 : Obj} (hb : Below ((w.alloc o).alloc o1).heap.size ((w.alloc o).alloc o1) w1) : Below w.heap.size w w1 :=
  (((Below.refl _ _).alloc (Nat.le_refl _) _).alloc (by rw [size_al]; omega) _).trans (hb.mono (by rw [size_al, size_al]; omega))

/-- The eighteen cells of a rule of the program. -/
def rcells (r : Rule) : List Value := [.int .u32 r.2.1, .string r.1, .string ⟨#[]⟩, .int .i64 r.2.2, .slice none 0 0, .bool false, .bool false, .bool false, .bool false, .bool false, .bool false, .bool false, .bool false, .bool false, .bool false, .bool false, .bool false, .bool false]

theorem rcells_one (r : Rule) : ∀ u ∈ rcells r, u.oneCell' = true := by
  intro u hu
  simp only [rcells, List.mem_cons, List.not_mem_nil, or_false] at hu
  rcases hu with rfl | rfl | rfl | rfl | rfl | rfl | rfl | rfl | rfl | rfl | rfl | rfl | rfl | rfl | rfl | rfl | rfl | rfl <;> rfl
theorem rcells_length (r : Rule) : (rcells r).length = 18 := rfl
theorem rcells_all (r : Rule) : (rcells r).toArray.all (·.oneCell') = true :=
  Array.all_eq_true_iff_forall_mem.2 (fun v hv => rcells_one r v (by simpa using hv))
theorem info40 : (Try.prog.info? 40).map (·.size) = some 18 := rfl
theorem und40 : ∃ d, Try.prog.underlying 40 = some d ∧ (match d with | .struct _ | .array _ _ => true | _ => false) = true := ⟨_, rfl, rfl⟩

section
variable {P : Program}
theorem heap_setRow (w : World) (g : Nat) (old cs : Array Value) (t : TypeId) (fr : Nat × Nat) (hg : w.heap[g]? = some (.cells old t fr)) : (w.setRow g cs).heap[g]? = some (.cells cs t fr) := by
  simp [World.setRow, Array.getElem?_modify, hg]
theorem below_setRow {B : Nat} {a w : World} (h : Below B a w) {g : Nat} (hg : B ≤ g) (cs : Array Value) : Below B a (w.setRow g cs) := by
  refine ⟨h.os, h.tape, h.output, ?_, fun k hk => ?_⟩
  · have := h.size; simpa [World.setRow] using this
  · have := h.block k hk
    rw [← this]
    have hne : g ≠ k := by omega
    simp [World.setRow, Array.getElem?_modify, hne]

theorem wpList_store_row {ops : Array Oper} {rest : List Oper} {op : Oper} {a : Act} {w : World} {Q : Exit → Act → World → Prop} (hgd : op.guard = none) (ty : TypeId) (x y : Operand) (ho : op.op = .store ty x y)
    (g : Nat) (t : TypeId) (old cells : Array Value) (hx : a.eval x = .pointer (some ⟨g, 0, none⟩)) (hy : a.eval y = .agg cells)
    (hg : w.heap[g]? = some (.cells old t (0, 0))) (hi : (P.info? ty).map (·.size) = some cells.size) (hs : old.size = cells.size) (h1 : cells.all (·.oneCell') = true)
    (h : wpList P ops Q rest (a.put op.dst undef) (w.setRow g cells)) : wpList P ops Q (op :: rest) a w :=
  wpList_plain hgd fun K hK => by
    unfold Oper.wp execOp
    simp only [ho, hx, hy, Instr.storeAt, Instr.sureAddr, Sem.run_bind, Sem.run_pure, Result.andThen_ok, run_storeVar_row w g t ty old cells hg hi hs h1]
    exact hK _ _ h

theorem results_cell {fn : Func} {p : Tmp} {ty : TypeId} (hr : fn.results = #[.cell p ty]) (tmps : Array Value) (w : World) (g : Nat) (t : TypeId) (cs : Array Value) (hp : tmps.getD p undef = .pointer (some ⟨g, 0, none⟩))
    (hg : w.heap[g]? = some (.cells cs t (0, 0))) (hu : ∃ d, P.underlying ty = some d ∧ (match d with | .struct _ | .array _ _ => true | _ => false) = true) (hi : (P.info? ty).map (·.size) = some cs.size) :
    (results fn tmps).run P w = .ok (.agg cs) w := by
  obtain ⟨d, hu, hd⟩ := hu
  have := run_loadVar_row (P := P) w g t ty cs (0, 0) d hg hu (by cases d <;> simp_all) hi
  simp only [results, hr]
  have hp' : tmps[p]?.getD undef = .pointer (some ⟨g, 0, none⟩) := by simpa using hp
  simp [Sem.run_bind, Result.andThen, hp', asAddr, this]
end

set_option maxRecDepth 100000 in
set_option maxHeartbeats 1600000 in
theorem zznew_any (p : ByteArray) (f x : Int) (w : World) : Calls Try.prog 19 #[.int .u32 f, .string p, .int .i64 x] w fun e w' => e = .returned (.agg (rcells (p, f, x)).toArray) ∧ Below w.heap.size w w' := by
  go_enter Try.func19, Try.ntmps19
  go_wp2_with (refine wpList_store_row rfl 40 _ _ rfl w.heap.size 40 _ (rcells (p, f, x)).toArray rfl rfl (heap_alloc_last w _) info40 rfl (rcells_all _) ?_)
  exact bodyPost_ret (results_cell rfl _ _ w.heap.size 40 (rcells (p, f, x)).toArray rfl (heap_setRow _ _ _ _ _ _ (heap_alloc_last w _)) und40 info40) rfl ⟨rfl, below_setRow ((Below.refl _ _).alloc (Nat.le_refl _) _) (Nat.le_refl _) _⟩


set_option maxRecDepth 100000 in
set_option maxHeartbeats 1600000 in
theorem newRule_any (r : Rule) (w : World) : Calls Try.prog 15 #[.agg #[.string r.1, .int .u32 r.2.1, .int .i64 r.2.2]] w fun e w' => e = .returned (.agg (rcells r).toArray) ∧ Below w.heap.size w w' := by
  obtain ⟨p, f, x⟩ := r
  go_enter Try.func15, Try.ntmps15
  go_wp2_with fail
  refine (zznew_any p f x _).mono ?_
  rintro e w1 ⟨rfl, hb⟩
  have hg' := two_last hb
  have hb' := two_below hb
  go_wp2_with (refine wpList_store_row rfl 40 _ _ rfl (w.heap.size + 1) 40 _ (rcells (p, f, x)).toArray rfl rfl hg' info40 rfl (rcells_all _) ?_)
  exact bodyPost_ret (results_cell rfl _ _ (w.heap.size + 1) 40 (rcells (p, f, x)).toArray rfl (heap_setRow _ _ _ _ _ _ hg') und40 info40) rfl ⟨rfl, below_setRow hb' (by omega) _⟩

end Go.Proofs.Qxb6616119a.Law
