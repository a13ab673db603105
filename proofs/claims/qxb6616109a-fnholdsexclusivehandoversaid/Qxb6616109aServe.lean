import Derived.Test.Qxb6616109aRel
namespace Go.Proofs.Qxb6616109a.fnHoldsExclusiveHandOver
open Go.ChangeShapes Go.WideShapes Go.ChangeAt Go.RowKit
set_option linter.unusedSimpArgs false
set_option linter.unusedVariables false

set_option maxRecDepth 100000 in
set_option maxHeartbeats 3200000 in
theorem unqueue_any {w : World} {base : Nat} {t : Ids} {nT nG : Nat} {hA dA rA : Array Value} (h : Tab w base t nT nG hA dA rA) {x : Nat} (hx : x < nT) :
    Calls Try.prog 22 #[.pointer (some ⟨t.L, 0, none⟩), .int .i64 x] w fun e w' => e = .returned (.int .i64 (-1)) ∧ Quiet w w' := by
  have q1 : Quiet w (w.alloc (.cells #[.int .i64 x] 3)) := (Quiet.refl _).alloc _
  have rB : Row (w.alloc (.cells #[.int .i64 x] 3)) w.heap.size 3 #[.int .i64 x] := heap_alloc_new w _
  have b1 : (0 : Int) ≤ (x : Int) := by omega
  have b2 : (x : Int) < (nT : Int) := by omega
  go_enter Try.func22, Try.ntmps22
  go_wp2_with fail
  refine (drop_any (h.quiet q1) hx).mono ?_
  rintro e w1 ⟨rfl, hq1⟩
  have q2 := q1.trans hq1
  have c1 := ((rB.quiet hq1).cell 0).trans (show _ = some (.int .i64 x) from rfl)
  have c4 := (h.quiet q2).l4
  have cu := (h.quiet q2).u hx
  go_wp2_with fail
  go_quiet (fail)
  go_wp2
  go_ret
  exact ⟨rfl, q2.drewN _⟩

set_option maxRecDepth 100000 in
set_option maxHeartbeats 3200000 in
theorem serveWhole_any {w : World} {base : Nat} {t : Ids} {nT nG : Nat} {hA dA rA : Array Value} (h : Tab w base t nT nG hA dA rA) :
    Calls Try.prog 24 #[.pointer (some ⟨t.L, 0, none⟩)] w fun e w' => e = .returned (.tuple #[]) ∧ Quiet w w' := by
  have q1 : Quiet w (w.alloc (.cells #[.pointer (some ⟨t.L, 0, none⟩)] 22)) := (Quiet.refl _).alloc _
  have c10 := (h.quiet q1).l10
  go_enter Try.func24, Try.ntmps24
  go_wp2_with fail
  refine bodyPost_ret (results_none rfl _ _ _) rfl ?_
  exact ⟨rfl, q1⟩

theorem run_lookup_empty {M : Nat} {w : World} (h : w.heap[M]? = some (.map #[] 0)) (g : Int) :
    (Instr.lookup 46 (.map (some M)) (.int .i64 g) false).run Try.prog w = .ok (.slice none 0 0) w := by
  have hck : ∀ e, (Instr.checkKey e 10000 3 (.int .i64 g)).run Try.prog w = .ok () w := fun e => MapKept.run_checkKey Try.underlying3 (by simp [MapKept.IsKey]) e 9999
  simp [Instr.lookup, run_underlying Try.underlying46, Instr.findKey, MapKept.run_getObj_map h, hck, run_underlying Try.underlying3, Instr.findNow, Try.zeroValue25]

set_option maxRecDepth 100000 in
set_option maxHeartbeats 3200000 in
theorem serve_any {w : World} {base : Nat} {t : Ids} {nT nG : Nat} {hA dA rA : Array Value} (h : Tab w base t nT nG hA dA rA) {g : Nat} (hg : g < nG) :
    Calls Try.prog 23 #[.pointer (some ⟨t.L, 0, none⟩), .int .i64 g] w fun e w' => e = .returned (.tuple #[]) ∧ Quiet w w' := by
  have c8 := h.l8
  have c1 := h.l1
  have cq := h.q hg
  have hlk := run_lookup_empty h.M g
  have b1 : (0 : Int) ≤ (g : Int) := by omega
  have b2 : (g : Int) < (nG : Int) := by omega
  go_enter Try.func23, Try.ntmps23
  go_wp2_with fail
  go_loopw [5] (fun i wr => i = .int .i64 0 ∧ wr = w) (fun _ _ => 0)
  case atStart => exact ⟨rfl, rfl⟩
  case round =>
    obtain ⟨rfl, rfl⟩ := hrel
    go_wp2_with fail
    go_end0
    exact ⟨rfl, Quiet.refl _⟩

end Go.Proofs.Qxb6616109a.fnHoldsExclusiveHandOver
