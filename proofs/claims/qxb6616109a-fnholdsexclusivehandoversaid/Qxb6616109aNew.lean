import Derived.Test.Qxb6616109aReady
namespace Go.Proofs.Qxb6616109a.fnHoldsExclusiveHandOver
open Go.ChangeShapes Go.WideShapes Go.ChangeAt Go.RowKit
set_option linter.unusedSimpArgs false
set_option linter.unusedVariables false
attribute [local go_sem ↓] Go.wp_at_zero Go.wp_at_succ

def val0 (nT nG : Nat) : Fin 8 → Nat → Value := fun i b => #[.slice (some ⟨b, 0, none⟩) nG nG, .slice (some ⟨b, 0, none⟩) nG nG, .slice (some ⟨b, 0, none⟩) nT nT, .slice (some ⟨b, 0, none⟩) nT nT, .slice (some ⟨b, 0, none⟩) nT nT, .slice (some ⟨b, 0, none⟩) nT nT, .slice (some ⟨b, 0, none⟩) nT nT, .map (some b)].getD i.val undef

def obj0 (nT nG : Nat) : Fin 8 → Obj := fun i => #[.cells (madeCells #[.slice none 0 0] (nG * 1)) 57, .cells (madeCells #[.slice none 0 0] (nG * 1)) 57, .cells (madeCells #[.slice none 0 0] (nT * 1)) 25, .cells (madeCells #[.slice none 0 0, .int .u8 0] (nT * 2)) 54,
  .cells (madeCells #[.int .i64 0] (nT * 1)) 3, .cells (madeCells #[.slice none 0 0, .int .u8 0] (nT * 2)) 54, .cells (madeCells #[.int .u64 0] (nT * 1)) 47, .map #[] 0].getD i.val (.map #[] 0)

theorem hput0 {nT nG : Nat} (f : Fin 8 → Value) (i : Fin 8) (v : Value) : Act.put { tmps := tmps0 nT nG f, defers := [] } (some (dst0 i)) v = { tmps := tmps0 nT nG (upd f i v), defers := [] } := by
  match i with
  | 0 => rfl
  | 1 => rfl
  | 2 => rfl
  | 3 => rfl
  | 4 => rfl
  | 5 => rfl
  | 6 => rfl
  | 7 => rfl

theorem hset0 (L : Fin 8 → Bool) (i : Fin 8) : (lst0 L).setIfInBounds (idx0 i) true = lst0 (upd L i true) := by
  match i with
  | 0 => rfl
  | 1 => rfl
  | 2 => rfl
  | 3 => rfl
  | 4 => rfl
  | 5 => rfl
  | 6 => rfl
  | 7 => rfl

theorem Try.info57 : (Try.prog.info? 57).map (fun i => (i.zero, i.size, i.bytes)) = some (some (.slice none 0 0), 1, 24) := by kernel_rfl
theorem Try.info25 : (Try.prog.info? 25).map (fun i => (i.zero, i.size, i.bytes)) = some (some (.slice none 0 0), 1, 24) := by kernel_rfl
theorem Try.info54 : (Try.prog.info? 54).map (fun i => (i.zero, i.size, i.bytes)) = some (some (.agg #[.slice none 0 0, .int .u8 0]), 2, 32) := by kernel_rfl
theorem Try.info47 : (Try.prog.info? 47).map (fun i => (i.zero, i.size, i.bytes)) = some (some (.int .u64 0), 1, 8) := by kernel_rfl
theorem Try.info3' : (Try.prog.info? 3).map (fun i => (i.zero, i.size, i.bytes)) = some (some (.int .i64 0), 1, 8) := by kernel_rfl

theorem run_mk (t e : TypeId) (z : Value) (size bytes n : Nat) (ht : Try.prog.underlying t = some (.slice e)) (hi : (Try.prog.info? e).map (fun i => (i.zero, i.size, i.bytes)) = some (some z, size, bytes)) (hb : bytes ≤ 100) (hn : n ≤ 65536) (w : World) :
    (Instr.makeSlice t (.int .i64 n) (.int .i64 n)).run Try.prog w = .ok (.slice (some ⟨w.heap.size, 0, none⟩) n n) (w.alloc (.cells (madeCells z.cells (n * size)) e)) := by
  obtain ⟨i, h1, h2, h3, h4⟩ := info_parts hi
  have hbn : (bytes : Int) * n ≤ 281474976710656 := by
    have : bytes * n ≤ 100 * 65536 := Nat.mul_le_mul hb hn
    have h2 : ((bytes * n : Nat) : Int) ≤ 281474976710656 := by omega
    rwa [Int.natCast_mul] at h2
  have hr := run_make (P := Try.prog) w t e i z ht h1 h2 .i64 .i64 n n (by omega) (Int.le_refl _) (by rw [h4]; exact hbn) (by omega)
  rw [h3] at hr
  simpa using hr

theorem hop0 (nT nG : Nat) (hT : nT ≤ 65536) (hG : nG ≤ 65536) (i : Fin 8) : ∃ o, (opsOf (Try.f6.body.getD .skip) 1)[idx0 i]? = some o ∧ o.guard = none ∧ o.dst = some (dst0 i) ∧
    ∀ f w, (execOp (Act.eval { tmps := tmps0 nT nG f, defers := [] }) o).run Try.prog w = .ok (.value (val0 nT nG i w.heap.size)) (w.alloc (obj0 nT nG i)) := by
  match i with
  | 0 => exact ⟨_, rfl, rfl, rfl, fun f w => by
      have h := run_mk 43 57 _ 1 24 nG Try.underlying43 Try.info57 (by omega) hG w
      show (Sem.run Try.prog (do let v ← Instr.makeSlice 43 (.int .i64 nG) (.int .i64 nG); pure (Next.value v)) w) = _
      rw [Sem.run_bind, h]
      rfl⟩
  | 1 => exact ⟨_, rfl, rfl, rfl, fun f w => by
      have h := run_mk 43 57 _ 1 24 nG Try.underlying43 Try.info57 (by omega) hG w
      show (Sem.run Try.prog (do let v ← Instr.makeSlice 43 (.int .i64 nG) (.int .i64 nG); pure (Next.value v)) w) = _
      rw [Sem.run_bind, h]
      rfl⟩
  | 2 => exact ⟨_, rfl, rfl, rfl, fun f w => by
      have h := run_mk 32 25 _ 1 24 nT Try.underlying32 Try.info25 (by omega) hT w
      show (Sem.run Try.prog (do let v ← Instr.makeSlice 32 (.int .i64 nT) (.int .i64 nT); pure (Next.value v)) w) = _
      rw [Sem.run_bind, h]
      rfl⟩
  | 3 => exact ⟨_, rfl, rfl, rfl, fun f w => by
      have h := run_mk 44 54 _ 2 32 nT Try.underlying44 Try.info54 (by omega) hT w
      show (Sem.run Try.prog (do let v ← Instr.makeSlice 44 (.int .i64 nT) (.int .i64 nT); pure (Next.value v)) w) = _
      rw [Sem.run_bind, h]
      rfl⟩
  | 4 => exact ⟨_, rfl, rfl, rfl, fun f w => by
      have h := run_mk 25 3 _ 1 8 nT Try.underlying25 Try.info3' (by omega) hT w
      show (Sem.run Try.prog (do let v ← Instr.makeSlice 25 (.int .i64 nT) (.int .i64 nT); pure (Next.value v)) w) = _
      rw [Sem.run_bind, h]
      rfl⟩
  | 5 => exact ⟨_, rfl, rfl, rfl, fun f w => by
      have h := run_mk 44 54 _ 2 32 nT Try.underlying44 Try.info54 (by omega) hT w
      show (Sem.run Try.prog (do let v ← Instr.makeSlice 44 (.int .i64 nT) (.int .i64 nT); pure (Next.value v)) w) = _
      rw [Sem.run_bind, h]
      rfl⟩
  | 6 => exact ⟨_, rfl, rfl, rfl, fun f w => by
      have h := run_mk 45 47 _ 1 8 nT Try.underlying45 Try.info47 (by omega) hT w
      show (Sem.run Try.prog (do let v ← Instr.makeSlice 45 (.int .i64 nT) (.int .i64 nT); pure (Next.value v)) w) = _
      rw [Sem.run_bind, h]
      rfl⟩
  | 7 => exact ⟨_, rfl, rfl, rfl, fun f w => by
      have h := run_makeMap (P := Try.prog) 46 w
      show (Sem.run Try.prog (do let v ← Instr.makeMap 46 none; pure (Next.value v)) w) = _
      rw [Sem.run_bind, h]
      rfl⟩

theorem runA {P : Program} {ops : Array Oper} {Q : Exit → Act → World → Prop} {md : Region.Mode} (i : Nat) (d : Option Nat) (v : Value) (w' : World) {oi : Oper} {fuel : Nat} {listed : Array Bool} {a : Act} {w : World} (hi : ops[i]? = some oi) (hd : oi.dst = d) (hg : oi.guard = none)
    (hr : Region.ready md ops listed = [i]) (hrun : (execOp a.eval oi).run P w = .ok (.value v) w') (h : wpAny P md ops Q fuel (listed.setIfInBounds i true) (a.put d v) w') : wpAny P md ops Q (fuel + 1) listed a w := by
  subst hd
  refine wpAny_all hr (by simp) (fun j hj => ?_)
  rw [List.mem_singleton] at hj
  subst hj
  unfold wpOp
  simp only [hi, Region.wanted, hg, if_true]
  refine .inl ?_
  unfold Oper.wp
  rw [hrun]
  exact h

theorem made_one (z : Value) (n : Nat) : madeCells #[z] (n * 1) = Array.replicate n z := by
  apply Array.toList_inj.1
  rw [toList_madeCells_one, Nat.mul_one, Array.toList_replicate]

theorem made_two (a b : Value) (n x : Nat) (hx : x < n) : (madeCells #[a, b] (n * 2))[x * 2]? = some a := by
  simp [madeCells, show x * 2 < n * 2 by omega]

theorem made_two_size (a b : Value) (n : Nat) : (madeCells #[a, b] (n * 2)).size = n * 2 := size_madeCells _ _

/-- What NewLocks leaves. -/
def Fresh (w w' : World) (t : Ids) (nT nG : Nat) : Prop :=
  ∃ rA, Tab w' w.heap.size t nT nG (Array.replicate nG (.slice none 0 0)) (Array.replicate nT (.slice none 0 0)) rA ∧ (∀ x, x < nT → rA[x * 2]? = some (.slice none 0 0)) ∧ Quiet w w'

/-- The round's law: the first k of U are none. -/
def Filled (W2 wr : World) (b4 nT k : Nat) : Prop := ∃ cs, Row wr b4 3 cs ∧ cs.size = nT ∧ (∀ j, j < k → cs[j]? = some (.int .i64 (-1))) ∧ Fr W2 wr (fun b => b = b4)

theorem filled_step {W2 wr : World} {b4 nT k : Nat} (h : Filled W2 wr b4 nT k) (hk : k < nT) : (∃ u, wr.cell? ⟨b4, k, none⟩ = some u) ∧ wr.frozen? ⟨b4, k, none⟩ = false ∧ Filled W2 (wr.setCell ⟨b4, k, none⟩ (.int .i64 (-1))) b4 nT (k + 1) := by
  obtain ⟨cs, h1, h2, h3, h4⟩ := h
  refine ⟨⟨cs[k], (h1.cell k).trans (Array.getElem?_eq_getElem (by omega))⟩, h1.frozen k, cs.setIfInBounds k (.int .i64 (-1)), h1.set _ _, by simp [h2], fun j hj => ?_, h4.trans (Fr.setCell _ _ _)⟩
  by_cases hjk : j = k
  · subst hjk
    rw [Array.getElem?_setIfInBounds_self_of_lt (by omega)]
  · rw [Array.getElem?_setIfInBounds_ne (by omega)]
    exact h3 j (by omega)

theorem filled_end {W2 wr : World} {b4 nT : Nat} (h : Filled W2 wr b4 nT nT) : Row wr b4 3 (Array.replicate nT (.int .i64 (-1))) ∧ Fr W2 wr (fun b => b = b4) := by
  obtain ⟨cs, h1, h2, h3, h4⟩ := h
  have : cs = Array.replicate nT (.int .i64 (-1)) := by
    apply Array.ext
    · simp [h2]
    · intro i hi1 hi2
      have := h3 i (by omega)
      rw [Array.getElem?_eq_getElem hi1] at this
      simpa using this
  subst this
  exact ⟨h1, h4⟩

set_option maxRecDepth 100000 in
set_option maxHeartbeats 3200000 in
theorem new_any (nT nG : Nat) (hT : nT ≤ 65536) (hG : nG ≤ 65536) (w : World) :
    Calls Try.prog 6 #[.int .i64 nT, .int .i64 nG] w fun e w' => ∃ t, e = .returned (.pointer (some ⟨t.L, 0, none⟩)) ∧ Fresh w w' t nT nG := by
  go_enter Try.func6, Try.ntmps6
  go_wp2_with fail
  refine wp_region_noPanic ?_
  refine wp_region_any (by kernel_rfl) ?_
  change wpAny _ _ _ _ _ _ _ (World.drew _)
  refine takeA 0 (some 7) (.int .i64 nG) rfl rfl (by kernel_rfl) (by kernel_rfl) (by kernel_rfl) (fun _ _ _ h => h) (by rfl) (by intro w0; go_simp) ?_
  refine takeA 2 (some 9) (.int .i64 nG) rfl rfl (by kernel_rfl) (by kernel_rfl) (by kernel_rfl) (fun _ _ _ h => h) (by rfl) (by intro w0; go_simp) ?_
  refine takeA 4 (some 11) (.int .i64 nT) rfl rfl (by kernel_rfl) (by kernel_rfl) (by kernel_rfl) (fun _ _ _ h => h) (by rfl) (by intro w0; go_simp) ?_
  refine takeA 6 (some 13) (.int .i64 nT) rfl rfl (by kernel_rfl) (by kernel_rfl) (by kernel_rfl) (fun _ _ _ h => h) (by rfl) (by intro w0; go_simp) ?_
  refine takeA 8 (some 15) (.int .i64 nT) rfl rfl (by kernel_rfl) (by kernel_rfl) (by kernel_rfl) (fun _ _ _ h => h) (by rfl) (by intro w0; go_simp) ?_
  refine takeA 10 (some 17) (.int .i64 nT) rfl rfl (by kernel_rfl) (by kernel_rfl) (by kernel_rfl) (fun _ _ _ h => h) (by rfl) (by intro w0; go_simp) ?_
  refine takeA 12 (some 19) (.int .i64 nT) rfl rfl (by kernel_rfl) (by kernel_rfl) (by kernel_rfl) (fun _ _ _ h => h) (by rfl) (by intro w0; go_simp) ?_
  change wpAny _ _ _ _ (3 + 8) (lst0 (fun _ => false)) { tmps := tmps0 nT nG (fun _ => undef), defers := [] } _
  refine wpAny_batch (n := 8) (w0 := w.drew) (val0 nT nG) (obj0 nT nG) (fun f => { tmps := tmps0 nT nG f, defers := [] }) lst0 idx0 dst0 hput0 hset0 (by exact ready0) (by exact hop0 nT nG hT hG) 3 ?_ 8 (List.finRange 8) rfl (by decide) (fun _ => false) (fun i => by simp) _ (fun _ => 0) _ ⟨Quiet.refl _, fun i h => (by cases h), fun i j h => (by cases h)⟩
  intro f β W hm
  obtain rfl : f = fun i => val0 nT nG i (β i) := by
    funext i
    exact (hm.here i rfl).1
  have q1 : Quiet w W := Quiet.trans ((Quiet.refl w).drew) hm.quiet
  have r0 : Row W (β 0) 57 (madeCells #[.slice none 0 0] (nG * 1)) := (hm.here 0 rfl).2.1
  have r1 : Row W (β 1) 57 (madeCells #[.slice none 0 0] (nG * 1)) := (hm.here 1 rfl).2.1
  have r2 : Row W (β 2) 25 (madeCells #[.slice none 0 0] (nT * 1)) := (hm.here 2 rfl).2.1
  have r3 : Row W (β 3) 54 (madeCells #[.slice none 0 0, .int .u8 0] (nT * 2)) := (hm.here 3 rfl).2.1
  have r4 : Row W (β 4) 3 (madeCells #[.int .i64 0] (nT * 1)) := (hm.here 4 rfl).2.1
  have r6 : Row W (β 6) 47 (madeCells #[.int .u64 0] (nT * 1)) := (hm.here 6 rfl).2.1
  have r7 : W.heap[β 7]? = some (.map #[] 0) := (hm.here 7 rfl).2.1
  have l0 : w.heap.size ≤ β 0 := (hm.here 0 rfl).2.2
  have l2 : w.heap.size ≤ β 2 := (hm.here 2 rfl).2.2
  have l3 : w.heap.size ≤ β 3 := (hm.here 3 rfl).2.2
  have l4 : w.heap.size ≤ β 4 := (hm.here 4 rfl).2.2
  have n01 : β 0 ≠ β 1 := hm.apart 0 1 rfl rfl (by decide)
  clear hm
  change wpAny _ _ _ _ 3 #[true, true, true, true, true, true, true, true, true, true, true, true, true, true, true, false, false, false] { tmps := #[.int .i64 nT, .int .i64 nG, undef, undef, .pointer none, undef, undef, .int .i64 nG, .slice (some ⟨β 0, 0, none⟩) nG nG, .int .i64 nG, .slice (some ⟨β 1, 0, none⟩) nG nG, .int .i64 nT, .slice (some ⟨β 2, 0, none⟩) nT nT, .int .i64 nT, .slice (some ⟨β 3, 0, none⟩) nT nT, .int .i64 nT, .slice (some ⟨β 4, 0, none⟩) nT nT, .int .i64 nT, .slice (some ⟨β 5, 0, none⟩) nT nT, .int .i64 nT, .slice (some ⟨β 6, 0, none⟩) nT nT, .map (some (β 7)), undef, undef, undef, undef, undef, undef, undef, undef, undef, undef, undef, undef, undef, undef, undef, undef, undef, undef], defers := [] } W
  generalize β 0 = b0 at *
  generalize β 1 = b1 at *
  generalize β 2 = b2 at *
  generalize β 3 = b3 at *
  generalize β 4 = b4 at *
  generalize β 5 = b5 at *
  generalize β 6 = b6 at *
  generalize β 7 = b7 at *
  refine takeA 15 (some 22) (.agg #[.slice (some ⟨b0, 0, none⟩) nG nG, .slice (some ⟨b1, 0, none⟩) nG nG, .slice (some ⟨b2, 0, none⟩) nT nT, .slice (some ⟨b3, 0, none⟩) nT nT, .slice (some ⟨b4, 0, none⟩) nT nT, .nilFunc, .slice (some ⟨b5, 0, none⟩) nT nT, .slice (some ⟨b6, 0, none⟩) nT nT, .map (some b7), .int .u64 0, .slice none 0 0, .slice none 0 0, .slice none 0 0, .slice none 0 0, .slice none 0 0]) rfl rfl (by kernel_rfl) (by kernel_rfl) (by kernel_rfl) (fun _ _ _ h => h) (by rfl) ?_ ?_
  · intro w0
    go_simp
  simp only [Act.put, List.setIfInBounds_toArray, List.set_cons_zero, List.set_cons_succ]
  refine runA 16 (some 23) (.pointer (some ⟨W.heap.size, 0, none⟩)) (W.alloc (.cells #[.slice (some ⟨b0, 0, none⟩) nG nG, .slice (some ⟨b1, 0, none⟩) nG nG, .slice (some ⟨b2, 0, none⟩) nT nT, .slice (some ⟨b3, 0, none⟩) nT nT, .slice (some ⟨b4, 0, none⟩) nT nT, .nilFunc, .slice (some ⟨b5, 0, none⟩) nT nT, .slice (some ⟨b6, 0, none⟩) nT nT, .map (some b7), .int .u64 0, .slice none 0 0, .slice none 0 0, .slice none 0 0, .slice none 0 0, .slice none 0 0] 51)) rfl rfl rfl (by kernel_rfl) (by go_simp) ?_
  simp only [Act.put, List.setIfInBounds_toArray, List.set_cons_zero, List.set_cons_succ]
  refine takeA 17 (some 5) (.pointer (some ⟨W.heap.size, 0, none⟩)) rfl rfl (by kernel_rfl) (by kernel_rfl) (by kernel_rfl) (fun _ _ _ h => h) (by rfl) ?_ ?_
  · intro w0
    go_simp
  simp only [Act.put, List.setIfInBounds_toArray, List.set_cons_zero, List.set_cons_succ]
  refine wpAny_done (by kernel_rfl) (NoPanic.normal ?_) _
  have q2 : Quiet W (W.alloc (.cells #[.slice (some ⟨b0, 0, none⟩) nG nG, .slice (some ⟨b1, 0, none⟩) nG nG, .slice (some ⟨b2, 0, none⟩) nT nT, .slice (some ⟨b3, 0, none⟩) nT nT, .slice (some ⟨b4, 0, none⟩) nT nT, .nilFunc, .slice (some ⟨b5, 0, none⟩) nT nT, .slice (some ⟨b6, 0, none⟩) nT nT, .map (some b7), .int .u64 0, .slice none 0 0, .slice none 0 0, .slice none 0 0, .slice none 0 0, .slice none 0 0] 51)) := (Quiet.refl W).alloc _
  have rL : Row (W.alloc (.cells #[.slice (some ⟨b0, 0, none⟩) nG nG, .slice (some ⟨b1, 0, none⟩) nG nG, .slice (some ⟨b2, 0, none⟩) nT nT, .slice (some ⟨b3, 0, none⟩) nT nT, .slice (some ⟨b4, 0, none⟩) nT nT, .nilFunc, .slice (some ⟨b5, 0, none⟩) nT nT, .slice (some ⟨b6, 0, none⟩) nT nT, .map (some b7), .int .u64 0, .slice none 0 0, .slice none 0 0, .slice none 0 0, .slice none 0 0, .slice none 0 0] 51)) W.heap.size 51 #[.slice (some ⟨b0, 0, none⟩) nG nG, .slice (some ⟨b1, 0, none⟩) nG nG, .slice (some ⟨b2, 0, none⟩) nT nT, .slice (some ⟨b3, 0, none⟩) nT nT, .slice (some ⟨b4, 0, none⟩) nT nT, .nilFunc, .slice (some ⟨b5, 0, none⟩) nT nT, .slice (some ⟨b6, 0, none⟩) nT nT, .map (some b7), .int .u64 0, .slice none 0 0, .slice none 0 0, .slice none 0 0, .slice none 0 0, .slice none 0 0] := heap_alloc_new W _
  have c4 := (rL.cell 4).trans (show _ = some (.slice (some ⟨b4, 0, none⟩) nT nT) from rfl)
  have hWs := q1.size
  have r0' := r0.quiet q2
  have r1' := r1.quiet q2
  have r2' := r2.quiet q2
  have r3' := r3.quiet q2
  have r4' := r4.quiet q2
  have r6' := r6.quiet q2
  have r7' := (Fr.block q2 b7 (Array.getElem?_eq_some_iff.1 r7).1 (fun f => f)).trans r7
  have q3 := q1.trans q2
  clear r0 r1 r2 r3 r4 r6 r7 q1
  go_wp2_with fail
  generalize W.alloc (.cells #[.slice (some ⟨b0, 0, none⟩) nG nG, .slice (some ⟨b1, 0, none⟩) nG nG, .slice (some ⟨b2, 0, none⟩) nT nT, .slice (some ⟨b3, 0, none⟩) nT nT, .slice (some ⟨b4, 0, none⟩) nT nT, .nilFunc, .slice (some ⟨b5, 0, none⟩) nT nT, .slice (some ⟨b6, 0, none⟩) nT nT, .map (some b7), .int .u64 0, .slice none 0 0, .slice none 0 0, .slice none 0 0, .slice none 0 0, .slice none 0 0] 51) = W2 at *
  have F0 : Filled W2 W2 b4 nT 0 := ⟨_, r4', by rw [size_madeCells]; omega, fun j hj => by omega, Fr.refl _ _⟩
  have hne : W.heap.size ≠ b4 := rL.ne r4' (by decide)
  go_loopw [29] (fun i wr => ∃ k : Nat, k ≤ nT ∧ i = .int .i64 k ∧ Filled W2 wr b4 nT k) (fun i _ => nT - (intOf i).toNat)
  case atStart => exact ⟨0, Nat.zero_le _, rfl, F0⟩
  case round =>
    obtain ⟨k, hk, rfl, hF⟩ := hrel
    have kL : wr.cell? ⟨W.heap.size, 4, none⟩ = some (.slice (some ⟨b4, 0, none⟩) nT nT) := by
      obtain ⟨cs, h1, h2, h3, h4⟩ := hF
      exact ((rL.keep h4 hne).cell 4).trans rfl
    by_cases hlt : k < nT
    · obtain ⟨⟨u, hu⟩, hf, hF'⟩ := filled_step hF hlt
      have HF : Hid _ := hF'
      clear hF' F0 hF
      go_wp2_with fail
      go_roundw
      case rel => exact ⟨k + 1, by omega, by go_num, HF.out⟩
      case measure => simp [intOf]; omega
    · obtain rfl : k = nT := by omega
      obtain ⟨rU, f⟩ := filled_end hF
      have fin : Fresh w wr ⟨W.heap.size, b0, b1, b2, b3, b4, b5, b6, b7⟩ k nG := by
        refine ⟨_, ⟨rL.keep f hne, ?_, ?_, ?_, r3'.keep f (r3'.ne r4' (by decide)), rU, ?_, ?_, n01, by simp, by simp, made_two_size _ _ _, ⟨hWs, l0, l2, l3⟩, hT, hG⟩, fun x hx => made_two _ _ _ _ hx, ?_⟩
        · rw [← made_one]; exact r0'.keep f (r0'.ne r4' (by decide))
        · rw [← made_one]; exact r1'.keep f (r1'.ne r4' (by decide))
        · rw [← made_one]; exact r2'.keep f (r2'.ne r4' (by decide))
        · rw [← made_one]; exact r6'.keep f (r6'.ne r4' (by decide))
        · refine (f.block b7 (Array.getElem?_eq_some_iff.1 r7').1 ?_).trans r7'
          rintro rfl
          unfold Row at r4'
          rw [r7'] at r4'
          cases r4'
        · refine ⟨f.os.trans (Fr.os q3), f.tape.trans (Fr.tape q3), f.output.trans (Fr.output q3), Nat.le_trans (Fr.size q3) f.size, fun i hi _ => ?_⟩
          rw [f.block i (Nat.lt_of_lt_of_le hi (Fr.size q3)) (by omega)]
          exact Fr.block q3 i hi (fun f => f)
      have FIN : Hid _ := fin
      clear fin rU f F0 hF r0' r1' r2' r3' r4' r6' r7'
      go_wp2_with fail
      go_ret
      exact ⟨_, rfl, FIN.out⟩

end Go.Proofs.Qxb6616109a.fnHoldsExclusiveHandOver
