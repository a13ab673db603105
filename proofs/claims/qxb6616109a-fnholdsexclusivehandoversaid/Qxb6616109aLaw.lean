import Derived.Test.Qxb6616109aStage
namespace Go.Proofs.Qxb6616109a.fnHoldsExclusiveHandOver
open Go.ChangeShapes Go.WideShapes Go.ChangeAt Go.RowKit
set_option linter.unusedSimpArgs false
set_option linter.unusedVariables false

set_option maxRecDepth 100000 in
set_option maxHeartbeats 3200000 in
theorem law_out (nT nG a b g : Int) (h : ¬ (0 ≤ nT ∧ nT ≤ 65536 ∧ 0 ≤ nG ∧ nG ≤ 65536 ∧ 0 ≤ a ∧ a < nT ∧ 0 ≤ b ∧ b < nT ∧ a ≠ b ∧ 0 ≤ g ∧ g < nG)) (w : World) :
    Calls Try.prog 3 #[.int .i64 nT, .int .i64 nG, .int .i64 a, .int .i64 b, .int .i64 g] w fun e w' => e = .returned (.bool true) ∧ w' = w := by
  have H : Hid _ := h
  clear h
  go_enter Try.func3, Try.ntmps3
  go_wp2_with fail
  all_goals first | (go_ret; exact ⟨rfl, rfl⟩) | exact (H.out (by omega)).elim

theorem St.cell {w W : World} {t : Ids} {nT nG g a b : Nat} {hs : List (Int × Int)} {na nb : Nat} {xa xb : List Value} {fa fb : Bool} (h : St w W t nT nG g a b hs na xa fa nb xb fb) :
    St w (W.alloc (.cells #[.int .i64 g] 3)) t nT nG g a b hs na xa fa nb xb fb ∧ (W.alloc (.cells #[.int .i64 g] 3)).cell? ⟨W.heap.size, 0, none⟩ = some (.int .i64 g) :=
  ⟨h.quiet ((Quiet.refl W).alloc _), (Row.cell (e := 3) (heap_alloc_new W _) 0).trans rfl⟩

theorem hasB_nil (x : Int) : hasB [] x = false := by simp [hasB, idxI]
theorem hasB_one (x m : Int) : hasB [(x, m)] x = true := by simp [hasB, idxI]
theorem hasB_one_no {x y m : Int} (h : x ≠ y) : hasB [(x, m)] y = false := by
  have : (x == y) = false := beq_eq_false_iff_ne.2 h
  simp [hasB, idxI, List.findIdx?_cons, this]
theorem hasB_two (x y m k : Int) : hasB [(x, m), (y, k)] x = true := by simp [hasB, idxI, List.findIdx?_cons]
theorem hasB_two' {x y m k : Int} (h : x ≠ y) : hasB [(x, m), (y, k)] y = true := by
  have : (x == y) = false := beq_eq_false_iff_ne.2 h
  simp [hasB, idxI, List.findIdx?_cons, this]
theorem idx_nil (x : Int) : idxI [] x = -1 := by simp [idxI]
theorem idx_one_no {x y m : Int} (h : x ≠ y) : idxI [(x, m)] y = -1 := by
  have : (x == y) = false := beq_eq_false_iff_ne.2 h
  simp [idxI, List.findIdx?_cons, this]
theorem wait_nil (x m : Int) : waitB [] x m = false := by simp [waitB, cf]
theorem wait_yes {x y : Int} (h : x ≠ y) (m : Int) : waitB [(x, 2)] y m = true := by simp [waitB, cf, confB, h]
theorem wait_no (x y : Int) : waitB [(x, 1)] y 1 = false := by simp [waitB, cf, confB]
theorem wait_two {x y : Int} (h : x ≠ y) : waitB [(x, 1), (y, 1)] y 2 = true := by simp [waitB, cf, confB, h]

set_option maxRecDepth 100000 in
set_option maxHeartbeats 6400000 in
theorem law_main (nT nG a b g : Nat) (hT : nT ≤ 65536) (hG : nG ≤ 65536) (ha : a < nT) (hb : b < nT) (hab : a ≠ b) (hg : g < nG) (w : World) :
    Calls Try.prog 3 #[.int .i64 nT, .int .i64 nG, .int .i64 a, .int .i64 b, .int .i64 g] w fun e w' => e = .returned (.bool true) ∧ Below w.heap.size w w' := by
  have hne : ((a : Int) == (b : Int)) = false := beq_eq_false_iff_ne.2 (by omega)
  have ne1 : Hid ((a : Int) ≠ (b : Int)) := by show (a : Int) ≠ b; omega
  have ne2 : Hid ((b : Int) ≠ (a : Int)) := by show (b : Int) ≠ a; omega
  go_enter Try.func3, Try.ntmps3
  go_wp2_with fail
  refine (st_new nT nG g a b hT hG hg ha hb w).mono ?_
  rintro e W ⟨t, rfl, h0⟩
  go_wp2_with fail
  refine (st_lock_yes (h0.cell.1) hg ha hb hab (by simp) (by omega) 2 (idx_nil _) _ h0.cell.2 (wait_nil _ _)).mono ?_
  rintro e W1 ⟨rfl, g1⟩
  have h1 := g1
  simp only [List.nil_append, List.cons_append, Nat.zero_add] at h1
  clear g1 h0
  go_wp2_with fail
  refine (st_holds h1 hg (by simp) a).mono ?_
  rintro e W2 ⟨rfl, h2⟩
  rw [hasB_one]
  clear h1
  go_wp2_with fail
  refine (st_holds h2 hg (by simp) b).mono ?_
  rintro e W3 ⟨rfl, h3⟩
  rw [hasB_one_no ne1.out]
  clear h2
  go_wp2_with fail
  refine (st_lock_no (h3.cell.1.swap) hg hb ha (Ne.symm hab) (by simp) 1 _ h3.cell.2 (wait_yes ne1.out _)).mono ?_
  rintro e W4 ⟨rfl, g4⟩
  have h4 := g4.swap
  clear g4 h3
  go_wp2_with fail
  refine (st_holds h4 hg (by simp) a).mono ?_
  rintro e W5 ⟨rfl, h5⟩
  rw [hasB_one]
  clear h4
  go_wp2_with fail
  refine (st_holds h5 hg (by simp) b).mono ?_
  rintro e W6 ⟨rfl, h6⟩
  rw [hasB_one_no ne1.out]
  clear h5
  go_wp2_with fail
  refine (st_release h6 hg ha hb hab).mono ?_
  rintro e W7 ⟨rfl, h7⟩
  clear h6
  go_wp2_with fail
  refine (st_holds h7 hg (by simp) a).mono ?_
  rintro e W8 ⟨rfl, h8⟩
  rw [hasB_nil]
  clear h7
  go_wp2_with fail
  refine (st_holds h8 hg (by simp) b).mono ?_
  rintro e W9 ⟨rfl, h9⟩
  rw [hasB_nil]
  clear h8
  go_wp2_with fail
  refine (st_lock_yes (h9.cell.1.swap) hg hb ha (Ne.symm hab) (by simp) (by omega) 1 (idx_nil _) _ h9.cell.2 (wait_nil _ _)).mono ?_
  rintro e W10 ⟨rfl, g10⟩
  have h10 := g10.swap
  simp only [List.nil_append, List.cons_append, Nat.zero_add] at h10
  clear g10 h9
  go_wp2_with fail
  refine (st_holds h10 hg (by simp) a).mono ?_
  rintro e W11 ⟨rfl, h11⟩
  rw [hasB_one_no ne2.out]
  clear h10
  go_wp2_with fail
  refine (st_holds h11 hg (by simp) b).mono ?_
  rintro e W12 ⟨rfl, h12⟩
  rw [hasB_one]
  clear h11
  go_wp2_with fail
  refine (st_lock_yes (h12.cell.1) hg ha hb hab (by simp) (by omega) 1 (idx_one_no ne2.out) _ h12.cell.2 (wait_no _ _)).mono ?_
  rintro e W13 ⟨rfl, g13⟩
  have h13 := g13
  simp only [List.nil_append, List.cons_append, Nat.zero_add] at h13
  clear g13 h12
  go_wp2_with fail
  refine (st_lock_no (h13.cell.1) hg ha hb hab (by simp) 2 _ h13.cell.2 (wait_two ne2.out)).mono ?_
  rintro e W14 ⟨rfl, g14⟩
  have h14 := g14
  clear g14 h13
  go_wp2_with fail
  refine (st_holds h14 hg (by simp) a).mono ?_
  rintro e W15 ⟨rfl, h15⟩
  rw [hasB_two' ne2.out]
  clear h14
  go_wp2_with fail
  refine (st_holds h15 hg (by simp) b).mono ?_
  rintro e W16 ⟨rfl, h16⟩
  rw [hasB_two]
  clear h15
  have hfin : Hid (Below w.heap.size w W16) := by
    obtain ⟨_, _, _, _, _, _, hb, _⟩ := h16
    exact hb
  go_wp2_with fail
  go_ret
  exact ⟨rfl, hfin.out⟩

end Go.Proofs.Qxb6616109a.fnHoldsExclusiveHandOver
