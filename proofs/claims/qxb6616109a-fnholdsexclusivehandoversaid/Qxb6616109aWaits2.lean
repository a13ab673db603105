import Derived.Test.Qxb6616109aWaits
namespace Go.Proofs.Qxb6616109a.fnHoldsExclusiveHandOver
open Go.ChangeShapes Go.WideShapes Go.ChangeAt Go.RowKit Go.Shelf
set_option linter.unusedSimpArgs false
set_option linter.unusedVariables false
attribute [local go_sem] Oper.semAt_some

theorem waitsFor_any (L s : Nat) (tx m : Int) (w : World) :
    Calls Try.prog 52 #[.pointer (some ⟨L, 0, none⟩), .int .i64 tx, .agg #[.slice (some ⟨s, 0, none⟩) 1 1, .int .u8 m]] w fun e w' =>
      e = .returned (.func (.func 62) #[] #[.pointer (some ⟨w.heap.size + 1 + 1, 0, none⟩), .pointer (some ⟨w.heap.size, 0, none⟩), .pointer (some ⟨w.heap.size + 1, 0, none⟩)]) ∧
      w' = ((w.alloc (.cells #[.pointer (some ⟨L, 0, none⟩)] 22)).alloc (.cells #[.int .i64 tx] 3)).alloc (.cells #[.slice (some ⟨s, 0, none⟩) 1 1, .int .u8 m] 54) := by
  go_enter Try.func52, Try.ntmps52
  go_wp2
  go_ret
  exact ⟨rfl, rfl⟩

theorem cf_ne {hs : List (Int × Int)} {tx m : Int} {k : Nat} (hk : k < hs.length) (h : (hs[k]?.map fun h => (h.1 != tx && confB h.2 m)) = some true) : cf hs tx m hs.length ≠ [] := by
  rw [List.getElem?_eq_getElem hk] at h
  simp only [Option.map_some, Option.some.injEq] at h
  unfold cf
  rw [List.take_length]
  intro he
  have : hs[k].1 ∈ (hs.filter (fun h => h.1 != tx && confB h.2 m)).map (·.1) := List.mem_map.2 ⟨hs[k], List.mem_filter.2 ⟨List.getElem_mem _, h⟩, rfl⟩
  rw [he] at this
  cases this

/-- Does the request wait? -/
def waitB (hs : List (Int × Int)) (tx m : Int) : Bool := !(cf hs tx m hs.length).isEmpty

def boxed5 (w : World) (L s : Nat) (tx m : Int) : World :=
  ((((w.alloc (.cells #[.slice (some ⟨s, 0, none⟩) 1 1, .int .u8 m] 54)).alloc (.cells #[.bool false] 4)).alloc (.cells #[.pointer (some ⟨L, 0, none⟩)] 22)).alloc (.cells #[.int .i64 tx] 3)).alloc (.cells #[.slice (some ⟨s, 0, none⟩) 1 1, .int .u8 m] 54)

theorem boxed5_all (w : World) (L s : Nat) (tx m : Int) :
    (boxed5 w L s tx m).heap.size = w.heap.size + 5 ∧ (boxed5 w L s tx m).cell? ⟨w.heap.size + 1, 0, none⟩ = some (.bool false) ∧ (boxed5 w L s tx m).frozen? ⟨w.heap.size + 1, 0, none⟩ = false ∧
    (boxed5 w L s tx m).cell? ⟨w.heap.size + 4, 0, none⟩ = some (.slice (some ⟨s, 0, none⟩) 1 1) ∧ (boxed5 w L s tx m).cell? ⟨w.heap.size + 4, 1, none⟩ = some (.int .u8 m) ∧
    (boxed5 w L s tx m).cell? ⟨w.heap.size + 2, 0, none⟩ = some (.pointer (some ⟨L, 0, none⟩)) ∧ (boxed5 w L s tx m).cell? ⟨w.heap.size + 3, 0, none⟩ = some (.int .i64 tx) := by
  unfold boxed5
  refine ⟨?_, ?_, ?_, ?_, ?_, ?_, ?_⟩ <;> go_simp

set_option maxRecDepth 100000 in
set_option maxHeartbeats 4000000 in
theorem waits_any {w : World} {base : Nat} {t : Ids} {nT nG : Nat} {hA dA rA : Array Value} (h : Tab w base t nT nG hA dA rA) {g : Nat} (hg : g < nG) {v : Value} (hv : hA[g]? = some v) {hs : List (Int × Int)} (hh : Hs w base v hs) (hl : hs.length ≤ 100) (tx m : Int)
    (s : Nat) (hsc : w.cell? ⟨s, 0, none⟩ = some (.int .i64 g)) :
    Calls Try.prog 31 #[.pointer (some ⟨t.L, 0, none⟩), .int .i64 tx, .agg #[.slice (some ⟨s, 0, none⟩) 1 1, .int .u8 m]] w fun e w' => e = .returned (.bool (waitB hs tx m)) ∧ Quiet w w' := by
  refine (callsIn_wide (n := 6)).1 ?_
  refine callsIn_of_wp_marks Try.func31 rfl trivial ?_ rfl
  simp only [Try.ntmps31, List.size_toArray, List.length_cons, List.length_nil, Nat.reduceAdd, Nat.reduceSub, Array.replicate_succ, Array.replicate_zero, List.push_toArray, List.append_toArray, List.nil_append, List.cons_append]
  gi_wp2_with fail
  refine ⟨trivial, ?_⟩
  refine (callsIn_wide.2 (waitsFor_any t.L s tx m _)).mono ?_
  rintro e w1 ⟨rfl, hw1⟩
  have hw2 : w1 = boxed5 w t.L s tx m := hw1
  have q0 : Quiet w w1 := by
    rw [hw2]
    exact (((((Quiet.refl w).alloc _).alloc _).alloc _).alloc _).alloc _
  have all := boxed5_all w t.L s tx m
  rw [← hw2] at all
  obtain ⟨hsz, cB, fB, a0, a1, a2, a3⟩ := all
  have A : Asks w1 base t nT nG hA dA rA g s (w.heap.size + 4) (w.heap.size + 2) (w.heap.size + 3) v hs tx m :=
    ⟨h.quiet q0, hg, hv, hh.quiet q0, hl, q0.cell hsc, a0, a1, a2, a3⟩
  simp only [World.size_alloc, Nat.add_assoc, Nat.reduceAdd]
  clear hw1 hw2 a0 a1 a2 a3
  gi_wp2_with fail
  have hseq : SeqStopsK Fence.wide 5 Try.prog 62 #[.pointer (some ⟨w.heap.size + 4, 0, none⟩), .pointer (some ⟨w.heap.size + 2, 0, none⟩), .pointer (some ⟨w.heap.size + 3, 0, none⟩)] (fun x : Int => #[Value.int .i64 x]) (Below w1.heap.size)
      (fun ys => ys = cf hs tx m hs.length) (fun pre => ∃ k, k < hs.length ∧ (hs[k]?.map fun h => (h.1 != tx && confB h.2 m)) = some true ∧ pre = cf hs tx m (k + 1)) hs.length w1 :=
    fun l J Jx W hW hJ hJx hY h0 => wf1_in A 5 l J Jx W hW hJ hJx hY h0
  refine wpIn_rangeFunc_ownF rfl (by decide) (gf := 62) (lb := #[.pointer (some ⟨w.heap.size + 4, 0, none⟩), .pointer (some ⟨w.heap.size + 2, 0, none⟩), .pointer (some ⟨w.heap.size + 3, 0, none⟩)]) rfl trivial (enters_of Try.func62 (by kernel_rfl) rfl)
    hseq belowK_t (belowK_b (Nat.le_refl _)) (Below.refl _ _) (fun _ => rfl)
    (fun pre W => (pre = [] ∧ W.cell? ⟨w.heap.size + 1, 0, none⟩ = some (.bool false) ∧ W.frozen? ⟨w.heap.size + 1, 0, none⟩ = false) ∧ Below w.heap.size w W)
    (fun c pre W => (c = .ret ∧ W.cell? ⟨w.heap.size + 1, 0, none⟩ = some (.bool true)) ∧ Below w.heap.size w W)
    (OwnFrom.and (Own.from (fun s A B row hs hg hr => ⟨hs.1, cell_kept hs.2.1 hg hr, (frozen_kept hs.2.1 hg hr).trans hs.2.2⟩) _) (ownFrom_below (Nat.le_refl _) (by omega)))
    (fun c => OwnFrom.and (Own.from (fun s A B row hs hg hr => ⟨hs.1, cell_kept hs.2 hg hr⟩) _) (ownFrom_below (Nat.le_refl _) (by omega)))
    ⟨⟨rfl, cB, fB⟩, below_of_quiet q0⟩
    (fun x => { tmps := #[.pointer (some ⟨t.L, 0, none⟩), .int .i64 tx, .agg #[.slice (some ⟨s, 0, none⟩) 1 1, .int .u8 m], undef, undef, .pointer (some ⟨w.heap.size, 0, none⟩), .pointer (some ⟨w.heap.size + 1, 0, none⟩), .pointer (some ⟨t.L, 0, none⟩), .int .i64 tx, .agg #[.slice (some ⟨s, 0, none⟩) 1 1, .int .u8 m], .func (.func 62) #[] #[.pointer (some ⟨w.heap.size + 4, 0, none⟩), .pointer (some ⟨w.heap.size + 2, 0, none⟩), .pointer (some ⟨w.heap.size + 3, 0, none⟩)], .int .i64 x], defers := [] }) ?assign ?body ?done ?stop
  case assign =>
    intro l x W K hK
    gi_wp2
    simpa using hK
  case body =>
    rintro l pre x W ⟨⟨hp, hc, hf⟩, hB⟩ _
    gi_wp2
    exact ⟨KeepsOthers.setCell _ _ _, ⟨rfl, World.cell?_setCell_same' _ _ _ (by rw [hc]; rfl)⟩, hB.setCell (p := ⟨w.heap.size + 1, 0, none⟩) (by simp) _⟩
  case done =>
    rintro D ys W hD rfl ⟨⟨hne, hc, hf⟩, hB⟩ hK
    have hval : waitB hs tx m = false := by unfold waitB; rw [hne]; rfl
    gi_wp2
    have hK' := (KeepsOthers.setCell W ⟨w.heap.size + 1, 0, none⟩ (.bool false)).same D _ hK rfl
    refine ⟨by simp, .inl ⟨_, _, rfl, run_takeDeferred hK', ?_⟩⟩
    have hc5 := cell_kept (World.cell?_setCell_same' W ⟨w.heap.size + 1, 0, none⟩ (.bool false) (by rw [hc]; rfl)) (grownBy_putObj' _ D (.deferred none)) (fun r e => by cases e; exact ⟨_, hK', rfl⟩)
    refine ⟨.bool false, ?_, by rw [hval], quiet_of_below ((hB.setCell (p := ⟨w.heap.size + 1, 0, none⟩) (by simp) _).trans (belowK_b (w := w) (Nat.le_refl _) _ D _ _ (by omega) hK' rfl rfl))⟩
    simp [results, Try.f31, go_sem, hc5]
  case stop =>
    rintro D c pre W hD ⟨k, hk, hkt, _⟩ ⟨⟨rfl, hc⟩, hB⟩ hK
    have hval : waitB hs tx m = true := by
      have := cf_ne hk hkt
      unfold waitB
      cases hcf : cf hs tx m hs.length with
      | nil => exact absurd hcf this
      | cons a b => rfl
    gi_wp2
    refine ⟨by simp, .inl ⟨_, _, rfl, run_takeDeferred hK, ?_⟩⟩
    have hc5 := cell_kept hc (grownBy_putObj' _ D (.deferred none)) (fun r e => by cases e; exact ⟨_, hK, rfl⟩)
    refine ⟨.bool true, ?_, by rw [hval], quiet_of_below (hB.trans (belowK_b (w := w) (Nat.le_refl _) W D _ _ (by omega) hK rfl rfl))⟩
    simp [results, Try.f31, go_sem, hc5]

end Go.Proofs.Qxb6616109a.fnHoldsExclusiveHandOver
