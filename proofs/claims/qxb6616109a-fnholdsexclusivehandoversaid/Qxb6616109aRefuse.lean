import Derived.Test.Qxb6616109aHold
import Derived.Deep.RegionHeld3
import Derived.Deep.RegionLaw
import Derived.Deep.AppendLies
import Derived.Deep.DrawnRows
namespace Go.Proofs.Qxb6616109a.fnHoldsExclusiveHandOver
open Go.ChangeShapes Go.WideShapes Go.ChangeAt Go.RowKit
attribute [local go_sem ↓] Go.wp_at_zero Go.wp_at_succ

theorem Try.info3 : (Try.prog.info? 3).map (fun i => (i.zero, i.size, i.bytes)) = some (some (.int .i64 0), 1, 8) := by kernel_rfl
theorem Try.info60 : (Try.prog.info? 60).map (fun i => (i.zero, i.size, i.bytes)) = some (some (.agg #[.int .i64 0, .int .u8 0]), 2, 16) := by kernel_rfl

/-- What a refusal leaves. -/
def Refused (w w' : World) (base : Nat) (t : Ids) (nT nG : Nat) (hA dA rA : Array Value) (x : Nat) : Prop :=
  ∃ k c m, Tab w' base t nT nG hA dA ((rA.setIfInBounds (x * 2) (.slice (some ⟨k, 0, none⟩) 1 c)).setIfInBounds (x * 2 + 1) m) ∧ Fr w w' (fun b => b = t.R)

theorem Tab.m_ne {w : World} {base : Nat} {t : Ids} {nT nG : Nat} {hA dA rA : Array Value} (h : Tab w base t nT nG hA dA rA) {k : Nat} {e : TypeId} {cs : Array Value} (hk : Row w k e cs) : t.M ≠ k := by
  rintro rfl
  have h1 := h.M
  unfold Row at hk
  rw [h1] at hk
  cases hk

theorem Tab.m_keep {w w' : World} {base : Nat} {t : Ids} {nT nG : Nat} {hA dA rA : Array Value} {S : Nat → Prop} (h : Tab w base t nT nG hA dA rA) (f : Fr w w' S) (hn : ¬ S t.M) : w'.heap[t.M]? = some (.map #[] 0) :=
  (f.block t.M (Array.getElem?_eq_some_iff.1 h.M).1 hn).trans h.M

theorem Tab.setR {w w' : World} {base : Nat} {t : Ids} {nT nG : Nat} {hA dA rA rA' : Array Value} (h : Tab w base t nT nG hA dA rA) (f : Fr w w' (fun b => b = t.R)) (hr : Row w' t.R 54 rA') (hs : rA'.size = nT * 2) : Tab w' base t nT nG hA dA rA' where
  L := h.L.keep f (h.L.ne h.R (by decide))
  H := h.H.keep f (h.H.ne h.R (by decide))
  Q := h.Q.keep f (h.Q.ne h.R (by decide))
  D := h.D.keep f (h.D.ne h.R (by decide))
  R := hr
  U := h.U.keep f (h.U.ne h.R (by decide))
  T := h.T.keep f (h.T.ne h.R (by decide))
  M := h.m_keep f (h.m_ne h.R)
  hq := h.hq
  sH := h.sH
  sD := h.sD
  sR := hs
  lo := h.lo
  bT := h.bT
  bG := h.bG

theorem refuse_fin {w W w1 : World} {base : Nat} {t : Ids} {nT nG : Nat} {hA dA rA : Array Value} (h : Tab W base t nT nG hA dA rA) (q : Quiet w W) {x : Nat} (gg cap : Nat) (m : Value) (hgrow : W.drew.grownBy w1 none) :
    (w1.cell? ⟨t.R, x * 2, none⟩ = rA[x * 2]? ∧ w1.cell? ⟨t.R, x * 2 + 1, none⟩ = rA[x * 2 + 1]? ∧ w1.frozen? ⟨t.R, x * 2, none⟩ = false ∧ w1.frozen? ⟨t.R, x * 2 + 1, none⟩ = false) ∧
    Refused w ((w1.setCell ⟨t.R, x * 2, none⟩ (.slice (some ⟨gg, 0, none⟩) 1 cap)).setCell ⟨t.R, x * 2 + 1, none⟩ m) base t nT nG hA dA rA x := by
  have qd : Quiet W W.drew := (Quiet.refl W).drew
  have q2 : Quiet W.drew w1 := Fr.mono (Fr.of_grown hgrow) (fun k _ e => by cases e)
  have q1 : Quiet W w1 := Quiet.trans qd q2
  have h1 := h.quiet q1
  refine ⟨⟨h1.R.cell _, h1.R.cell _, h1.R.frozen _, h1.R.frozen _⟩, gg, cap, m, ?_, ?_⟩
  · have f1 := Fr.setCell w1 ⟨t.R, x * 2, none⟩ (.slice (some ⟨gg, 0, none⟩) 1 cap)
    have f2 := Fr.setCell (w1.setCell ⟨t.R, x * 2, none⟩ (.slice (some ⟨gg, 0, none⟩) 1 cap)) ⟨t.R, x * 2 + 1, none⟩ m
    exact h1.setR (f1.trans f2) ((h1.R.set _ _).set _ _) (by simp [h1.sR])
  · have f1 := Fr.setCell w1 ⟨t.R, x * 2, none⟩ (.slice (some ⟨gg, 0, none⟩) 1 cap)
    have f2 := Fr.setCell (w1.setCell ⟨t.R, x * 2, none⟩ (.slice (some ⟨gg, 0, none⟩) 1 cap)) ⟨t.R, x * 2 + 1, none⟩ m
    exact Fr.trans (Fr.mono (Quiet.trans q q1) (fun _ _ f => f.elim)) (f1.trans f2)

set_option maxRecDepth 100000 in
set_option maxHeartbeats 3200000 in
theorem refuse_any {w : World} {base : Nat} {t : Ids} {nT nG : Nat} {hA dA rA : Array Value} (h : Tab w base t nT nG hA dA rA) {x : Nat} (hx : x < nT) (hr : rA[x * 2]? = some (.slice none 0 0)) (s g : Nat) (m : Int)
    (hs : w.cell? ⟨s, 0, none⟩ = some (.int .i64 g)) :
    Calls Try.prog 32 #[.pointer (some ⟨t.L, 0, none⟩), .int .i64 x, .agg #[.slice (some ⟨s, 0, none⟩) 1 1, .int .u8 m]] w fun e w' => e = .returned (.tuple #[]) ∧ Refused w w' base t nT nG hA dA rA x := by
  have q1 : Quiet w (w.alloc (.cells #[.slice (some ⟨s, 0, none⟩) 1 1, .int .u8 m] 54)) := (Quiet.refl _).alloc _
  have h' := h.quiet q1
  have c3 := h'.l3
  have cR : (w.alloc (.cells #[.slice (some ⟨s, 0, none⟩) 1 1, .int .u8 m] 54)).cell? ⟨t.R, x * 2, none⟩ = some (.slice none 0 0) := (h'.R.cell _).trans hr
  have cB0 : (w.alloc (.cells #[.slice (some ⟨s, 0, none⟩) 1 1, .int .u8 m] 54)).cell? ⟨w.heap.size, 0, none⟩ = some (.slice (some ⟨s, 0, none⟩) 1 1) := by simp
  have cB1 : (w.alloc (.cells #[.slice (some ⟨s, 0, none⟩) 1 1, .int .u8 m] 54)).cell? ⟨w.heap.size, 1, none⟩ = some (.int .u8 m) := by simp
  have hs' : (w.alloc (.cells #[.slice (some ⟨s, 0, none⟩) 1 1, .int .u8 m] 54)).cell? ⟨s, 0, none⟩ = some (.int .i64 g) := q1.cell hs
  obtain ⟨old, ho⟩ : ∃ old, rA[x * 2 + 1]? = some old := ⟨_, Array.getElem?_eq_getElem (by rw [h.sR]; omega)⟩
  have hR := h.R.lt
  have hsz : (w.alloc (.cells #[.slice (some ⟨s, 0, none⟩) 1 1, .int .u8 m] 54)).heap.size = w.heap.size + 1 := by simp
  have hlo : base ≤ w.heap.size := by have := h.lo.1; have := h.L.lt; omega
  obtain ⟨i0, hi0, hz0, hz1, hz2⟩ := info_parts Try.info3
  have b1 : (0 : Int) ≤ (x : Int) := by omega
  have b2 : (x : Int) < (nT : Int) := by omega
  go_enter Try.func32, Try.ntmps32
  go_wp2_with fail
  generalize w.alloc (.cells #[.slice (some ⟨s, 0, none⟩) 1 1, .int .u8 m] 54) = W at *
  have hne1 : w.heap.size ≠ t.R := by omega
  have hne2 : t.R ≠ w.heap.size := by omega
  have HS : Hid (W.heap.size = w.heap.size + 1) := hsz
  have HO : Hid (rA[x * 2 + 1]? = some old) := ho
  have HRR : Hid (rA[x * 2]? = some (.slice none 0 0)) := hr
  clear hsz hs h c3 ho hr
  go_region_law
    ((refine step_append_lies _ (by rfl) _ _ _ (by rfl) base 3 i0 _ 1 8 Try.underlying25 hi0 hz0 hz1 hz2 rfl (by omega) (.slice none 0 0) 0 [] (by rfl) (World.ownsRow_nil _ _ _ _)
        ⟨s, 0, none⟩ 1 1 [.int .i64 g] (by rfl) (by rfl) (by intro j u hj; match j, hj with | 0, hj => simp at hj; subst hj; exact hs') (by simp [Value.oneCell'])
        (by omega) (by unfold maxLen; omega) (by omega) (by show base ≤ W.heap.size; rw [HS.out]; omega) (w.heap.size + 1) (by exact HS.out) ?_; intro gg cap w1 hown1 hgrow hat hlt; have fin := refuse_fin (x := x) h' q1 gg cap (.int .u8 m) hgrow; have k1 := fin.1.1; have k2 := fin.1.2.1; have k3 := fin.1.2.2.1; have k4 := fin.1.2.2.2; rw [HRR.out] at k1; rw [HO.out] at k2; have k5 : w1.cell? ⟨w.heap.size, 1, none⟩ = some (.int .u8 m) := hgrow.cell cB1 (by simp [Value.ownBlock]); have FIN : Hid _ := fin.2; clear fin hgrow hown1 hat hlt))
  all_goals
    go_wp2
    go_end0
    exact ⟨rfl, FIN.out⟩

end Go.Proofs.Qxb6616109a.fnHoldsExclusiveHandOver
