import Derived.Test.Qxb6616109aIdx
import Derived.BigQuiet
import Derived.Deep.QuietTactic
namespace Go.Proofs.Qxb6616109a.fnHoldsExclusiveHandOver
open Go.ChangeShapes Go.WideShapes Go.ChangeAt Go.RowKit

structure Ids where
  L : Nat
  H : Nat
  Q : Nat
  D : Nat
  R : Nat
  U : Nat
  X : Nat
  T : Nat
  M : Nat

/-- The table's own fifteen cells. -/
def lrow (t : Ids) (nT nG : Nat) : Array Value :=
  #[.slice (some ⟨t.H, 0, none⟩) nG nG, .slice (some ⟨t.Q, 0, none⟩) nG nG, .slice (some ⟨t.D, 0, none⟩) nT nT, .slice (some ⟨t.R, 0, none⟩) nT nT, .slice (some ⟨t.U, 0, none⟩) nT nT,
    .nilFunc, .slice (some ⟨t.X, 0, none⟩) nT nT, .slice (some ⟨t.T, 0, none⟩) nT nT, .map (some t.M), .int .u64 0, .slice none 0 0, .slice none 0 0, .slice none 0 0, .slice none 0 0, .slice none 0 0]

/-- The lock table: what it holds. -/
structure Tab (w : World) (base : Nat) (t : Ids) (nT nG : Nat) (hA dA rA : Array Value) : Prop where
  L : Row w t.L 51 (lrow t nT nG)
  H : Row w t.H 57 hA
  Q : Row w t.Q 57 (Array.replicate nG (.slice none 0 0))
  D : Row w t.D 25 dA
  R : Row w t.R 54 rA
  U : Row w t.U 3 (Array.replicate nT (.int .i64 (-1)))
  T : Row w t.T 47 (Array.replicate nT (.int .u64 0))
  M : w.heap[t.M]? = some (.map #[] 0)
  hq : t.H ≠ t.Q
  sH : hA.size = nG
  sD : dA.size = nT
  sR : rA.size = nT * 2
  lo : base ≤ t.L ∧ base ≤ t.H ∧ base ≤ t.D ∧ base ≤ t.R
  bT : nT ≤ 65536
  bG : nG ≤ 65536

theorem Quiet.drewN {a w : World} (h : Quiet a w) (n : Nat) : Quiet a (w.drewN n) := Fr.trans h ⟨rfl, rfl, rfl, Nat.le_refl _, fun _ _ _ => rfl⟩

theorem Hs.keep {w w' : World} {base : Nat} {v : Value} {hs : List (Int × Int)} {S : Nat → Prop} (h : Hs w base v hs) (hf : Fr w w' S) (hv : ∀ k, v.ownBlock = some k → ¬ S k) : Hs w' base v hs := by
  refine ⟨h.1, ?_⟩
  rcases h.2 with hn | ⟨g, cap, cur, rfl, hb, hgg, rest⟩
  · exact .inl hn
  · refine .inr ⟨g, cap, cur, rfl, hb, ?_, rest⟩
    rw [hf.block g (Array.getElem?_eq_some_iff.1 hgg).1 (hv g rfl)]
    exact hgg
theorem Hs.quiet {w w' : World} {base : Nat} {v : Value} {hs : List (Int × Int)} (h : Hs w base v hs) (hq : Quiet w w') : Hs w' base v hs := h.keep hq (fun _ _ f => f)

theorem Tab.quiet {w w' : World} {base : Nat} {t : Ids} {nT nG : Nat} {hA dA rA : Array Value} (h : Tab w base t nT nG hA dA rA) (q : Quiet w w') : Tab w' base t nT nG hA dA rA :=
  { h with L := h.L.quiet q, H := h.H.quiet q, Q := h.Q.quiet q, D := h.D.quiet q, R := h.R.quiet q, U := h.U.quiet q, T := h.T.quiet q,
           M := (Fr.block q t.M (Array.getElem?_eq_some_iff.1 h.M).1 (fun f => f)).trans h.M }

theorem Tab.l0 {w : World} {base : Nat} {t : Ids} {nT nG : Nat} {hA dA rA : Array Value} (h : Tab w base t nT nG hA dA rA) : w.cell? ⟨t.L, 0, none⟩ = some (.slice (some ⟨t.H, 0, none⟩) nG nG) := (h.L.cell 0).trans rfl
theorem Tab.l1 {w : World} {base : Nat} {t : Ids} {nT nG : Nat} {hA dA rA : Array Value} (h : Tab w base t nT nG hA dA rA) : w.cell? ⟨t.L, 1, none⟩ = some (.slice (some ⟨t.Q, 0, none⟩) nG nG) := (h.L.cell 1).trans rfl
theorem Tab.l2 {w : World} {base : Nat} {t : Ids} {nT nG : Nat} {hA dA rA : Array Value} (h : Tab w base t nT nG hA dA rA) : w.cell? ⟨t.L, 2, none⟩ = some (.slice (some ⟨t.D, 0, none⟩) nT nT) := (h.L.cell 2).trans rfl
theorem Tab.l3 {w : World} {base : Nat} {t : Ids} {nT nG : Nat} {hA dA rA : Array Value} (h : Tab w base t nT nG hA dA rA) : w.cell? ⟨t.L, 3, none⟩ = some (.slice (some ⟨t.R, 0, none⟩) nT nT) := (h.L.cell 3).trans rfl
theorem Tab.l4 {w : World} {base : Nat} {t : Ids} {nT nG : Nat} {hA dA rA : Array Value} (h : Tab w base t nT nG hA dA rA) : w.cell? ⟨t.L, 4, none⟩ = some (.slice (some ⟨t.U, 0, none⟩) nT nT) := (h.L.cell 4).trans rfl
theorem Tab.l5 {w : World} {base : Nat} {t : Ids} {nT nG : Nat} {hA dA rA : Array Value} (h : Tab w base t nT nG hA dA rA) : w.cell? ⟨t.L, 5, none⟩ = some .nilFunc := (h.L.cell 5).trans rfl
theorem Tab.l7 {w : World} {base : Nat} {t : Ids} {nT nG : Nat} {hA dA rA : Array Value} (h : Tab w base t nT nG hA dA rA) : w.cell? ⟨t.L, 7, none⟩ = some (.slice (some ⟨t.T, 0, none⟩) nT nT) := (h.L.cell 7).trans rfl
theorem Tab.l8 {w : World} {base : Nat} {t : Ids} {nT nG : Nat} {hA dA rA : Array Value} (h : Tab w base t nT nG hA dA rA) : w.cell? ⟨t.L, 8, none⟩ = some (.map (some t.M)) := (h.L.cell 8).trans rfl
theorem Tab.l10 {w : World} {base : Nat} {t : Ids} {nT nG : Nat} {hA dA rA : Array Value} (h : Tab w base t nT nG hA dA rA) : w.cell? ⟨t.L, 10, none⟩ = some (.slice none 0 0) := (h.L.cell 10).trans rfl
theorem Tab.q {w : World} {base : Nat} {t : Ids} {nT nG : Nat} {hA dA rA : Array Value} (h : Tab w base t nT nG hA dA rA) {g : Nat} (hg : g < nG) : w.cell? ⟨t.Q, g, none⟩ = some (.slice none 0 0) := (h.Q.cell g).trans (by simp [hg])
theorem Tab.u {w : World} {base : Nat} {t : Ids} {nT nG : Nat} {hA dA rA : Array Value} (h : Tab w base t nT nG hA dA rA) {g : Nat} (hg : g < nT) : w.cell? ⟨t.U, g, none⟩ = some (.int .i64 (-1)) := (h.U.cell g).trans (by simp [hg])
theorem Tab.tt {w : World} {base : Nat} {t : Ids} {nT nG : Nat} {hA dA rA : Array Value} (h : Tab w base t nT nG hA dA rA) {g : Nat} (hg : g < nT) : w.cell? ⟨t.T, g, none⟩ = some (.int .u64 0) := (h.T.cell g).trans (by simp [hg])

theorem holds_any {w : World} {base : Nat} {t : Ids} {nT nG : Nat} {hA dA rA : Array Value} (h : Tab w base t nT nG hA dA rA) {g : Nat} (hg : g < nG) {v : Value} (hv : hA[g]? = some v) {hs : List (Int × Int)} (hh : Hs w base v hs) (hl : hs.length ≤ 1000) (tx : Int) :
    Calls Try.prog 19 #[.pointer (some ⟨t.L, 0, none⟩), .int .i64 tx, .int .i64 g] w fun e w' => e = .returned (.bool (hasB hs tx)) ∧ Quiet w w' := by
  have q1 : Quiet w (w.alloc (.cells #[.int .i64 tx] 3)) := (Quiet.refl _).alloc _
  have c0 := (h.quiet q1).l0
  have c1 : (w.alloc (.cells #[.int .i64 tx] 3)).cell? ⟨t.H, g, none⟩ = some v := ((h.quiet q1).H.cell g).trans hv
  have hh' := hh.quiet q1
  obtain ⟨ao, c, rfl, _⟩ := hh.form
  go_enter Try.func19, Try.ntmps19
  go_wp2_with fail
  refine (contains_any hh' tx w.heap.size (by simp) hl).mono ?_
  rintro e w1 ⟨rfl, hq1⟩
  go_wp2
  go_ret
  exact ⟨rfl, q1.trans hq1⟩

theorem zzholds_any {w : World} {base : Nat} {t : Ids} {nT nG : Nat} {hA dA rA : Array Value} (h : Tab w base t nT nG hA dA rA) {g : Nat} (hg : g < nG) {v : Value} (hv : hA[g]? = some v) {hs : List (Int × Int)} (hh : Hs w base v hs) (hl : hs.length ≤ 1000) (tx : Int) :
    Calls Try.prog 8 #[.pointer (some ⟨t.L, 0, none⟩), .int .i64 tx, .int .i64 g] w fun e w' => e = .returned (.bool (hasB hs tx)) ∧ Quiet w w' := by
  go_enter Try.func8, Try.ntmps8
  go_wp2_with fail
  refine (holds_any h hg hv hh hl tx).mono ?_
  rintro e w1 ⟨rfl, hq1⟩
  go_wp2
  go_ret
  exact ⟨rfl, hq1⟩

theorem drop_any {w : World} {base : Nat} {t : Ids} {nT nG : Nat} {hA dA rA : Array Value} (h : Tab w base t nT nG hA dA rA) {x : Nat} (hx : x < nT) :
    Calls Try.prog 30 #[.pointer (some ⟨t.L, 0, none⟩), .int .i64 x] w fun e w' => e = .returned (.tuple #[]) ∧ Quiet w w' := by
  have q1 : Quiet w (w.alloc (.cells #[.int .i64 x] 3)) := (Quiet.refl _).alloc _
  have c7 := (h.quiet q1).l7
  have ct := (h.quiet q1).tt hx
  have b1 : (0 : Int) ≤ (x : Int) := by omega
  have b2 : (x : Int) < (nT : Int) := by omega
  go_enter Try.func30, Try.ntmps30
  go_wp2_with fail
  go_quiet (fail)
  go_wp2
  refine bodyPost_ret (results_none rfl _ _ _) rfl ?_
  exact ⟨rfl, q1.drewN _⟩

end Go.Proofs.Qxb6616109a.fnHoldsExclusiveHandOver
