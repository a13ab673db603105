import Derived.Test.Qxb6616109aRows
import Derived.WalkKit
import Derived.Deep.RegionHeld3
import Derived.Deep.AppendLies
namespace Go.Proofs.Qxb6616109a.fnHoldsExclusiveHandOver
open Go.RowKit

section
variable {P : Program} {ops : Array Oper} {Q : Exit → Act → World → Prop} {md : Region.Mode} {S : World → Prop}

/-- 'wpAnyH_take' with the slot written out. -/
theorem takeH (i : Nat) (d : Option Nat) (v : Value) {oi : Oper} {fuel : Nat} {listed : Array Bool} {a : Act} {w : World} (hi : ops[i]? = some oi) (hd : oi.dst = d)
    (hs : Region.noSelect ops = true) (hf : Region.free md ops listed i = true) (hr : (Region.ready md ops listed).contains i = true)
    (hQ : ∀ c a w, Q (.panic c) (a.put d v) w → Q (.panic c) a w) (hwt : Region.wanted oi (yielded ops a.tmps) = true) (hy : ∀ w, S w → (execOp a.eval oi).run P w = .ok (.value v) w) (hS : S w)
    (h : wpAnyH P md ops Q S fuel (listed.setIfInBounds i true) (a.put d v) w) : wpAnyH P md ops Q S (fuel + 1) listed a w := by
  subst hd
  exact wpAnyH_take hi hs hf hr hQ (Or.inl ⟨hwt, hy⟩) hS h

/-- One of those that may come up, carried out: it yields a value. -/
theorem runOpH (i : Nat) (d : Option Nat) (v : Value) (w' : World) {oi : Oper} {fuel : Nat} {listed : Array Bool} {a : Act} {w : World} (hi : ops[i]? = some oi) (hd : oi.dst = d) (hg : oi.guard = none)
    (hrun : (execOp a.eval oi).run P w = .ok (.value v) w') (hS : S w') (h : wpAnyH P md ops Q S fuel (listed.setIfInBounds i true) (a.put d v) w') :
    wpOp P ops Q i (fun a' w' => S w' ∧ wpAnyH P md ops Q S fuel (listed.setIfInBounds i true) a' w') a w := by
  subst hd
  unfold wpOp
  simp only [hi, Region.wanted, hg, if_true]
  refine .inl ?_
  unfold Oper.wp
  rw [hrun]
  exact ⟨hS, h⟩

/-- .. it yields nothing (a store). -/
theorem skipOpH (i : Nat) (d : Option Nat) (w' : World) {oi : Oper} {fuel : Nat} {listed : Array Bool} {a : Act} {w : World} (hi : ops[i]? = some oi) (hd : oi.dst = d) (hg : oi.guard = none)
    (hrun : (execOp a.eval oi).run P w = .ok .skip w') (hS : S w') (h : wpAnyH P md ops Q S fuel (listed.setIfInBounds i true) (a.put d undef) w') :
    wpOp P ops Q i (fun a' w' => S w' ∧ wpAnyH P md ops Q S fuel (listed.setIfInBounds i true) a' w') a w := by
  subst hd
  unfold wpOp
  simp only [hi, Region.wanted, hg, if_true]
  refine .inl ?_
  unfold Oper.wp
  rw [hrun]
  exact ⟨hS, h⟩

/-- .. by a law on the operation. -/
theorem opH (i : Nat) (d : Option Nat) {oi : Oper} {fuel : Nat} {listed : Array Bool} {a : Act} {w : World} (hi : ops[i]? = some oi) (hd : oi.dst = d) (hg : oi.guard = none)
    (h : ∀ K : Act → World → Prop, (∀ v w', S w' → wpAnyH P md ops Q S fuel (listed.setIfInBounds i true) (a.put d v) w' → K (a.put oi.dst v) w') → Oper.wp P oi a w K Q) :
    wpOp P ops Q i (fun a' w' => S w' ∧ wpAnyH P md ops Q S fuel (listed.setIfInBounds i true) a' w') a w := by
  subst hd
  unfold wpOp
  simp only [hi, Region.wanted, hg, if_true]
  exact .inl (h _ (fun v w' hS hh => ⟨hS, hh⟩))

/-- One alone may come up. -/
theorem oneH (i : Nat) {fuel : Nat} {listed : Array Bool} {a : Act} {w : World} (hr : Region.ready md ops listed = [i])
    (h : wpOp P ops Q i (fun a' w' => S w' ∧ wpAnyH P md ops Q S fuel (listed.setIfInBounds i true) a' w') a w) : wpAnyH P md ops Q S (fuel + 1) listed a w :=
  wpAnyH_all hr (by simp) (fun j hj => by rw [List.mem_singleton] at hj; subst hj; exact h)

/-- Two may come up. -/
theorem twoH (i j : Nat) {fuel : Nat} {listed : Array Bool} {a : Act} {w : World} (hr : Region.ready md ops listed = [i, j])
    (h : wpOp P ops Q i (fun a' w' => S w' ∧ wpAnyH P md ops Q S fuel (listed.setIfInBounds i true) a' w') a w)
    (h' : wpOp P ops Q j (fun a' w' => S w' ∧ wpAnyH P md ops Q S fuel (listed.setIfInBounds j true) a' w') a w) : wpAnyH P md ops Q S (fuel + 1) listed a w :=
  wpAnyH_all hr (by simp) (fun k hk => by
    rcases List.mem_cons.1 hk with rfl | hk
    · exact h
    · rw [List.mem_singleton] at hk; subst hk; exact h')

end
end Go.Proofs.Qxb6616109a.fnHoldsExclusiveHandOver
