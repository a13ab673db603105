import Derived.Test.Qxb6616109aHold
import Derived.Test.Qxb6616109aBatch
import Derived.Deep.RegionHeld3
import Derived.Deep.DrawnRows
namespace Go.Proofs.Qxb6616109a.fnHoldsExclusiveHandOver
open Go.ChangeShapes Go.WideShapes Go.ChangeAt Go.RowKit
set_option linter.unusedSimpArgs false
set_option linter.unusedVariables false
attribute [local go_sem ↓] Go.wp_at_zero Go.wp_at_succ

theorem takeA {P : Program} {ops : Array Oper} {Q : Exit → Act → World → Prop} {md : Region.Mode} (i : Nat) (d : Option Nat) (v : Value) {oi : Oper} {fuel : Nat} {listed : Array Bool} {a : Act} {w : World} (hi : ops[i]? = some oi) (hd : oi.dst = d)
    (hs : Region.noSelect ops = true) (hf : Region.free md ops listed i = true) (hr : (Region.ready md ops listed).contains i = true)
    (hQ : ∀ c a w, Q (.panic c) (a.put d v) w → Q (.panic c) a w) (hwt : Region.wanted oi (yielded ops a.tmps) = true) (hy : ∀ w, (execOp a.eval oi).run P w = .ok (.value v) w)
    (h : wpAny P md ops Q fuel (listed.setIfInBounds i true) (a.put d v) w) : wpAny P md ops Q (fuel + 1) listed a w := by
  subst hd
  exact wpAny_take hi hs hf hr hQ (Or.inl ⟨hwt, hy⟩) h

def tmps0 (nT nG : Nat) (f : Fin 8 → Value) : Array Value :=
  #[.int .i64 nT, .int .i64 nG, undef, undef, .pointer none, undef, undef, .int .i64 nG, f 0, .int .i64 nG, f 1, .int .i64 nT, f 2, .int .i64 nT, f 3, .int .i64 nT, f 4, .int .i64 nT, f 5, .int .i64 nT, f 6, f 7,
    undef, undef, undef, undef, undef, undef, undef, undef, undef, undef, undef, undef, undef, undef, undef, undef, undef, undef]

def lst0 (L : Fin 8 → Bool) : Array Bool := #[true, L 0, true, L 1, true, L 2, true, L 3, true, L 4, true, L 5, true, L 6, L 7, false, false, false]

/-- The operations of a region, by its number. -/
def opsOf : Code → Nat → Array Oper
  | .seq c d, n => if (opsOf c n).isEmpty then opsOf d n else opsOf c n
  | .region i ops _, n => if i = n then ops else #[]
  | _, _ => #[]

def idx0 : Fin 8 → Nat := fun i => #[1, 3, 5, 7, 9, 11, 13, 14].getD i.val 0
def dst0 : Fin 8 → Nat := fun i => #[8, 10, 12, 14, 16, 18, 20, 21].getD i.val 0

def mk8 (a b c d e f g h : Bool) : Fin 8 → Bool := fun i => #[a, b, c, d, e, f, g, h].getD i.val false

def pend0 (L : Fin 8 → Bool) : List Nat := (List.finRange 8).filterMap fun i => if L i then none else some (idx0 i)

theorem ready_key : ∀ a b c d e f g h : Bool, Region.ready .any (opsOf (Try.f6.body.getD .skip) 1) (lst0 (mk8 a b c d e f g h)) = pend0 (mk8 a b c d e f g h) ++ (if a && b && c && d && e && f && g && h then [15] else []) := by
  decide +kernel

theorem mk8_eta (L : Fin 8 → Bool) : L = mk8 (L 0) (L 1) (L 2) (L 3) (L 4) (L 5) (L 6) (L 7) := by
  funext i
  match i with
  | 0 => rfl
  | 1 => rfl
  | 2 => rfl
  | 3 => rfl
  | 4 => rfl
  | 5 => rfl
  | 6 => rfl
  | 7 => rfl

theorem ready0 (L : Fin 8 → Bool) (hex : ∃ i, L i = false) (j : Nat) : j ∈ Region.ready .any (opsOf (Try.f6.body.getD .skip) 1) (lst0 L) ↔ ∃ i, L i = false ∧ j = idx0 i := by
  have hk := ready_key (L 0) (L 1) (L 2) (L 3) (L 4) (L 5) (L 6) (L 7)
  rw [← mk8_eta L] at hk
  have hno : (L 0 && L 1 && L 2 && L 3 && L 4 && L 5 && L 6 && L 7) = false := by
    obtain ⟨i, hi⟩ := hex
    match i, hi with
    | 0, hi => simp [hi]
    | 1, hi => simp [hi]
    | 2, hi => simp [hi]
    | 3, hi => simp [hi]
    | 4, hi => simp [hi]
    | 5, hi => simp [hi]
    | 6, hi => simp [hi]
    | 7, hi => simp [hi]
  rw [hk, hno]
  simp only [Bool.false_eq_true, if_false, List.append_nil, pend0, List.mem_filterMap, List.mem_finRange, true_and]
  constructor
  · rintro ⟨i, hi⟩
    cases h : L i with
    | true => rw [h] at hi; simp at hi
    | false => rw [h] at hi; simp at hi; exact ⟨i, h, hi.symm⟩
  · rintro ⟨i, hi, rfl⟩
    exact ⟨i, by rw [hi]; simp⟩

end Go.Proofs.Qxb6616109a.fnHoldsExclusiveHandOver
