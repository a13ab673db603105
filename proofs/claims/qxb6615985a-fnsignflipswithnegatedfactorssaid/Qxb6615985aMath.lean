import Derived.Test.Qxb6615985aLeaf
namespace Go.Proofs.Qxb6615985a.fnSignFlipsWithNegatedFactors

def fA (s : Int) (zs : List Int) : Nat → Int
  | 0 => s
  | k + 1 => fA s zs k * sgn (zs.getD k 0)

def fB (s : Int) (zs : List Int) : Nat → Int
  | 0 => -s
  | k + 1 => fB s zs k * sgn (negx (zs.getD k 0))

def zTo (s : Int) (zs : List Int) : Nat → Bool
  | 0 => s == 0
  | k + 1 => if zs.getD k 0 = 0 then true else zTo s zs k

def nTo (s : Int) (zs : List Int) : Nat → Bool
  | 0 => decide (s < 0)
  | k + 1 => if zs.getD k 0 = 0 then nTo s zs k else if zs.getD k 0 < 0 then !nTo s zs k else nTo s zs k

def wantI (z n : Bool) : Int := if z then 0 else if n then -1 else 1

theorem sgn_negx (x : Int) : sgn (negx x) = - sgn x := by
  unfold sgn negx
  by_cases h : x = -9223372036854775808
  · subst h; rfl
  · rw [if_neg h]
    by_cases h0 : x = 0
    · subst h0; rfl
    · by_cases hn : x < 0
      · rw [if_neg (by omega), if_neg (by omega), if_neg h0, if_pos hn]; rfl
      · rw [if_neg (by omega), if_pos (by omega), if_neg h0, if_neg hn]

theorem fA_want (s : Int) (zs : List Int) (h : s = -1 ∨ s = 0 ∨ s = 1) (k : Nat) : fA s zs k = wantI (zTo s zs k) (nTo s zs k) := by
  induction k with
  | zero => rcases h with h | h | h <;> subst h <;> rfl
  | succ k ih =>
    simp only [fA, zTo, nTo, ih]
    by_cases h0 : zs.getD k 0 = 0
    · simp only [h0, if_true]; simp [sgn, wantI]
    · by_cases hn : zs.getD k 0 < 0
      · simp only [h0, if_false, hn, if_true, sgn]
        cases zTo s zs k <;> cases nTo s zs k <;> rfl
      · simp only [h0, if_false, hn, sgn]
        cases zTo s zs k <;> cases nTo s zs k <;> rfl

theorem fB_eq (s : Int) (zs : List Int) (k : Nat) : fB s zs k = if k % 2 = 1 then fA s zs k else - fA s zs k := by
  induction k with
  | zero => rfl
  | succ k ih =>
    simp only [fA, fB, ih, sgn_negx]
    by_cases h : k % 2 = 1
    · rw [if_pos h, if_neg (by omega), Int.mul_neg]
    · rw [if_neg h, if_pos (by omega), Int.neg_mul_neg]

theorem want_bd (z n : Bool) : -1 ≤ wantI z n ∧ wantI z n ≤ 1 := by cases z <;> cases n <;> decide

theorem fA_bd (s : Int) (zs : List Int) (h : s = -1 ∨ s = 0 ∨ s = 1) (k : Nat) : -1 ≤ fA s zs k ∧ fA s zs k ≤ 1 := by
  rw [fA_want s zs h]; exact want_bd _ _

theorem fB_bd (s : Int) (zs : List Int) (h : s = -1 ∨ s = 0 ∨ s = 1) (k : Nat) : -1 ≤ fB s zs k ∧ fB s zs k ≤ 1 := by
  rw [fB_eq]; have := fA_bd s zs h k; split <;> omega

end Go.Proofs.Qxb6615985a.fnSignFlipsWithNegatedFactors
