import Derived.Test.Qxb6615985aRows
import Derived.WalkKit
import Derived.ProofKit
import Derived.OpenShut
import Derived.Below
namespace Go.Proofs.Qxb6615985a.fnSignFlipsWithNegatedFactors
open Go.ChangeShapes Go.WideShapes Go.ChangeAt Go.RowKit

def sgn (x : Int) : Int := if x = 0 then 0 else if x < 0 then -1 else 1

def negx (x : Int) : Int := if x = -9223372036854775808 then 9223372036854775807 else -x

theorem bytes_any (b : Int) (a : Option Addr) (len cap : Nat) (w : World) (h : len ≤ maxLen) :
    Calls Try.prog 4 #[.int .i64 b, .slice a len cap] w fun e w' => e = .returned (.bool (decide (len ≤ 1048576))) ∧ w' = w := by
  unfold maxLen at h
  by_cases h1 : len ≤ 1048576
  · go_enter Try.func4, Try.ntmps4
    go_wp2
    go_ret
    exact ⟨by simp [h1], rfl⟩
  · go_enter Try.func4, Try.ntmps4
    go_wp2
    go_ret
    exact ⟨by simp [h1], rfl⟩

theorem new_any (b : Int) (w : World) :
    Calls Try.prog 5 #[.int .i64 b] w fun e w' => e = .returned (.pointer (some ⟨w.heap.size, 0, none⟩)) ∧
      w' = w.alloc (.cells #[.slice none 0 0, .map none, .nilFunc, .pointer none, .int .i64 b, .slice none 0 0, .slice none 0 0, .pointer none] 39) := by
  go_enter Try.func5, Try.ntmps5
  go_wp2
  go_ret
  exact ⟨rfl, rfl⟩

theorem neg_any (x : Int) (w : World) (h1 : -9223372036854775808 ≤ x) (h2 : x ≤ 9223372036854775807) :
    Calls Try.prog 7 #[.int .i64 x] w fun e w' => e = .returned (.int .i64 (negx x)) ∧ w' = w := by
  by_cases h : x = -9223372036854775808
  · have e : negx x = 9223372036854775807 := by simp [negx, h]
    rw [e]
    have hb : (x == -9223372036854775808) = true := by simpa using h
    clear h
    go_enter Try.func7, Try.ntmps7
    go_wp2
    go_ret
    exact ⟨rfl, rfl⟩
  · have e : negx x = -x := by simp [negx, h]
    rw [e]
    have hb : (x == -9223372036854775808) = false := by simpa using h
    go_enter Try.func7, Try.ntmps7
    go_wp2
    go_ret
    exact ⟨rfl, rfl⟩


/-- An Int of math-big at block p that has the sign of x. -/
def IsInt (w : World) (p : Nat) (x : Int) : Prop :=
  p < w.heap.size ∧ ∃ ad l c, w.cell? ⟨p, 0, none⟩ = some (.bool (decide (x < 0))) ∧ w.cell? ⟨p, 1, none⟩ = some (.slice ad l c) ∧ (((l : Nat) : Int) == 0) = (x == 0)

theorem newint_any (x : Int) (w : World) :
    Calls Try.prog 10 #[.int .i64 x] w fun e w' => ∃ p, e = .returned (.pointer (some ⟨p, 0, none⟩)) ∧ w.heap.size ≤ p ∧ IsInt w' p x ∧ w.grownBy w' none := by
  by_cases h0 : x = 0
  · subst h0
    go_enter Try.func10, Try.ntmps10
    go_wp2
    go_ret
    refine ⟨w.heap.size, rfl, Nat.le_refl _, ⟨by simp, none, 0, 0, ?_, ?_, rfl⟩, World.grownBy_alloc _ _ _⟩
    · simp
    · simp
  · have hb : (x == 0) = false := by simpa using h0
    by_cases hn : x < 0
    · go_enter Try.func10, Try.ntmps10
      go_wp2
      go_ret
      refine ⟨w.heap.size + 1, rfl, by omega, ⟨by simp, some ⟨w.heap.size, 0, none⟩, 1, 1, ?_, ?_, ?_⟩, ?_⟩
      · simp [hn]
      · simp
      · rw [hb]; rfl
      · exact ⟨rfl, rfl, rfl, by simp; omega, fun k hk _ => by rw [Below.heap_alloc _ _ _ (by simp; omega), Below.heap_alloc _ _ _ hk]⟩
    · go_enter Try.func10, Try.ntmps10
      go_wp2
      go_ret
      refine ⟨w.heap.size + 1, rfl, by omega, ⟨by simp, some ⟨w.heap.size, 0, none⟩, 1, 1, ?_, ?_, ?_⟩, ?_⟩
      · simp [hn]
      · simp
      · rw [hb]; rfl
      · exact ⟨rfl, rfl, rfl, by simp; omega, fun k hk _ => by rw [Below.heap_alloc _ _ _ (by simp; omega), Below.heap_alloc _ _ _ hk]⟩

theorem bsign_any (p : Nat) (x : Int) (w : World) (h : IsInt w p x) :
    Calls Try.prog 12 #[.pointer (some ⟨p, 0, none⟩)] w fun e w' => e = .returned (.int .i64 (sgn x)) ∧ w' = w := by
  obtain ⟨_, ad, l, c, h1, h2, h3⟩ := h
  by_cases h0 : x = 0
  · have hb : ((l : Int) == 0) = true := by rw [h3]; simpa using h0
    have e : sgn x = 0 := by simp [sgn, h0]
    rw [e]
    clear h3 h0
    go_enter Try.func12, Try.ntmps12
    go_wp2
    go_ret
    exact ⟨rfl, rfl⟩
  · have hb : ((l : Int) == 0) = false := by rw [h3]; simpa using h0
    by_cases hn : x < 0
    · have e : sgn x = -1 := by simp [sgn, h0, hn]
      rw [e]
      clear h3 h0
      go_enter Try.func12, Try.ntmps12
      go_wp2
      go_ret
      exact ⟨rfl, rfl⟩
    · have e : sgn x = 1 := by simp [sgn, h0, hn]
      rw [e]
      clear h3 h0
      go_enter Try.func12, Try.ntmps12
      go_wp2
      go_ret
      exact ⟨rfl, rfl⟩

end Go.Proofs.Qxb6615985a.fnSignFlipsWithNegatedFactors
