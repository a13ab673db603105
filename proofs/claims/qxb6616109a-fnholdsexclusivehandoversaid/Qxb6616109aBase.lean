import Derived.Test.Qxb6616109aRows
import Derived.WalkKit
import Derived.ProofKit
import Derived.OpenShut
import Derived.Below
namespace Go.Proofs.Qxb6616109a.fnHoldsExclusiveHandOver
open Go.ChangeShapes Go.WideShapes Go.ChangeAt Go.RowKit

/-- Every block that was there, but for those of S, is as it was. -/
structure Fr (w w' : World) (S : Nat → Prop) : Prop where
  os : w'.os = w.os
  tape : w'.tape = w.tape
  output : w'.output = w.output
  size : w.heap.size ≤ w'.heap.size
  block : ∀ k, k < w.heap.size → ¬ S k → w'.heap[k]? = w.heap[k]?

theorem Fr.of_grown {w w' : World} {r : Option Nat} (h : w.grownBy w' r) : Fr w w' (fun k => some k = r) := ⟨h.os, h.tape, h.output, h.size, fun k hk hn => h.block k hk hn⟩
theorem Fr.mono {w w' : World} {S T : Nat → Prop} (h : Fr w w' S) (hs : ∀ k, k < w.heap.size → S k → T k) : Fr w w' T := ⟨h.os, h.tape, h.output, h.size, fun k hk hn => h.block k hk (fun hh => hn (hs k hk hh))⟩
theorem Fr.trans {a b c : World} {S : Nat → Prop} (h : Fr a b S) (k : Fr b c S) : Fr a c S :=
  ⟨k.os.trans h.os, k.tape.trans h.tape, k.output.trans h.output, Nat.le_trans h.size k.size, fun i hi hn => (k.block i (Nat.lt_of_lt_of_le hi h.size) hn).trans (h.block i hi hn)⟩
theorem Fr.refl (w : World) (S : Nat → Prop) : Fr w w S := ⟨rfl, rfl, rfl, Nat.le_refl _, fun _ _ _ => rfl⟩
theorem Fr.setCell (w : World) (a : Addr) (u : Value) : Fr w (w.setCell a u) (fun k => k = a.block) :=
  ⟨rfl, rfl, rfl, by simp [World.setCell], fun k _ hn => Below.heap_setCell _ _ _ _ hn⟩
theorem Fr.alloc (w : World) (o : Obj) : Fr w (w.alloc o) (fun _ => False) := ⟨rfl, rfl, rfl, by simp, fun k hk _ => Below.heap_alloc _ _ _ hk⟩
theorem Fr.drew {a w : World} {S : Nat → Prop} (h : Fr a w S) : Fr a w.drew S := ⟨h.os, h.tape, h.output, h.size, h.block⟩

/-- Only new blocks. -/
def Quiet (w w' : World) : Prop := Fr w w' (fun _ => False)
theorem Quiet.refl (w : World) : Quiet w w := Fr.refl _ _
theorem Quiet.trans {a b c : World} (h : Quiet a b) (k : Quiet b c) : Quiet a c := Fr.trans h k
theorem Quiet.alloc {a w : World} (h : Quiet a w) (o : Obj) : Quiet a (w.alloc o) := Fr.trans h (Fr.alloc w o)
theorem Quiet.drew {a w : World} (h : Quiet a w) : Quiet a w.drew := Fr.drew h
theorem Quiet.size {w w' : World} (h : Quiet w w') : w.heap.size ≤ w'.heap.size := Fr.size h
theorem Quiet.cell {w w' : World} (h : Quiet w w') {a : Addr} {v : Value} (hc : w.cell? a = some v) : w'.cell? a = some v := by
  rw [World.cell?_of_block (w := w) (Fr.block h a.block (World.block_lt_of_cell? w a hc) (fun f => f))]; exact hc

/-- Block k holds the cells cs of type e, none frozen. -/
def Row (w : World) (k : Nat) (e : TypeId) (cs : Array Value) : Prop := w.heap[k]? = some (.cells cs e (0, 0))
theorem Row.lt {w : World} {k : Nat} {e : TypeId} {cs : Array Value} (h : Row w k e cs) : k < w.heap.size := (Array.getElem?_eq_some_iff.1 h).1
theorem Row.cell {w : World} {k : Nat} {e : TypeId} {cs : Array Value} (h : Row w k e cs) (j : Nat) : w.cell? ⟨k, j, none⟩ = cs[j]? := cell_of_row w k j cs e (0, 0) h
theorem Row.frozen {w : World} {k : Nat} {e : TypeId} {cs : Array Value} (h : Row w k e cs) (j : Nat) : w.frozen? ⟨k, j, none⟩ = false := frozen_of_row w k j cs e h
theorem Row.keep {w w' : World} {k : Nat} {e : TypeId} {cs : Array Value} {S : Nat → Prop} (h : Row w k e cs) (hf : Fr w w' S) (hn : ¬ S k) : Row w' k e cs := (hf.block k h.lt hn).trans h
theorem Row.quiet {w w' : World} {k : Nat} {e : TypeId} {cs : Array Value} (h : Row w k e cs) (hf : Quiet w w') : Row w' k e cs := h.keep hf (fun f => f)
theorem Row.set {w : World} {k : Nat} {e : TypeId} {cs : Array Value} (h : Row w k e cs) (j : Nat) (v : Value) : Row (w.setCell ⟨k, j, none⟩ v) k e (cs.setIfInBounds j v) := heap_setCell_same w k j cs e v h
theorem Row.ne {w : World} {k k' : Nat} {e e' : TypeId} {cs cs' : Array Value} (h : Row w k e cs) (h' : Row w k' e' cs') (hn : e ≠ e') : k ≠ k' := by
  rintro rfl
  unfold Row at h h'
  rw [h] at h'
  simp at h'
  exact hn h'.2

/-- A holder's two cells, a list of holders. -/
def hcells (hs : List (Int × Int)) : List Value := hs.flatMap fun h => [.int .i64 h.1, .int .u8 h.2]

theorem hcells_length (hs : List (Int × Int)) : (hcells hs).length = hs.length * 2 := by
  induction hs with
  | nil => rfl
  | cons h t ih => simp only [hcells, List.flatMap_cons, List.length_append, List.length_cons, List.length_nil] at ih ⊢; omega

theorem hcells_get (hs : List (Int × Int)) (k : Nat) (hk : k < hs.length) : (hcells hs)[k * 2]? = some (.int .i64 hs[k].1) ∧ (hcells hs)[k * 2 + 1]? = some (.int .u8 hs[k].2) := by
  induction hs generalizing k with
  | nil => simp at hk
  | cons h t ih =>
    cases k with
    | zero => simp [hcells]
    | succ k =>
      have := ih k (by simpa using hk)
      have e1 : (k + 1) * 2 = k * 2 + 1 + 1 := by omega
      simp only [hcells, List.flatMap_cons, e1, List.cons_append, List.nil_append, List.getElem?_cons_succ, List.getElem_cons_succ] at this ⊢
      exact this

/-- A slice of holders, of the call's own. -/
def Hs (w : World) (base : Nat) (v : Value) (hs : List (Int × Int)) : Prop := w.ownsRow base 60 2 v hs.length (hcells hs)

/-- The three closures: does the holder bear tx? -/
theorem cl35 (x m tx : Int) (B : Nat) (w : World) (hB : w.cell? ⟨B, 0, none⟩ = some (.int .i64 tx)) :
    Calls Try.prog 35 #[.agg #[.int .i64 x, .int .u8 m], .pointer (some ⟨B, 0, none⟩)] w fun e w' => e = .returned (.bool (x == tx)) ∧ Quiet w w' := by
  have hlt : B < w.heap.size := World.block_lt_of_cell? w _ hB
  go_enter Try.func35, Try.ntmps35
  go_wp2
  go_ret
  exact ⟨rfl, (Quiet.refl _).alloc _⟩

theorem cl64 (x m tx : Int) (B : Nat) (w : World) (hB : w.cell? ⟨B, 0, none⟩ = some (.int .i64 tx)) :
    Calls Try.prog 64 #[.agg #[.int .i64 x, .int .u8 m], .pointer (some ⟨B, 0, none⟩)] w fun e w' => e = .returned (.bool (x == tx)) ∧ Quiet w w' := by
  have hlt : B < w.heap.size := World.block_lt_of_cell? w _ hB
  go_enter Try.func64, Try.ntmps64
  go_wp2
  go_ret
  exact ⟨rfl, (Quiet.refl _).alloc _⟩

theorem cl21 (x m tx : Int) (B : Nat) (w : World) (hB : w.cell? ⟨B, 0, none⟩ = some (.int .i64 tx)) :
    Calls Try.prog 21 #[.agg #[.int .i64 x, .int .u8 m], .pointer (some ⟨B, 0, none⟩)] w fun e w' => e = .returned (.bool (x == tx)) ∧ Quiet w w' := by
  have hlt : B < w.heap.size := World.block_lt_of_cell? w _ hB
  go_enter Try.func21, Try.ntmps21
  go_wp2
  go_ret
  exact ⟨rfl, (Quiet.refl _).alloc _⟩

def confB (a b : Int) : Bool := a == 2 || b == 2

theorem conflict_any (a b : Int) (w : World) : Calls Try.prog 63 #[.int .u8 a, .int .u8 b] w fun e w' => e = .returned (.bool (confB a b)) ∧ w' = w := by
  by_cases h1 : a = 2
  · subst h1
    go_enter Try.func63, Try.ntmps63
    go_wp2
    go_ret
    exact ⟨by simp [confB], rfl⟩
  · have h1' : (a == 2) = false := beq_eq_false_iff_ne.2 h1
    go_enter Try.func63, Try.ntmps63
    go_wp2
    go_ret
    exact ⟨by simp [confB, h1'], rfl⟩

end Go.Proofs.Qxb6616109a.fnHoldsExclusiveHandOver
