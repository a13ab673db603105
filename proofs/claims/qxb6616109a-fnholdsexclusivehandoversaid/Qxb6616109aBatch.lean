import Derived.Test.Qxb6616109aBase
import Derived.Deep.RegionLaw
namespace Go.Proofs.Qxb6616109a.fnHoldsExclusiveHandOver
open Go.RowKit

/-- A function turned at one place. -/
def upd {n : Nat} {α : Type} (f : Fin n → α) (i : Fin n) (v : α) : Fin n → α := fun j => if j = i then v else f j

theorem upd_same {n : Nat} {α : Type} (f : Fin n → α) (i : Fin n) (v : α) : upd f i v i = v := by simp [upd]
theorem upd_other {n : Nat} {α : Type} (f : Fin n → α) {i j : Fin n} (v : α) (h : j ≠ i) : upd f i v j = f j := by simp [upd, h]

/-- What has been made, and where. -/
structure Made (n : Nat) (w0 w : World) (val : Fin n → Nat → Value) (obj : Fin n → Obj) (L : Fin n → Bool) (f : Fin n → Value) (β : Fin n → Nat) : Prop where
  quiet : Quiet w0 w
  here : ∀ i, L i = true → f i = val i (β i) ∧ w.heap[β i]? = some (obj i) ∧ w0.heap.size ≤ β i
  apart : ∀ i j, L i = true → L j = true → i ≠ j → β i ≠ β j

section
variable {P : Program} {ops : Array Oper} {Q : Exit → Act → World → Prop} {md : Region.Mode}

/-- SO MANY MAKINGS, IN WHATEVER ORDER. -/
theorem wpAny_batch {n : Nat} {w0 : World} (val : Fin n → Nat → Value) (obj : Fin n → Obj) (A : (Fin n → Value) → Act) (lst : (Fin n → Bool) → Array Bool) (idx d : Fin n → Nat)
    (hput : ∀ f i v, (A f).put (some (d i)) v = A (upd f i v)) (hset : ∀ L i, (lst L).setIfInBounds (idx i) true = lst (upd L i true))
    (hready : ∀ L, (∃ i, L i = false) → ∀ j, (j ∈ Region.ready md ops (lst L) ↔ ∃ i, L i = false ∧ j = idx i))
    (hop : ∀ i, ∃ o, ops[idx i]? = some o ∧ o.guard = none ∧ o.dst = some (d i) ∧ ∀ f w, (execOp (A f).eval o).run P w = .ok (.value (val i w.heap.size)) (w.alloc (obj i)))
    (fuel : Nat) (hend : ∀ f β w, Made n w0 w val obj (fun _ => true) f β → wpAny P md ops Q fuel (lst (fun _ => true)) (A f) w) :
    ∀ (k : Nat) (pend : List (Fin n)), pend.length = k → pend.Nodup → ∀ (L : Fin n → Bool), (∀ i, L i = false ↔ i ∈ pend) → ∀ f β w, Made n w0 w val obj L f β → wpAny P md ops Q (fuel + k) (lst L) (A f) w := by
  intro k
  induction k with
  | zero =>
    intro pend hl _ L hL f β w hm
    have hp : pend = [] := List.eq_nil_of_length_eq_zero hl
    have hall : L = fun _ => true := by
      funext i
      cases h : L i with
      | true => rfl
      | false => rw [hL i, hp] at h; cases h
    subst hall
    exact hend f β w hm
  | succ k ih =>
    intro pend hl hnd L hL f β w hm
    have hex : ∃ i, L i = false := by
      cases pend with
      | nil => cases hl
      | cons i r => exact ⟨i, (hL i).2 (List.mem_cons_self ..)⟩
    have hr := hready L hex
    refine ⟨fun h0 => ?_, fun j hj => ?_⟩
    · obtain ⟨i, hi⟩ := hex
      have := (hr (idx i)).2 ⟨i, hi, rfl⟩
      rw [h0] at this
      cases this
    · obtain ⟨i, hi, rfl⟩ := (hr j).1 hj
      obtain ⟨o, ho, hg, hd, hrun⟩ := hop i
      unfold wpOp
      simp only [ho, Region.wanted, hg, if_true]
      refine .inl ?_
      unfold Oper.wp
      rw [hrun f w]
      show wpAny P md ops Q (fuel + k) ((lst L).setIfInBounds (idx i) true) ((A f).put o.dst (val i w.heap.size)) (w.alloc (obj i))
      rw [hd, hput, hset]
      have hmem : i ∈ pend := (hL i).1 hi
      refine ih (pend.erase i) (by rw [List.length_erase_of_mem hmem]; omega) (hnd.erase i) (upd L i true) ?_ _ (upd β i w.heap.size) _ ?_
      · intro j'
        by_cases hji : j' = i
        · subst hji
          rw [upd_same, hnd.mem_erase_iff]
          simp
        · rw [upd_other _ _ hji, hnd.mem_erase_iff, hL j']
          simp [hji]
      · have hq := hm.quiet.size
        refine ⟨hm.quiet.alloc _, fun j' hj' => ?_, fun a b ha hb hab => ?_⟩
        · by_cases hji : j' = i
          · subst hji
            rw [upd_same, upd_same]
            exact ⟨rfl, heap_alloc_new w _, hq⟩
          · rw [upd_other _ _ hji] at hj'
            rw [upd_other _ _ hji, upd_other _ _ hji]
            obtain ⟨h1, h2, h3⟩ := hm.here j' hj'
            exact ⟨h1, (Below.heap_alloc _ _ _ (Array.getElem?_eq_some_iff.1 h2).1).trans h2, h3⟩
        · by_cases hai : a = i
          · subst hai
            have hbi : b ≠ a := fun e => hab e.symm
            rw [upd_other _ _ hbi] at hb
            rw [upd_same, upd_other _ _ hbi]
            have := (Array.getElem?_eq_some_iff.1 (hm.here b hb).2.1).1
            omega
          · rw [upd_other _ _ hai] at ha
            by_cases hbi : b = i
            · subst hbi
              rw [upd_same, upd_other _ _ hai]
              have := (Array.getElem?_eq_some_iff.1 (hm.here a ha).2.1).1
              omega
            · rw [upd_other _ _ hbi] at hb
              rw [upd_other _ _ hai, upd_other _ _ hbi]
              exact hm.apart a b ha hb hab

end
end Go.Proofs.Qxb6616109a.fnHoldsExclusiveHandOver
