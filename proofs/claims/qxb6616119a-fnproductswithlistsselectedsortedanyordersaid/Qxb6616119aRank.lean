import Derived.Test.Qxb6616119aPlain
namespace Go.Proofs.Qxb6616119a.Law
open Go.ChangeShapes Go.WideShapes Go.ChangeAt Go.RowKit
set_option linter.unusedSimpArgs false

/-- How many words lie below x; how many are x. -/
def lows (x : List UInt8) (S : List (List UInt8)) : Nat := S.countP fun y => decide (y < x)
def sames (x : List UInt8) (S : List (List UInt8)) : Nat := S.countP fun y => decide (y = x)

theorem count_head {T : List (List UInt8)} {p : List UInt8 → Bool} (q : Nat) (hq : q < T.length) (h : ∀ j (hj : j < T.length), j ≤ q → p T[j] = true) : q + 1 ≤ T.countP p := by
  have h1 : (T.take (q + 1)).countP p = (T.take (q + 1)).length := by
    rw [List.countP_eq_length]
    intro a ha
    obtain ⟨j, hj, rfl⟩ := List.getElem_of_mem ha
    rw [List.length_take] at hj
    rw [List.getElem_take]
    exact h j (by omega) (by omega)
  have h2 : T.countP p = (T.take (q + 1)).countP p + (T.drop (q + 1)).countP p := by
    rw [← List.countP_append, List.take_append_drop]
  rw [List.length_take] at h1
  omega
theorem count_tail {T : List (List UInt8)} {p : List UInt8 → Bool} (q : Nat) (h : ∀ j (hj : j < T.length), q ≤ j → ¬ p T[j] = true) : T.countP p ≤ q := by
  have h1 : (T.drop q).countP p = 0 := by
    rw [List.countP_eq_zero]
    intro a ha
    obtain ⟨j, hj, rfl⟩ := List.getElem_of_mem ha
    rw [List.length_drop] at hj
    rw [List.getElem_drop]
    exact h (q + j) (by omega) (by omega)
  have h2 : T.countP p = (T.take q).countP p + (T.drop q).countP p := by
    rw [← List.countP_append, List.take_append_drop]
  have h3 : (T.take q).countP p ≤ (T.take q).length := List.countP_le_length
  rw [List.length_take] at h3
  omega

theorem lows_sames (x : List UInt8) (S : List (List UInt8)) : lows x S + sames x S = S.countP fun y => decide (y ≤ x) := by
  induction S with
  | nil => rfl
  | cons y S ih =>
    unfold lows sames at *
    simp only [List.countP_cons]
    rw [← ih]
    by_cases h1 : y < x
    · have h2 : ¬ y = x := fun e => List.lt_irrefl x (e ▸ h1)
      have h3 : y ≤ x := List.le_of_lt h1
      simp [h1, h2, h3]; omega
    · by_cases h2 : y = x
      · subst h2
        have h3 : y ≤ y := List.le_refl y
        simp [h1, h3]; omega
      · have h3 : ¬ y ≤ x := fun h => h2 (List.le_antisymm h (List.not_lt.1 h1))
        simp [h1, h2, h3]

theorem srt_sorted (S : List (List UInt8)) : ∀ i j (hi : i < (srt S).length) (hj : j < (srt S).length), i ≤ j → (srt S)[i] ≤ (srt S)[j] := by
  have h := List.pairwise_mergeSort (le := fun x y : List UInt8 => decide (x ≤ y)) (fun a b c h1 h2 => by simp only [decide_eq_true_eq] at *; exact List.le_trans h1 h2) (fun a b => by simp only [Bool.or_eq_true, decide_eq_true_eq]; exact List.le_total a b) S
  rw [List.pairwise_iff_getElem] at h
  intro i j hi hj hij
  rcases Nat.lt_or_eq_of_le hij with h1 | rfl
  · exact of_decide_eq_true (h i j hi hj h1)
  · exact List.le_refl _

theorem lows_srt (x : List UInt8) (S : List (List UInt8)) : lows x (srt S) = lows x S := (srt_perm S).countP_eq _
theorem sames_srt (x : List UInt8) (S : List (List UInt8)) : sames x (srt S) = sames x S := (srt_perm S).countP_eq _
theorem ranks_le (x : List UInt8) (S : List (List UInt8)) : lows x S + sames x S ≤ S.length := by
  rw [lows_sames]; exact List.countP_le_length

/-- The word at a place tells its place. -/
theorem place_of (S : List (List UInt8)) (q : Nat) (hq : q < (srt S).length) : lows (srt S)[q] S ≤ q ∧ q < lows (srt S)[q] S + sames (srt S)[q] S := by
  constructor
  · rw [← lows_srt]
    refine count_tail q (fun j hj hqj => ?_)
    rw [decide_eq_true_eq]
    exact List.not_lt.2 (srt_sorted S q j hq hj hqj)
  · rw [← lows_srt, ← sames_srt, lows_sames]
    refine count_head q hq (fun j hj hjq => ?_)
    rw [decide_eq_true_eq]
    exact srt_sorted S j q hj hq hjq

/-- .. and the place tells the word. -/
theorem word_at (S : List (List UInt8)) (x : List UInt8) (q : Nat) (h1 : lows x S ≤ q) (h2 : q < lows x S + sames x S) : (srt S)[q]? = some x := by
  have hq : q < (srt S).length := by rw [srt_length]; have := ranks_le x S; omega
  rw [List.getElem?_eq_getElem hq]
  congr 1
  by_cases ha : (srt S)[q] < x
  · have := count_head (p := fun y => decide (y < x)) q hq (fun j hj hjq => by
      rw [decide_eq_true_eq]
      exact List.lt_of_le_of_lt (srt_sorted S j q hj hq hjq) ha)
    have e := lows_srt x S
    unfold lows at *
    omega
  · by_cases hb : x < (srt S)[q]
    · have := count_tail (T := srt S) (p := fun y => decide (y ≤ x)) q (fun j hj hqj => by
        rw [decide_eq_true_eq]
        intro hc
        exact (List.not_lt.2 (List.le_trans (srt_sorted S q j hq hj hqj) hc)) hb)
      have e := lows_sames x (srt S)
      rw [lows_srt, sames_srt] at e
      omega
    · exact List.le_antisymm (List.not_lt.1 hb) (List.not_lt.1 ha)

/-- A word of a rule. -/
abbrev word (r : Rule) : List UInt8 := r.1.data.toList

theorem lows_take (t : Int) (x : List UInt8) (rs : List Rule) (k : Nat) (hk : k < rs.length) : lows x (sel t (rs.take (k + 1))) = lows x (sel t (rs.take k)) + (if t < rs[k].2.2 ∧ word rs[k] < x then 1 else 0) := by
  rw [sel_take t rs k hk]
  unfold lows
  rw [List.countP_append]
  by_cases h : t < rs[k].2.2
  · by_cases h2 : word rs[k] < x <;> simp [h, h2, List.countP_cons]
  · simp [h]
theorem sames_take (t : Int) (x : List UInt8) (rs : List Rule) (k : Nat) (hk : k < rs.length) : sames x (sel t (rs.take (k + 1))) = sames x (sel t (rs.take k)) + (if t < rs[k].2.2 ∧ word rs[k] = x then 1 else 0) := by
  rw [sel_take t rs k hk]
  unfold sames
  rw [List.countP_append]
  by_cases h : t < rs[k].2.2
  · by_cases h2 : word rs[k] = x <;> simp [h, h2, List.countP_cons]
  · simp [h]

/-- The place of the rule at i. -/
def rk (t : Int) (rs : List Rule) (i : Nat) (x : List UInt8) : Nat := lows x (sel t rs) + sames x (sel t (rs.take i))

theorem sames_mono (t : Int) (x : List UInt8) (rs : List Rule) (k : Nat) (hk : k < rs.length) (h : t < rs[k].2.2) (he : word rs[k] = x) : sames x (sel t (rs.take k)) < sames x (sel t rs) := by
  have h1 := sames_take t x rs k hk
  rw [if_pos ⟨h, he⟩] at h1
  have h2 : sames x (sel t (rs.take (k + 1))) ≤ sames x (sel t rs) := by
    unfold sames sel
    conv => rhs; rw [← List.take_append_drop (k + 1) rs]
    rw [List.filter_append, List.map_append, List.countP_append]
    omega
  omega
theorem rk_word (t : Int) (rs : List Rule) (k : Nat) (hk : k < rs.length) (h : t < rs[k].2.2) : (srt (sel t rs))[rk t rs k (word rs[k])]? = some (word rs[k]) := by
  have := sames_mono t (word rs[k]) rs k hk h rfl
  exact word_at _ _ _ (by unfold rk; omega) (by unfold rk; omega)
theorem rk_lt (t : Int) (rs : List Rule) (k : Nat) (hk : k < rs.length) (h : t < rs[k].2.2) : rk t rs k (word rs[k]) < (sel t rs).length := by
  have h1 := rk_word t rs k hk h
  have := (List.getElem?_eq_some_iff.1 h1).1
  rwa [srt_length] at this

/-- The e-th rule with this word. -/
theorem occ (t : Int) (x : List UInt8) (rs : List Rule) (e : Nat) : ∀ n, n ≤ rs.length → e < sames x (sel t (rs.take n)) → ∃ i, ∃ h : i < rs.length, i < n ∧ t < rs[i].2.2 ∧ word rs[i] = x ∧ sames x (sel t (rs.take i)) = e := by
  intro n
  induction n with
  | zero => intro _ h; simp [sel, sames] at h
  | succ n ih =>
    intro hn h
    rw [sames_take t x rs n (by omega)] at h
    by_cases hc : e < sames x (sel t (rs.take n))
    · obtain ⟨i, hi, h1, h2⟩ := ih (by omega) hc
      exact ⟨i, hi, by omega, h2⟩
    · by_cases hs : t < rs[n].2.2 ∧ word rs[n] = x
      · rw [if_pos hs] at h
        exact ⟨n, by omega, by omega, hs.1, hs.2, by omega⟩
      · rw [if_neg hs] at h
        omega
theorem rk_onto (t : Int) (rs : List Rule) (q : Nat) (hq : q < (sel t rs).length) : ∃ i, ∃ h : i < rs.length, t < rs[i].2.2 ∧ rk t rs i (word rs[i]) = q := by
  have hq' : q < (srt (sel t rs)).length := by rw [srt_length]; exact hq
  obtain ⟨h1, h2⟩ := place_of (sel t rs) q hq'
  obtain ⟨i, hi, _, h3, h4, h5⟩ := occ t (srt (sel t rs))[q] rs (q - lows (srt (sel t rs))[q] (sel t rs)) rs.length (Nat.le_refl _) (by rw [List.take_length]; omega)
  refine ⟨i, hi, h3, ?_⟩
  unfold rk
  rw [h4, h5]
  omega

/-- What has been placed so far. -/
def Placed (t : Int) (rs : List Rule) (k : Nat) (ps : List (List UInt8)) : Prop :=
  ps.length = (sel t rs).length ∧ ∀ i (hi : i < rs.length), i < k → t < rs[i].2.2 → ps[rk t rs i (word rs[i])]? = (srt (sel t rs))[rk t rs i (word rs[i])]?

theorem placed_start (t : Int) (rs : List Rule) (ps : List (List UInt8)) (h : ps.length = (sel t rs).length) : Placed t rs 0 ps := ⟨h, fun i _ hi => absurd hi (by omega)⟩
theorem placed_skip {t : Int} {rs : List Rule} {k : Nat} {ps : List (List UInt8)} (h : Placed t rs k ps) (hk : k < rs.length) (hn : ¬ t < rs[k].2.2) : Placed t rs (k + 1) ps := by
  refine ⟨h.1, fun i hi hik ht => ?_⟩
  by_cases e : i = k
  · subst e; exact absurd ht hn
  · exact h.2 i hi (by omega) ht
theorem placed_set {t : Int} {rs : List Rule} {k : Nat} {ps : List (List UInt8)} (h : Placed t rs k ps) (hk : k < rs.length) (ht : t < rs[k].2.2) : Placed t rs (k + 1) (ps.set (rk t rs k (word rs[k])) (word rs[k])) := by
  refine ⟨by rw [List.length_set]; exact h.1, fun i hi hik hti => ?_⟩
  by_cases e : rk t rs k (word rs[k]) = rk t rs i (word rs[i])
  · rw [← e, rk_word t rs k hk ht, List.getElem?_set_self]
    rw [h.1]
    exact rk_lt t rs k hk ht
  · rw [List.getElem?_set_ne e]
    by_cases e2 : i = k
    · subst e2; exact absurd rfl e
    · exact h.2 i hi (by omega) hti
theorem placed_all {t : Int} {rs : List Rule} {ps : List (List UInt8)} (h : Placed t rs rs.length ps) : ps = srt (sel t rs) := by
  apply List.ext_getElem?
  intro q
  by_cases hq : q < (sel t rs).length
  · obtain ⟨i, hi, h1, rfl⟩ := rk_onto t rs q hq
    exact h.2 i hi hi h1
  · rw [List.getElem?_eq_none (by rw [h.1]; omega), List.getElem?_eq_none (by rw [srt_length]; omega)]

/-- A turned list has the same listing. -/
theorem sel_perm {t : Int} {rs rs' : List Rule} (h : rs.Perm rs') : (sel t rs).Perm (sel t rs') := (h.filter _).map _
theorem srt_eq {xs ys : List (List UInt8)} (h : xs.Perm ys) : srt xs = srt ys := by
  apply List.ext_getElem?
  intro q
  by_cases hq : q < xs.length
  · have hq' : q < (srt xs).length := by rw [srt_length]; exact hq
    obtain ⟨h1, h2⟩ := place_of xs q hq'
    rw [List.getElem?_eq_getElem hq']
    symm
    refine word_at ys _ q ?_ ?_
    · have : lows (srt xs)[q] ys = lows (srt xs)[q] xs := (h.countP_eq _).symm
      omega
    · have e1 : lows (srt xs)[q] ys = lows (srt xs)[q] xs := (h.countP_eq _).symm
      have e2 : sames (srt xs)[q] ys = sames (srt xs)[q] xs := (h.countP_eq _).symm
      omega
  · rw [List.getElem?_eq_none (by rw [srt_length]; omega), List.getElem?_eq_none (by rw [srt_length, ← h.length_eq]; omega)]
theorem listing_turn (t : Int) (rs : List Rule) (k : Nat) : listing t (rs.drop k ++ rs.take k) = listing t rs := by
  have h : (rs.drop k ++ rs.take k).Perm rs := by
    have := List.perm_append_comm (l₁ := rs.drop k) (l₂ := rs.take k)
    rwa [List.take_append_drop] at this
  unfold listing
  rw [srt_eq (sel_perm h)]
end Go.Proofs.Qxb6616119a.Law
