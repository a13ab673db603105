import Derived.Test.Qxb6616119aBase
import Derived.Lib.Join
import Derived.Sort.EncStr
namespace Go.Proofs.Qxb6616119a.Law
open Go.ChangeShapes Go.WideShapes Go.ChangeAt Go.RowKit
set_option linter.unusedSimpArgs false

/-- The products that are taken, in the rules' order. -/
def sel (t : Int) (rs : List Rule) : List (List UInt8) := (rs.filter (fun r => decide (t < r.2.2))).map (·.1.data.toList)
/-- .. sorted by bytes. -/
def srt (xs : List (List UInt8)) : List (List UInt8) := xs.mergeSort fun x y => decide (x ≤ y)
/-- The listing. -/
def listing (t : Int) (rs : List Rule) : ByteArray := ⟨(Lib.join (srt (sel t rs)) [44, 32]).toArray⟩

theorem sel_length (t : Int) (rs : List Rule) : (sel t rs).length = cntOf t rs := by simp [sel, cntOf]
theorem sel_le (t : Int) (rs : List Rule) : (sel t rs).length ≤ rs.length := by rw [sel_length]; exact cntOf_le t rs
theorem srt_length (xs : List (List UInt8)) : (srt xs).length = xs.length := by simp [srt]
theorem sel_take (t : Int) (rs : List Rule) (k : Nat) (hk : k < rs.length) : sel t (rs.take (k + 1)) = sel t (rs.take k) ++ (if t < rs[k].2.2 then [rs[k].1.data.toList] else []) := by
  unfold sel
  rw [List.take_succ_eq_append_getElem hk, List.filter_append, List.map_append]
  by_cases h : t < rs[k].2.2 <;> simp [List.filter_cons, h]

/-- How long a list of words is, joined by two bytes. -/
def joined (xs : List (List UInt8)) : Nat := if xs.length = 0 then 0 else (xs.map List.length).sum + 2 * (xs.length - 1)

theorem lens_sum (xs : List (List UInt8)) : Lib.lens xs = (xs.map List.length).sum := by
  induction xs with
  | nil => rfl
  | cons x r ih => simp [Lib.lens] at *
theorem join_len (xs : List (List UInt8)) : (Lib.join xs [44, 32]).length = joined xs := by
  cases xs with
  | nil => simp [Lib.join, joined, List.intercalate]
  | cons x r =>
    rw [Lib.join_length, lens_sum]
    simp [joined]
    omega
theorem joined_perm {xs ys : List (List UInt8)} (h : xs.Perm ys) : joined xs = joined ys := by
  unfold joined
  rw [h.length_eq, (h.map List.length).sum_nat]
theorem srt_perm (xs : List (List UInt8)) : (srt xs).Perm xs := List.mergeSort_perm _ _
theorem sel_sum (t : Int) (rs : List Rule) : ((sel t rs).map List.length).sum = sumOf t rs := by
  simp only [sel, sumOf, bytesOf, List.map_map]
  rfl
theorem joined_sel (t : Int) (rs : List Rule) : joined (sel t rs) = lenOf t rs := by
  unfold joined lenOf
  rw [sel_length, sel_sum]
theorem listing_size (t : Int) (rs : List Rule) : (listing t rs).size = lenOf t rs := by
  show (Lib.join (srt (sel t rs)) [44, 32]).toArray.size = _
  rw [List.size_toArray, join_len, joined_perm (srt_perm _), joined_sel]
theorem lenOf_le (t : Int) (rs : List Rule) (hl : rs.length ≤ 4096) (hB : bytesOf rs ≤ 1048576) : lenOf t rs ≤ 2000000 := by
  have h1 := sumOf_le t rs
  have h2 := cntOf_le t rs
  unfold lenOf
  split <;> omega

/-- The law of the cut. -/
theorem lenOf_cut (t : Int) (rs : List Rule) (k : Nat) : lenOf t rs = lenOf t (rs.take k) + lenOf t (rs.drop k) + (if 0 < cntOf t (rs.take k) ∧ 0 < cntOf t (rs.drop k) then 2 else 0) := by
  have h1 : cntOf t rs = cntOf t (rs.take k) + cntOf t (rs.drop k) := by
    unfold cntOf
    conv => lhs; rw [← List.take_append_drop k rs]
    rw [List.filter_append, List.length_append]
  have h2 : sumOf t rs = sumOf t (rs.take k) + sumOf t (rs.drop k) := by
    unfold sumOf bytesOf
    conv => lhs; rw [← List.take_append_drop k rs]
    rw [List.filter_append, List.map_append, List.sum_append]
  have z : ∀ xs, cntOf t xs = 0 → sumOf t xs = 0 := by
    intro xs h
    unfold cntOf at h
    unfold sumOf bytesOf
    rw [List.eq_nil_of_length_eq_zero h]
    rfl
  have z1 := z (rs.take k)
  have z2 := z (rs.drop k)
  unfold lenOf
  rw [h1, h2]
  split <;> split <;> split <;> split <;> omega
end Go.Proofs.Qxb6616119a.Law
