import Derived.Test.Qxb6616119aRows
import Derived.WalkKit
import Derived.ProofKit
import Derived.OpenShut
import Derived.Below
namespace Go.Proofs.Qxb6616119a.Law
open Go.ChangeShapes Go.WideShapes Go.ChangeAt Go.RowKit
set_option linter.unusedSimpArgs false
set_option linter.unusedVariables false

/-- A rule: its product, its first day, its ticks. -/
abbrev Rule := ByteArray × Int × Int

/-- The rules lie at a. -/
def Rl (w : World) (a : Option Addr) (rs : List Rule) : Prop :=
  rs = [] ∨ ∃ b off, a = some ⟨b, off, none⟩ ∧ b < w.heap.size ∧ ∀ i (h : i < rs.length), w.cell? ⟨b, off + i * 3, none⟩ = some (.string rs[i].1) ∧ w.cell? ⟨b, off + i * 3 + 1, none⟩ = some (.int .u32 rs[i].2.1) ∧ w.cell? ⟨b, off + i * 3 + 2, none⟩ = some (.int .i64 rs[i].2.2)

theorem Rl.at {w : World} {a : Option Addr} {rs : List Rule} (h : Rl w a rs) {k : Nat} (hk : k < rs.length) :
    ∃ b off, a = some ⟨b, off, none⟩ ∧ b < w.heap.size ∧ w.cell? ⟨b, off + k * 3, none⟩ = some (.string rs[k].1) ∧ w.cell? ⟨b, off + k * 3 + 1, none⟩ = some (.int .u32 rs[k].2.1) ∧ w.cell? ⟨b, off + k * 3 + 2, none⟩ = some (.int .i64 rs[k].2.2) := by
  rcases h with rfl | ⟨b, off, ha, hb, hc⟩
  · simp at hk
  · exact ⟨b, off, ha, hb, hc k hk⟩

theorem Rl.below {w w' : World} {a : Option Addr} {rs : List Rule} (h : Rl w a rs) (hb : Below w.heap.size w w') : Rl w' a rs := by
  rcases h with h | ⟨b, off, ha, hlt, hc⟩
  · exact .inl h
  · refine .inr ⟨b, off, ha, Nat.lt_of_lt_of_le hlt hb.size, fun i hi => ?_⟩
    rw [hb.cell (p := ⟨b, off + i * 3, none⟩) hlt, hb.cell (p := ⟨b, off + i * 3 + 1, none⟩) hlt, hb.cell (p := ⟨b, off + i * 3 + 2, none⟩) hlt]
    exact hc i hi

/-- The bytes of all products. -/
def bytesOf (rs : List Rule) : Nat := (rs.map (·.1.size)).sum

theorem bytesOf_take (rs : List Rule) (k : Nat) (hk : k < rs.length) : bytesOf (rs.take (k + 1)) = bytesOf (rs.take k) + rs[k].1.size := by
  unfold bytesOf
  rw [List.take_succ_eq_append_getElem hk, List.map_append, List.sum_append]
  simp

theorem bytesOf_mem (rs : List Rule) (k : Nat) : bytesOf (rs.take k) ≤ bytesOf rs := by
  unfold bytesOf
  conv => rhs; rw [← List.take_append_drop k rs]
  rw [List.map_append, List.sum_append]
  omega

/-- It answers, and the world is as it was. -/
def SomeBool (e : Ending) (w w' : World) (rs : List Rule) : Prop := ∃ b, e = .returned (.bool b) ∧ w' = w ∧ (b = true → rs.length ≤ 1048576 ∧ ∀ r, r ∈ rs → r.1.size ≤ 1048576)
def Fits (e : Ending) (w w' : World) (rs : List Rule) : Prop := ∃ b, e = .returned (.bool b) ∧ w' = w ∧ (b = true → rs.length ≤ 4096 ∧ bytesOf rs ≤ 1048576)

/-- How many are taken; their bytes. -/
def cntOf (t : Int) (rs : List Rule) : Nat := (rs.filter (fun r => decide (t < r.2.2))).length
def sumOf (t : Int) (rs : List Rule) : Nat := bytesOf (rs.filter (fun r => decide (t < r.2.2)))

theorem cntOf_take (t : Int) (rs : List Rule) (k : Nat) (hk : k < rs.length) : cntOf t (rs.take (k + 1)) = cntOf t (rs.take k) + (if t < rs[k].2.2 then 1 else 0) := by
  unfold cntOf
  rw [List.take_succ_eq_append_getElem hk, List.filter_append, List.length_append]
  by_cases h : t < rs[k].2.2 <;> simp [List.filter_cons, h]
theorem sumOf_take (t : Int) (rs : List Rule) (k : Nat) (hk : k < rs.length) : sumOf t (rs.take (k + 1)) = sumOf t (rs.take k) + (if t < rs[k].2.2 then rs[k].1.size else 0) := by
  unfold sumOf bytesOf
  rw [List.take_succ_eq_append_getElem hk, List.filter_append, List.map_append, List.sum_append]
  by_cases h : t < rs[k].2.2 <;> simp [List.filter_cons, h]

theorem cntOf_le (t : Int) (rs : List Rule) : cntOf t rs ≤ rs.length := List.length_filter_le _ _
theorem sumOf_le (t : Int) (rs : List Rule) : sumOf t rs ≤ bytesOf rs := by
  induction rs with
  | nil => exact Nat.le_refl _
  | cons r rs ih =>
    unfold sumOf bytesOf at *
    by_cases h : t < r.2.2
    · simp only [List.filter_cons, h, decide_true, if_true, List.map_cons, List.sum_cons] at *; omega
    · simp only [List.filter_cons, h, decide_false, Bool.false_eq_true, if_false, List.map_cons, List.sum_cons] at *; omega

set_option maxHeartbeats 800000 in
theorem count_any {w : World} {a : Option Addr} {rs : List Rule} (h : Rl w a rs) (cap : Nat) (t : Int) (hl : rs.length ≤ 4096) :
    Calls Try.prog 11 #[.slice a rs.length cap, .int .i64 t] w fun e w' => e = .returned (.int .i64 (cntOf t rs)) ∧ w' = w := by
  go_enter Try.func11, Try.ntmps11
  go_wp2
  go_loop [5, 6] (fun m i => ∃ k : Nat, k ≤ rs.length ∧ i = .int .i64 k ∧ m = .int .i64 (cntOf t (rs.take k))) (fun _ i => rs.length - (intOf i).toNat)
  case atStart => exact ⟨0, Nat.zero_le _, rfl, rfl⟩
  case round =>
    obtain ⟨k, hk, rfl, rfl⟩ := hrel
    by_cases hlt : k < rs.length
    · obtain ⟨b, off, rfl, hb, c1, c2, c3⟩ := h.at hlt
      have hc := cntOf_take t rs k hlt
      have HC : Hid (cntOf t (rs.take (k + 1)) = cntOf t (rs.take k) + (if t < rs[k].2.2 then 1 else 0)) := hc
      have hle : cntOf t (rs.take k) ≤ 4096 := Nat.le_trans (cntOf_le _ _) (by rw [List.length_take]; omega)
      clear hc
      generalize cntOf t (rs.take k) = m at *
      generalize rs[k].2.2 = x at *
      by_cases hx : t < x
      · rw [if_pos hx] at HC
        go_wp2
        go_round
        case rel => exact ⟨k + 1, by omega, by go_num, by rw [HC.out]; go_num⟩
        case measure => simp [intOf]; omega
      · rw [if_neg hx] at HC
        go_wp2
        go_round
        case rel => exact ⟨k + 1, by omega, by go_num, by rw [HC.out]; rfl⟩
        case measure => simp [intOf]; omega
    · obtain rfl : k = rs.length := by omega
      go_wp2
      go_ret
      exact ⟨rfl, rfl⟩


set_option maxHeartbeats 1600000 in
theorem bytes10_any {w : World} {a : Option Addr} {rs : List Rule} (h : Rl w a rs) (cap : Nat) (t k : Int) (hl : rs.length ≤ maxLen) (hp : ∀ r, r ∈ rs → r.1.size ≤ maxLen) :
    Calls Try.prog 10 #[.slice a rs.length cap, .int .i64 t, .int .i64 k] w fun e w' => SomeBool e w w' rs := by
  unfold maxLen at hl
  have HP : Hid (∀ r, r ∈ rs → r.1.size ≤ maxLen) := hp
  clear hp
  by_cases h1 : rs.length ≤ 1048576
  · go_enter Try.func10, Try.ntmps10
    go_wp2
    go_loop [7, 8] (fun m i => ∃ k : Nat, ∃ n : Nat, k ≤ rs.length ∧ n ≤ 1048576 ∧ i = .int .i64 k ∧ m = .int .i64 n ∧ (∀ j (hj : j < rs.length), j < k → rs[j].1.size ≤ 1048576)) (fun _ i => rs.length - (intOf i).toNat)
    case atStart => exact ⟨0, rs.length, Nat.zero_le _, h1, rfl, by go_num, fun j _ hj => by omega⟩
    case round =>
      obtain ⟨k, n, hk, hn, rfl, rfl, hall⟩ := hrel
      have HA : Hid (∀ j (hj : j < rs.length), j < k → rs[j].1.size ≤ 1048576) := hall
      clear hall
      by_cases hlt : k < rs.length
      · obtain ⟨b, off, rfl, hb, c1, c2, c3⟩ := h.at hlt
        have hsz : rs[k].1.size ≤ maxLen := HP.out _ (List.getElem_mem _)
        have HK : Hid (rs[k].1.size ≤ 1048576 → ∀ j (hj : j < rs.length), j < k + 1 → rs[j].1.size ≤ 1048576) := fun hx j hj hjk => by
          by_cases hj2 : j < k
          · exact HA.out j hj hj2
          · obtain rfl : j = k := by omega
            exact hx
        unfold maxLen at hsz
        generalize rs[k].1 = p at *
        by_cases hx : p.size ≤ 1048576
        · by_cases hy : n + p.size ≤ 1048576
          · go_wp2
            go_round
            case rel => exact ⟨k + 1, n + p.size, by omega, hy, by go_num, by go_num, HK.out hx⟩
            case measure => simp [intOf]; omega
          · go_wp2
            go_ret
            exact ⟨_, rfl, rfl, fun hb => by cases hb⟩
        · go_wp2
          go_ret
          exact ⟨_, rfl, rfl, fun hb => by cases hb⟩
      · have hfin : Hid (∀ r, r ∈ rs → r.1.size ≤ 1048576) := fun r hr => by
          obtain ⟨j, hj, rfl⟩ := List.getElem_of_mem hr
          exact HA.out j hj (by omega)
        go_wp2
        go_ret
        exact ⟨_, rfl, rfl, fun _ => ⟨h1, hfin.out⟩⟩
  · go_enter Try.func10, Try.ntmps10
    go_wp2
    go_ret
    exact ⟨_, rfl, rfl, fun hb => by cases hb⟩

set_option maxHeartbeats 1600000 in
theorem bytes5_any {w : World} {a : Option Addr} {rs : List Rule} (h : Rl w a rs) (cap : Nat) (t k : Int) (hl : rs.length ≤ maxLen) (hp : ∀ r, r ∈ rs → r.1.size ≤ maxLen) :
    Calls Try.prog 5 #[.slice a rs.length cap, .int .i64 t, .int .i64 k] w fun e w' => SomeBool e w w' rs := by
  unfold maxLen at hl
  have HP : Hid (∀ r, r ∈ rs → r.1.size ≤ maxLen) := hp
  clear hp
  by_cases h1 : rs.length ≤ 1048576
  · go_enter Try.func5, Try.ntmps5
    go_wp2
    go_loop [7, 8] (fun m i => ∃ k : Nat, ∃ n : Nat, k ≤ rs.length ∧ n ≤ 1048576 ∧ i = .int .i64 k ∧ m = .int .i64 n ∧ (∀ j (hj : j < rs.length), j < k → rs[j].1.size ≤ 1048576)) (fun _ i => rs.length - (intOf i).toNat)
    case atStart => exact ⟨0, rs.length, Nat.zero_le _, h1, rfl, by go_num, fun j _ hj => by omega⟩
    case round =>
      obtain ⟨k, n, hk, hn, rfl, rfl, hall⟩ := hrel
      have HA : Hid (∀ j (hj : j < rs.length), j < k → rs[j].1.size ≤ 1048576) := hall
      clear hall
      by_cases hlt : k < rs.length
      · obtain ⟨b, off, rfl, hb, c1, c2, c3⟩ := h.at hlt
        have hsz : rs[k].1.size ≤ maxLen := HP.out _ (List.getElem_mem _)
        have HK : Hid (rs[k].1.size ≤ 1048576 → ∀ j (hj : j < rs.length), j < k + 1 → rs[j].1.size ≤ 1048576) := fun hx j hj hjk => by
          by_cases hj2 : j < k
          · exact HA.out j hj hj2
          · obtain rfl : j = k := by omega
            exact hx
        unfold maxLen at hsz
        generalize rs[k].1 = p at *
        by_cases hx : p.size ≤ 1048576
        · by_cases hy : n + p.size ≤ 1048576
          · go_wp2
            go_round
            case rel => exact ⟨k + 1, n + p.size, by omega, hy, by go_num, by go_num, HK.out hx⟩
            case measure => simp [intOf]; omega
          · go_wp2
            go_ret
            exact ⟨_, rfl, rfl, fun hb => by cases hb⟩
        · go_wp2
          go_ret
          exact ⟨_, rfl, rfl, fun hb => by cases hb⟩
      · have hfin : Hid (∀ r, r ∈ rs → r.1.size ≤ 1048576) := fun r hr => by
          obtain ⟨j, hj, rfl⟩ := List.getElem_of_mem hr
          exact HA.out j hj (by omega)
        go_wp2
        go_ret
        exact ⟨_, rfl, rfl, fun _ => ⟨h1, hfin.out⟩⟩
  · go_enter Try.func5, Try.ntmps5
    go_wp2
    go_ret
    exact ⟨_, rfl, rfl, fun hb => by cases hb⟩

set_option maxHeartbeats 1600000 in
theorem fit_any {w : World} {a : Option Addr} {rs : List Rule} (h : Rl w a rs) (cap : Nat) (hl : rs.length ≤ 1048576) (hp : ∀ r, r ∈ rs → r.1.size ≤ 1048576) :
    Calls Try.prog 6 #[.slice a rs.length cap] w fun e w' => Fits e w w' rs := by
  have HP : Hid (∀ r, r ∈ rs → r.1.size ≤ 1048576) := hp
  clear hp
  by_cases h1 : rs.length ≤ 4096
  · go_enter Try.func6, Try.ntmps6
    go_wp2
    go_loop [3, 4] (fun m i => ∃ k : Nat, k ≤ rs.length ∧ i = .int .i64 k ∧ m = .int .i64 (32 * (rs.length : Int) + (bytesOf (rs.take k) : Int)) ∧ bytesOf (rs.take k) ≤ 1048576) (fun _ i => rs.length - (intOf i).toNat)
    case atStart => exact ⟨0, Nat.zero_le _, rfl, by simp [bytesOf], by simp [bytesOf]⟩
    case round =>
      obtain ⟨k, hk, rfl, rfl, hbd⟩ := hrel
      by_cases hlt : k < rs.length
      · obtain ⟨b, off, rfl, hb, c1, c2, c3⟩ := h.at hlt
        have hsz : rs[k].1.size ≤ 1048576 := HP.out _ (List.getElem_mem _)
        have hs := bytesOf_take rs k hlt
        have HS : Hid (bytesOf (rs.take (k + 1)) = bytesOf (rs.take k) + rs[k].1.size) := hs
        clear hs
        generalize rs[k].1 = p at *
        generalize bytesOf (rs.take k) = n at *
        by_cases hy : 32 * rs.length + n + p.size ≤ 1048576
        · go_wp2
          go_round
          case rel => exact ⟨k + 1, by omega, by go_num, by rw [HS.out]; go_num, by rw [HS.out]; omega⟩
          case measure => simp [intOf]; omega
        · go_wp2
          go_ret
          exact ⟨_, rfl, rfl, fun hb => by cases hb⟩
      · obtain rfl : k = rs.length := by omega
        have hall : Hid (bytesOf rs ≤ 1048576) := by rw [List.take_length] at hbd; exact hbd
        go_wp2
        go_ret
        exact ⟨_, rfl, rfl, fun _ => ⟨h1, hall.out⟩⟩
  · go_enter Try.func6, Try.ntmps6
    go_wp2
    go_ret
    exact ⟨_, rfl, rfl, fun hb => by cases hb⟩


/-- What expectedLength answers. -/
def lenOf (t : Int) (rs : List Rule) : Nat := if cntOf t rs = 0 then 0 else sumOf t rs + 2 * (cntOf t rs - 1)

set_option maxHeartbeats 1600000 in
theorem length_any {w : World} {a : Option Addr} {rs : List Rule} (h : Rl w a rs) (cap : Nat) (t : Int) (hl : rs.length ≤ 4096) (hB : bytesOf rs ≤ 1048576) :
    Calls Try.prog 12 #[.slice a rs.length cap, .int .i64 t] w fun e w' => e = .returned (.int .i64 (lenOf t rs)) ∧ w' = w := by
  have HL : Hid (lenOf t rs = if cntOf t rs = 0 then 0 else sumOf t rs + 2 * (cntOf t rs - 1)) := rfl
  generalize lenOf t rs = L at *
  go_enter Try.func12, Try.ntmps12
  go_wp2
  go_loop [5, 6, 7] (fun s m i => ∃ k : Nat, k ≤ rs.length ∧ i = .int .i64 k ∧ m = .int .i64 (cntOf t (rs.take k)) ∧ s = .int .i64 (sumOf t (rs.take k))) (fun _ _ i => rs.length - (intOf i).toNat)
  case atStart => exact ⟨0, Nat.zero_le _, rfl, rfl, rfl⟩
  case round =>
    obtain ⟨k, hk, rfl, rfl, rfl⟩ := hrel
    by_cases hlt : k < rs.length
    · obtain ⟨b, off, rfl, hb, c1, c2, c3⟩ := h.at hlt
      have HC : Hid (cntOf t (rs.take (k + 1)) = cntOf t (rs.take k) + (if t < rs[k].2.2 then 1 else 0)) := cntOf_take t rs k hlt
      have HS : Hid (sumOf t (rs.take (k + 1)) = sumOf t (rs.take k) + (if t < rs[k].2.2 then rs[k].1.size else 0)) := sumOf_take t rs k hlt
      have hle : cntOf t (rs.take k) ≤ 4096 := Nat.le_trans (cntOf_le _ _) (by rw [List.length_take]; omega)
      have hls : sumOf t (rs.take k) ≤ 1048576 := Nat.le_trans (sumOf_le _ _) (Nat.le_trans (bytesOf_mem rs k) hB)
      have hps : rs[k].1.size ≤ 1048576 := by
        have h1 := bytesOf_take rs k hlt
        have h2 := bytesOf_mem rs (k + 1)
        omega
      generalize cntOf t (rs.take k) = m at *
      generalize sumOf t (rs.take k) = s at *
      generalize rs[k].2.2 = x at *
      generalize rs[k].1 = p at *
      by_cases hx : t < x
      · rw [if_pos hx] at HC HS
        go_wp2
        go_round
        case rel => exact ⟨k + 1, by omega, by go_num, by rw [HC.out]; go_num, by rw [HS.out]; go_num⟩
        case measure => simp [intOf]; omega
      · rw [if_neg hx] at HC HS
        go_wp2
        go_round
        case rel => exact ⟨k + 1, by omega, by go_num, by rw [HC.out]; rfl, by rw [HS.out]; rfl⟩
        case measure => simp [intOf]; omega
    · obtain rfl : k = rs.length := by omega
      have hle : cntOf t rs ≤ 4096 := Nat.le_trans (cntOf_le _ _) hl
      have hls : sumOf t rs ≤ 1048576 := Nat.le_trans (sumOf_le _ _) hB
      rw [List.take_length]
      generalize cntOf t rs = m at *
      generalize sumOf t rs = s at *
      by_cases hm : m = 0
      · subst hm
        rw [if_pos rfl] at HL
        go_wp2
        go_ret
        exact ⟨by rw [HL.out]; rfl, rfl⟩
      · have hm' : ((m : Int) == 0) = false := beq_eq_false_iff_ne.2 (by omega)
        rw [if_neg hm] at HL
        go_wp2
        go_ret
        refine ⟨?_, rfl⟩
        rw [HL.out]
        show Ending.returned (.int .i64 _) = .returned (.int .i64 _)
        congr 2
        omega

end Go.Proofs.Qxb6616119a.Law
