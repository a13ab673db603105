import Derived.Test.Qxb6616109aBase
namespace Go.Proofs.Qxb6616109a.fnHoldsExclusiveHandOver
open Go.ChangeShapes Go.WideShapes Go.ChangeAt Go.RowKit

/-- The first place of tx among the holders, or -1. -/
def idxI (hs : List (Int × Int)) (tx : Int) : Int :=
  match hs.findIdx? (fun h => h.1 == tx) with
  | some k => k
  | none => -1

theorem idxI_at {hs : List (Int × Int)} {tx : Int} {k : Nat} (hk : k < hs.length) (h0 : ∀ j (hj : j < k), (hs[j].1 == tx) = false) (h1 : (hs[k].1 == tx) = true) : idxI hs tx = k := by
  have : hs.findIdx? (fun h => h.1 == tx) = some k := by
    rw [List.findIdx?_eq_some_iff_getElem]
    exact ⟨hk, h1, fun j hj => by simp [h0 j hj]⟩
  simp [idxI, this]

theorem idxI_none {hs : List (Int × Int)} {tx : Int} (h0 : ∀ j (hj : j < hs.length), (hs[j].1 == tx) = false) : idxI hs tx = -1 := by
  have : hs.findIdx? (fun h => h.1 == tx) = none := by
    rw [List.findIdx?_eq_none_iff]
    intro x hx
    obtain ⟨j, hj, rfl⟩ := List.getElem_of_mem hx
    exact h0 j hj
  simp [idxI, this]

theorem Hs.form {w : World} {base : Nat} {v : Value} {hs : List (Int × Int)} (h : Hs w base v hs) : ∃ ao c, v = .slice ao hs.length c ∧
    (hs ≠ [] → ∃ g, ao = some ⟨g, 0, none⟩ ∧ g < w.heap.size ∧ ∀ k (hk : k < hs.length), w.cell? ⟨g, k * 2, none⟩ = some (.int .i64 hs[k].1) ∧ w.cell? ⟨g, k * 2 + 1, none⟩ = some (.int .u8 hs[k].2)) := by
  have h' := h
  rcases h.2 with ⟨h1, h2⟩ | ⟨g, cap, cur, h1, h2, h3, h4, h5, h6, h7⟩
  · refine ⟨none, 0, by rw [h1, h2], fun hne => ?_⟩
    exact absurd (List.eq_nil_of_length_eq_zero h2) hne
  · refine ⟨_, _, h1, fun _ => ⟨g, rfl, (Array.getElem?_eq_some_iff.1 h3).1, fun k hk => ?_⟩⟩
    subst h1
    have := hcells_get hs k hk
    rw [World.ownsRow.cellAt h' (k * 2) (by omega), World.ownsRow.cellAt h' (k * 2 + 1) (by omega)]
    exact this

set_option maxHeartbeats 800000 in
theorem index35 {w : World} {base : Nat} {v : Value} {hs : List (Int × Int)} (h : Hs w base v hs) (tx : Int) (B : Nat) (hB : w.cell? ⟨B, 0, none⟩ = some (.int .i64 tx)) (hl : hs.length ≤ 1000) :
    Calls Try.prog 36 #[v, .func (.func 35) #[] #[.pointer (some ⟨B, 0, none⟩)]] w fun e w' => e = .returned (.int .i64 (idxI hs tx)) ∧ Quiet w w' := by
  obtain ⟨ao, c, rfl, hc⟩ := h.form
  go_enter Try.func36, Try.ntmps36
  go_wp2
  go_loopw [8] (fun i wr => ∃ k : Nat, k ≤ hs.length ∧ i = .int .i64 k ∧ (∀ j (hj : j < hs.length), j < k → (hs[j].1 == tx) = false) ∧ Quiet w wr) (fun i _ => hs.length - (intOf i).toNat)
  case atStart => exact ⟨0, Nat.zero_le _, rfl, fun j _ hj => by omega, Quiet.refl _⟩
  case round =>
    obtain ⟨k, hk, rfl, hno, hq⟩ := hrel
    have HN : Hid (∀ j (hj : j < hs.length), j < k → (hs[j].1 == tx) = false) := hno
    clear hno
    by_cases hlt : k < hs.length
    · obtain ⟨g, rfl, hg, hcell⟩ := hc (by rintro rfl; simp at hlt)
      obtain ⟨c1, c2⟩ := hcell k hlt
      have k1 := hq.cell c1
      have k2 := hq.cell c2
      have kB := hq.cell hB
      clear hcell hc c1 c2
      generalize hx : hs[k].1 = x at *
      generalize hs[k].2 = m at *
      have HX : Hid (hs[k].1 = x) := hx
      clear hx
      go_wp2_with fail
      refine (cl35 x m tx B _ kB).mono ?_
      rintro e w1 ⟨rfl, hq1⟩
      by_cases hxt : x = tx
      · have hb : (x == tx) = true := beq_iff_eq.2 hxt
        have hfin : Hid (idxI hs tx = k) := idxI_at hlt (fun j hj => HN.out j (by omega) hj) (by rw [HX.out]; exact hb)
        clear hxt
        go_wp2_with fail
        go_ret
        exact ⟨by rw [hfin.out]; rfl, hq.trans hq1⟩
      · have hb : (x == tx) = false := beq_eq_false_iff_ne.2 hxt
        have hno' : Hid (∀ j (hj : j < hs.length), j < k + 1 → (hs[j].1 == tx) = false) := fun j hj hjk => by
          by_cases hj2 : j < k
          · exact HN.out j hj hj2
          · obtain rfl : j = k := by omega
            rw [HX.out]; exact hb
        clear hxt
        go_wp2_with fail
        go_roundw
        case rel => exact ⟨k + 1, by omega, by go_num, hno'.out, hq.trans hq1⟩
        case measure => simp [intOf]; omega
    · have hfin : Hid (idxI hs tx = -1) := idxI_none (fun j hj => HN.out j hj (by omega))
      clear hc
      go_wp2
      go_ret
      exact ⟨by rw [hfin.out]; rfl, hq⟩

set_option maxHeartbeats 800000 in
theorem index64 {w : World} {base : Nat} {v : Value} {hs : List (Int × Int)} (h : Hs w base v hs) (tx : Int) (B : Nat) (hB : w.cell? ⟨B, 0, none⟩ = some (.int .i64 tx)) (hl : hs.length ≤ 1000) :
    Calls Try.prog 36 #[v, .func (.func 64) #[] #[.pointer (some ⟨B, 0, none⟩)]] w fun e w' => e = .returned (.int .i64 (idxI hs tx)) ∧ Quiet w w' := by
  obtain ⟨ao, c, rfl, hc⟩ := h.form
  go_enter Try.func36, Try.ntmps36
  go_wp2
  go_loopw [8] (fun i wr => ∃ k : Nat, k ≤ hs.length ∧ i = .int .i64 k ∧ (∀ j (hj : j < hs.length), j < k → (hs[j].1 == tx) = false) ∧ Quiet w wr) (fun i _ => hs.length - (intOf i).toNat)
  case atStart => exact ⟨0, Nat.zero_le _, rfl, fun j _ hj => by omega, Quiet.refl _⟩
  case round =>
    obtain ⟨k, hk, rfl, hno, hq⟩ := hrel
    have HN : Hid (∀ j (hj : j < hs.length), j < k → (hs[j].1 == tx) = false) := hno
    clear hno
    by_cases hlt : k < hs.length
    · obtain ⟨g, rfl, hg, hcell⟩ := hc (by rintro rfl; simp at hlt)
      obtain ⟨c1, c2⟩ := hcell k hlt
      have k1 := hq.cell c1
      have k2 := hq.cell c2
      have kB := hq.cell hB
      clear hcell hc c1 c2
      generalize hx : hs[k].1 = x at *
      generalize hs[k].2 = m at *
      have HX : Hid (hs[k].1 = x) := hx
      clear hx
      go_wp2_with fail
      refine (cl64 x m tx B _ kB).mono ?_
      rintro e w1 ⟨rfl, hq1⟩
      by_cases hxt : x = tx
      · have hb : (x == tx) = true := beq_iff_eq.2 hxt
        have hfin : Hid (idxI hs tx = k) := idxI_at hlt (fun j hj => HN.out j (by omega) hj) (by rw [HX.out]; exact hb)
        clear hxt
        go_wp2_with fail
        go_ret
        exact ⟨by rw [hfin.out]; rfl, hq.trans hq1⟩
      · have hb : (x == tx) = false := beq_eq_false_iff_ne.2 hxt
        have hno' : Hid (∀ j (hj : j < hs.length), j < k + 1 → (hs[j].1 == tx) = false) := fun j hj hjk => by
          by_cases hj2 : j < k
          · exact HN.out j hj hj2
          · obtain rfl : j = k := by omega
            rw [HX.out]; exact hb
        clear hxt
        go_wp2_with fail
        go_roundw
        case rel => exact ⟨k + 1, by omega, by go_num, hno'.out, hq.trans hq1⟩
        case measure => simp [intOf]; omega
    · have hfin : Hid (idxI hs tx = -1) := idxI_none (fun j hj => HN.out j hj (by omega))
      clear hc
      go_wp2
      go_ret
      exact ⟨by rw [hfin.out]; rfl, hq⟩

set_option maxHeartbeats 800000 in
theorem index21 {w : World} {base : Nat} {v : Value} {hs : List (Int × Int)} (h : Hs w base v hs) (tx : Int) (B : Nat) (hB : w.cell? ⟨B, 0, none⟩ = some (.int .i64 tx)) (hl : hs.length ≤ 1000) :
    Calls Try.prog 36 #[v, .func (.func 21) #[] #[.pointer (some ⟨B, 0, none⟩)]] w fun e w' => e = .returned (.int .i64 (idxI hs tx)) ∧ Quiet w w' := by
  obtain ⟨ao, c, rfl, hc⟩ := h.form
  go_enter Try.func36, Try.ntmps36
  go_wp2
  go_loopw [8] (fun i wr => ∃ k : Nat, k ≤ hs.length ∧ i = .int .i64 k ∧ (∀ j (hj : j < hs.length), j < k → (hs[j].1 == tx) = false) ∧ Quiet w wr) (fun i _ => hs.length - (intOf i).toNat)
  case atStart => exact ⟨0, Nat.zero_le _, rfl, fun j _ hj => by omega, Quiet.refl _⟩
  case round =>
    obtain ⟨k, hk, rfl, hno, hq⟩ := hrel
    have HN : Hid (∀ j (hj : j < hs.length), j < k → (hs[j].1 == tx) = false) := hno
    clear hno
    by_cases hlt : k < hs.length
    · obtain ⟨g, rfl, hg, hcell⟩ := hc (by rintro rfl; simp at hlt)
      obtain ⟨c1, c2⟩ := hcell k hlt
      have k1 := hq.cell c1
      have k2 := hq.cell c2
      have kB := hq.cell hB
      clear hcell hc c1 c2
      generalize hx : hs[k].1 = x at *
      generalize hs[k].2 = m at *
      have HX : Hid (hs[k].1 = x) := hx
      clear hx
      go_wp2_with fail
      refine (cl21 x m tx B _ kB).mono ?_
      rintro e w1 ⟨rfl, hq1⟩
      by_cases hxt : x = tx
      · have hb : (x == tx) = true := beq_iff_eq.2 hxt
        have hfin : Hid (idxI hs tx = k) := idxI_at hlt (fun j hj => HN.out j (by omega) hj) (by rw [HX.out]; exact hb)
        clear hxt
        go_wp2_with fail
        go_ret
        exact ⟨by rw [hfin.out]; rfl, hq.trans hq1⟩
      · have hb : (x == tx) = false := beq_eq_false_iff_ne.2 hxt
        have hno' : Hid (∀ j (hj : j < hs.length), j < k + 1 → (hs[j].1 == tx) = false) := fun j hj hjk => by
          by_cases hj2 : j < k
          · exact HN.out j hj hj2
          · obtain rfl : j = k := by omega
            rw [HX.out]; exact hb
        clear hxt
        go_wp2_with fail
        go_roundw
        case rel => exact ⟨k + 1, by omega, by go_num, hno'.out, hq.trans hq1⟩
        case measure => simp [intOf]; omega
    · have hfin : Hid (idxI hs tx = -1) := idxI_none (fun j hj => HN.out j hj (by omega))
      clear hc
      go_wp2
      go_ret
      exact ⟨by rw [hfin.out]; rfl, hq⟩


def hasB (hs : List (Int × Int)) (tx : Int) : Bool := decide (0 ≤ idxI hs tx)

theorem contains_any {w : World} {base : Nat} {v : Value} {hs : List (Int × Int)} (h : Hs w base v hs) (tx : Int) (B : Nat) (hB : w.cell? ⟨B, 0, none⟩ = some (.int .i64 tx)) (hl : hs.length ≤ 1000) :
    Calls Try.prog 34 #[v, .func (.func 35) #[] #[.pointer (some ⟨B, 0, none⟩)]] w fun e w' => e = .returned (.bool (hasB hs tx)) ∧ Quiet w w' := by
  go_enter Try.func34, Try.ntmps34
  go_wp2_with fail
  refine (index35 h tx B hB hl).mono ?_
  rintro e w1 ⟨rfl, hq1⟩
  go_wp2
  go_ret
  exact ⟨by simp [hasB], hq1⟩

end Go.Proofs.Qxb6616109a.fnHoldsExclusiveHandOver
