import Derived.Test.Qxb6616119aExpect
import Derived.Test.Qxb6616119aSplit
namespace Go.Proofs.Qxb6616119a.Law
open Go.ChangeShapes Go.WideShapes Go.ChangeAt Go.RowKit
set_option linter.unusedSimpArgs false
set_option linter.unusedVariables false

theorem turn_ticks {w w1 : World} {v : Value} {rs : List Rule} {k : Nat} (h : Built w w1 v (rs.drop k ++ rs.take k)) (t : Int) (hl : rs.length ≤ 4096) (hy : bytesOf rs ≤ 1048576) :
    Calls Try.prog 7 #[v, .int .i64 t] w1 fun e w' => e = .returned (.string (listing t rs)) ∧ Below w1.heap.size w1 w' := by
  have hp : (rs.drop k ++ rs.take k).Perm rs := by
    have := List.perm_append_comm (l₁ := rs.drop k) (l₂ := rs.take k)
    rwa [List.take_append_drop] at this
  have h1 : (rs.drop k ++ rs.take k).length ≤ 4096 := by rw [hp.length_eq]; exact hl
  have h2 : bytesOf (rs.drop k ++ rs.take k) ≤ 1048576 := by
    unfold bytesOf at *
    rw [(hp.map _).sum_nat]
    exact hy
  have := ticks_any h.1 t h1 h2
  rwa [listing_turn] at this

set_option maxHeartbeats 3200000 in
set_option maxRecDepth 10000 in
theorem lists_any {w : World} {a : Option Addr} {rs : List Rule} (h : Rl w a rs) (cap : Nat) (t k : Int) (hl : rs.length ≤ maxLen) (hp : ∀ r, r ∈ rs → r.1.size ≤ maxLen) :
    Calls Try.prog 3 #[.slice a rs.length cap, .int .i64 t, .int .i64 k] w fun e w' => Right e w w' := by
  have HP : Hid (∀ r, r ∈ rs → r.1.size ≤ maxLen) := hp
  have HL : Hid (rs.length ≤ maxLen) := hl
  clear hp hl
  go_enter Try.func3, Try.ntmps3
  go_wp2_with fail
  refine (bytes5_any h cap t k HL.out HP.out).mono ?_
  rintro e w1 ⟨bb, rfl, rfl, hbb⟩
  clear HP
  cases bb with
  | false =>
    go_wp2
    go_ret
    exact ⟨rfl, Below.refl _ _⟩
  | true =>
    obtain ⟨h20, hsz⟩ := hbb rfl
    have HP : Hid (∀ r, r ∈ rs → r.1.size ≤ 1048576) := hsz
    clear hbb hsz
    go_wp2_with fail
    refine (fit_any h cap h20 HP.out).mono ?_
    rintro e w1 ⟨bb, rfl, rfl, hbb⟩
    cases bb with
    | false =>
      go_wp2
      go_ret
      exact ⟨rfl, Below.refl _ _⟩
    | true =>
      obtain ⟨h12, hby⟩ := hbb rfl
      clear hbb HP
      by_cases hk : 0 ≤ k ∧ k ≤ rs.length
      · obtain ⟨j, rfl⟩ := Int.eq_ofNat_of_zero_le hk.1
        have hj : j ≤ rs.length := by omega
        clear hk
        go_wp2_with fail
        refine (listing_any h cap h12).mono ?_
        rintro e w2 ⟨v2, rfl, hb2⟩
        have T2 := ticks_any hb2.1 t h12 hby
        have B2 : Hid (Below w1.heap.size w1 w2) := hb2.2
        clear hb2
        go_wp2_with fail
        refine T2.mono ?_
        clear T2
        rintro e w3 ⟨rfl, hb3⟩
        have B3 : Hid (Below w1.heap.size w1 w3) := B2.out.trans (hb3.mono B2.out.size)
        clear hb3 B2
        go_wp2_with fail
        refine (build_any (h.below B3.out) cap j h12 hj).mono ?_
        rintro e w4 ⟨v4, rfl, hb4⟩
        have T4 := turn_ticks hb4 t h12 hby
        have B4 : Hid (Below w1.heap.size w1 w4) := B3.out.trans (hb4.2.mono B3.out.size)
        clear hb4 B3
        go_wp2_with fail
        refine T4.mono ?_
        clear T4
        rintro e w5 ⟨rfl, hb5⟩
        have B5 : Hid (Below w1.heap.size w1 w5) := B4.out.trans (hb5.mono B4.out.size)
        clear hb5 B4
        have E5 := expect_any (h.below B5.out) cap t h12 hby
        clear h
        generalize listing t rs = L at *
        go_wp2_with fail
        refine E5.mono ?_
        clear E5
        rintro e w6 ⟨rfl, hb6⟩
        have B6 : Hid (Below w1.heap.size w1 w6) := B5.out.trans (hb6.mono B5.out.size)
        clear hb6 B5
        go_wp2
        go_ret
        exact ⟨rfl, B6.out⟩
      · by_cases hk1 : k < 0
        · go_wp2
          go_ret
          exact ⟨rfl, Below.refl _ _⟩
        · have hk2 : (rs.length : Int) < k := by omega
          go_wp2
          go_ret
          exact ⟨rfl, Below.refl _ _⟩
end Go.Proofs.Qxb6616119a.Law
