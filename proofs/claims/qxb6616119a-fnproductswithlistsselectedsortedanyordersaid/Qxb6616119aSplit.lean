import Derived.Test.Qxb6616119aWith
namespace Go.Proofs.Qxb6616119a.Law
open Go.ChangeShapes Go.WideShapes Go.ChangeAt Go.RowKit
set_option linter.unusedSimpArgs false
set_option linter.unusedVariables false

theorem listing_any {w : World} {a : Option Addr} {rs : List Rule} (h : Rl w a rs) (cap : Nat) (hl : rs.length ≤ 4096) :
    Calls Try.prog 8 #[.slice a rs.length cap, .int .i64 0] w fun e w' => BuiltE e w w' rs := by
  have := build_any h cap 0 hl (Nat.zero_le _)
  simpa using this

theorem Rl.take {w : World} {b off : Nat} {rs : List Rule} (h : Rl w (some ⟨b, off, none⟩) rs) (j : Nat) : Rl w (some ⟨b, off, none⟩) (rs.take j) := by
  rcases h with rfl | ⟨b', off', e, hb, hc⟩
  · exact .inl (by simp)
  · refine .inr ⟨b', off', e, hb, fun i hi => ?_⟩
    have := hc i (by rw [List.length_take] at hi; omega)
    simpa using this
theorem Rl.drop {w : World} {b off : Nat} {rs : List Rule} (h : Rl w (some ⟨b, off, none⟩) rs) (j : Nat) : Rl w (some ⟨b, off + j * 3, none⟩) (rs.drop j) := by
  rcases h with rfl | ⟨b', off', e, hb, hc⟩
  · exact .inl (by simp)
  · cases e
    refine .inr ⟨b, off + j * 3, rfl, hb, fun i hi => ?_⟩
    have := hc (j + i) (by rw [List.length_drop] at hi; omega)
    rw [List.getElem_drop, show off + j * 3 + i * 3 = off + (j + i) * 3 by omega]
    exact this
theorem bytesOf_drop (rs : List Rule) (k : Nat) : bytesOf (rs.drop k) ≤ bytesOf rs := by
  unfold bytesOf
  conv => rhs; rw [← List.take_append_drop k rs]
  rw [List.map_append, List.sum_append]
  omega

theorem take_built {w : World} {a : Option Addr} {rs : List Rule} {j : Nat} (h : Rl w a (rs.take j)) (hj : j ≤ rs.length) (cap : Nat) (hl : rs.length ≤ 4096) :
    Calls Try.prog 8 #[.slice a j cap, .int .i64 0] w fun e w' => BuiltE e w w' (rs.take j) := by
  have e1 : (rs.take j).length = j := by rw [List.length_take]; omega
  have := listing_any h cap (by omega)
  rwa [e1] at this
theorem drop_built {w : World} {a : Option Addr} {rs : List Rule} {j : Nat} (h : Rl w a (rs.drop j)) (cap : Nat) (hl : rs.length ≤ 4096) :
    Calls Try.prog 8 #[.slice a (rs.length - j) cap, .int .i64 0] w fun e w' => BuiltE e w w' (rs.drop j) := by
  have := listing_any h cap (by rw [List.length_drop]; omega)
  rwa [List.length_drop] at this
theorem take_count {w : World} {a : Option Addr} {rs : List Rule} {j : Nat} (h : Rl w a (rs.take j)) (hj : j ≤ rs.length) (cap : Nat) (t : Int) (hl : rs.length ≤ 4096) :
    Calls Try.prog 11 #[.slice a j cap, .int .i64 t] w fun e w' => e = .returned (.int .i64 (cntOf t (rs.take j))) ∧ w' = w := by
  have e1 : (rs.take j).length = j := by rw [List.length_take]; omega
  have := count_any h cap t (by omega)
  rwa [e1] at this
theorem drop_count {w : World} {a : Option Addr} {rs : List Rule} {j : Nat} (h : Rl w a (rs.drop j)) (cap : Nat) (t : Int) (hl : rs.length ≤ 4096) :
    Calls Try.prog 11 #[.slice a (rs.length - j) cap, .int .i64 t] w fun e w' => e = .returned (.int .i64 (cntOf t (rs.drop j))) ∧ w' = w := by
  have := count_any h cap t (by rw [List.length_drop]; omega)
  rwa [List.length_drop] at this
theorem drop_built0 {w : World} {a : Option Addr} {rs : List Rule} {j : Nat} (h : Rl w a (rs.drop j)) (hj : rs.length ≤ j) (cap : Nat) :
    Calls Try.prog 8 #[.slice a 0 cap, .int .i64 0] w fun e w' => BuiltE e w w' (rs.drop j) := by
  have e : (rs.drop j).length = 0 := by rw [List.length_drop]; omega
  have := listing_any h cap (by omega)
  rwa [e] at this
theorem drop_count0 {w : World} {a : Option Addr} {rs : List Rule} {j : Nat} (h : Rl w a (rs.drop j)) (hj : rs.length ≤ j) (cap : Nat) (t : Int) :
    Calls Try.prog 11 #[.slice a 0 cap, .int .i64 t] w fun e w' => e = .returned (.int .i64 (cntOf t (rs.drop j))) ∧ w' = w := by
  have e : (rs.drop j).length = 0 := by rw [List.length_drop]; omega
  have := count_any h cap t (by omega)
  rwa [e] at this
theorem Rl.gone {w : World} {a a' : Option Addr} {rs : List Rule} {j : Nat} (h : Rl w a rs) (hj : rs.length ≤ j) : Rl w a' (rs.drop j) := .inl (List.drop_eq_nil_of_le hj)

def Right (e : Ending) (w w' : World) : Prop := e = .returned (.bool true) ∧ Below w.heap.size w w'

set_option maxHeartbeats 3200000 in
set_option maxRecDepth 10000 in
theorem split_some {w : World} {b off : Nat} {rs : List Rule} (h : Rl w (some ⟨b, off, none⟩) rs) (cap : Nat) (t k : Int) (hn : rs.length ≤ cap) (hcap : cap ≤ maxLen) (hp : ∀ r, r ∈ rs → r.1.size ≤ maxLen) :
    Calls Try.prog 4 #[.slice (some ⟨b, off, none⟩) rs.length cap, .int .i64 t, .int .i64 k] w fun e w' => Right e w w' := by
  have HP : Hid (∀ r, r ∈ rs → r.1.size ≤ maxLen) := hp
  have hl : Hid (rs.length ≤ maxLen) := Nat.le_trans hn hcap
  clear hp
  go_enter Try.func4, Try.ntmps4
  go_wp2_with fail
  refine (bytes10_any h cap t k hl.out HP.out).mono ?_
  rintro e w1 ⟨bb, rfl, rfl, hbb⟩
  clear HP
  cases bb with
  | false =>
    go_wp2
    go_ret
    exact ⟨rfl, Below.refl _ _⟩
  | true =>
    obtain ⟨h20, hsz⟩ := hbb rfl
    have HP : Hid (∀ r, r ∈ rs → r.1.size ≤ 1048576) := hsz
    clear hbb hsz
    go_wp2_with fail
    refine (fit_any h cap h20 HP.out).mono ?_
    rintro e w1 ⟨bb, rfl, rfl, hbb⟩
    cases bb with
    | false =>
      go_wp2
      go_ret
      exact ⟨rfl, Below.refl _ _⟩
    | true =>
      obtain ⟨h12, hby⟩ := hbb rfl
      clear hbb HP
      by_cases hk : 0 ≤ k ∧ k ≤ rs.length
      · obtain ⟨j, rfl⟩ := Int.eq_ofNat_of_zero_le hk.1
        have hj : j ≤ rs.length := by omega
        clear hk
        go_wp2_with fail
        refine (listing_any h cap h12).mono ?_
        rintro e w2 ⟨v2, rfl, hb2⟩
        have T2 := ticks_any hb2.1 t h12 hby
        have B2 : Hid (Below w1.heap.size w1 w2) := hb2.2
        clear hb2
        go_wp2_with fail
        refine T2.mono ?_
        clear T2
        rintro e w3 ⟨rfl, hb3⟩
        have B3 : Hid (Below w1.heap.size w1 w3) := B2.out.trans (hb3.mono B2.out.size)
        clear hb3 B2
        go_wp2_with fail
        refine (take_built ((h.below B3.out).take j) hj cap h12).mono ?_
        rintro e w4 ⟨v4, rfl, hb4⟩
        have T4 := ticks_any hb4.1 t (by rw [List.length_take]; omega) (Nat.le_trans (bytesOf_mem rs j) hby)
        have B4 : Hid (Below w1.heap.size w1 w4) := B3.out.trans (hb4.2.mono B3.out.size)
        clear hb4 B3
        go_wp2_with fail
        refine T4.mono ?_
        clear T4
        rintro e w5 ⟨rfl, hb5⟩
        have B5 : Hid (Below w1.heap.size w1 w5) := B4.out.trans (hb5.mono B4.out.size)
        clear hb5 B4
        have hjc : j ≤ cap := by omega
        have HRt : ∀ w', Hid (Below w1.heap.size w1 w') → Hid (Rl w' (some ⟨b, off, none⟩) (rs.take j)) := fun w' hb => (h.below hb.out).take j
        have HRw : ∀ w', Hid (Below w1.heap.size w1 w') → Hid (Rl w' (some ⟨b, off, none⟩) rs) := fun w' hb => h.below hb.out
        rcases Nat.eq_or_lt_of_le hjc with hcj | hcj
        · subst hcj
          have HRd : ∀ w', Hid (Below w1.heap.size w1 w') → Hid (Rl w' (some ⟨b, off, none⟩) (rs.drop j)) := fun w' hb => (h.below hb.out).gone (by omega)
          go_wp2_with fail
          refine (drop_built0 (HRd _ B5).out hn _).mono ?_
          rintro e w6 ⟨v6, rfl, hb6⟩
          have T6 := ticks_any hb6.1 t (by rw [List.length_drop]; omega) (Nat.le_trans (bytesOf_drop rs j) hby)
          have B6 : Hid (Below w1.heap.size w1 w6) := B5.out.trans (hb6.2.mono B5.out.size)
          clear hb6 B5
          go_wp2_with fail
          refine T6.mono ?_
          clear T6
          rintro e w7 ⟨rfl, hb7⟩
          have B7 : Hid (Below w1.heap.size w1 w7) := B6.out.trans (hb7.mono B6.out.size)
          clear hb7 B6
          go_wp2_with fail
          have C1 := take_count (HRt _ B7).out hj j t h12
          have C2 := drop_count0 (HRd _ B7).out hn 0 t
          have C3 := length_any (HRw _ B7).out j t h12 hby
          have hz0 := listing_size t rs
          have hz1 := listing_size t (rs.take j)
          have hz2 := listing_size t (rs.drop j)
          have hm0 := lenOf_le t rs h12 hby
          have HC : Hid (lenOf t rs = lenOf t (rs.take j) + lenOf t (rs.drop j) + (if 0 < cntOf t (rs.take j) ∧ 0 < cntOf t (rs.drop j) then 2 else 0)) := lenOf_cut t rs j
          have hc1 : cntOf t (rs.take j) ≤ 4096 := Nat.le_trans (cntOf_le _ _) (by rw [List.length_take]; omega)
          have hc2 : cntOf t (rs.drop j) ≤ 4096 := Nat.le_trans (cntOf_le _ _) (by rw [List.length_drop]; omega)
          clear HRt HRw HRd h hby
          generalize listing t rs = L0 at *
          generalize listing t (rs.take j) = L1 at *
          generalize listing t (rs.drop j) = L2 at *
          generalize lenOf t rs = n0 at *
          generalize lenOf t (rs.take j) = n1 at *
          generalize lenOf t (rs.drop j) = n2 at *
          generalize cntOf t (rs.take j) = c1 at *
          generalize cntOf t (rs.drop j) = c2 at *
          refine C1.mono ?_
          rintro e w8 ⟨rfl, rfl⟩
          clear C1
          by_cases hx1 : 0 < c1
          · go_wp2_with fail
            refine C2.mono ?_
            rintro e w9 ⟨rfl, rfl⟩
            clear C2
            by_cases hx2 : 0 < c2
            · rw [if_pos ⟨hx1, hx2⟩] at HC
              go_wp2_with fail
              refine C3.mono ?_
              rintro e w10 ⟨rfl, rfl⟩
              clear C3
              obtain rfl := HC.out
              go_wp2
              go_ret
              exact ⟨by simp, B7.out⟩
            · rw [if_neg (fun hh => hx2 hh.2), Nat.add_zero] at HC
              go_wp2_with fail
              refine C3.mono ?_
              rintro e w10 ⟨rfl, rfl⟩
              clear C3
              obtain rfl := HC.out
              go_wp2
              go_ret
              exact ⟨by simp, B7.out⟩
          · rw [if_neg (fun hh => hx1 hh.1), Nat.add_zero] at HC
            clear C2
            go_wp2_with fail
            refine C3.mono ?_
            rintro e w10 ⟨rfl, rfl⟩
            clear C3
            obtain rfl := HC.out
            go_wp2
            go_ret
            exact ⟨by simp, B7.out⟩
        · have HRd : ∀ w', Hid (Below w1.heap.size w1 w') → Hid (Rl w' (some ⟨b, off + j * 3, none⟩) (rs.drop j)) := fun w' hb => (h.below hb.out).drop j
          have hne : ¬ cap = j := by omega
          go_wp2_with fail
          refine (drop_built (HRd _ B5).out _ h12).mono ?_
          rintro e w6 ⟨v6, rfl, hb6⟩
          have T6 := ticks_any hb6.1 t (by rw [List.length_drop]; omega) (Nat.le_trans (bytesOf_drop rs j) hby)
          have B6 : Hid (Below w1.heap.size w1 w6) := B5.out.trans (hb6.2.mono B5.out.size)
          clear hb6 B5
          go_wp2_with fail
          refine T6.mono ?_
          clear T6
          rintro e w7 ⟨rfl, hb7⟩
          have B7 : Hid (Below w1.heap.size w1 w7) := B6.out.trans (hb7.mono B6.out.size)
          clear hb7 B6
          go_wp2_with fail
          have C1 := take_count (HRt _ B7).out hj cap t h12
          have C2 := drop_count (HRd _ B7).out (cap - j) t h12
          have C3 := length_any (HRw _ B7).out cap t h12 hby
          have hz0 := listing_size t rs
          have hz1 := listing_size t (rs.take j)
          have hz2 := listing_size t (rs.drop j)
          have hm0 := lenOf_le t rs h12 hby
          have HC : Hid (lenOf t rs = lenOf t (rs.take j) + lenOf t (rs.drop j) + (if 0 < cntOf t (rs.take j) ∧ 0 < cntOf t (rs.drop j) then 2 else 0)) := lenOf_cut t rs j
          have hc1 : cntOf t (rs.take j) ≤ 4096 := Nat.le_trans (cntOf_le _ _) (by rw [List.length_take]; omega)
          have hc2 : cntOf t (rs.drop j) ≤ 4096 := Nat.le_trans (cntOf_le _ _) (by rw [List.length_drop]; omega)
          clear HRt HRw HRd h hby
          generalize listing t rs = L0 at *
          generalize listing t (rs.take j) = L1 at *
          generalize listing t (rs.drop j) = L2 at *
          generalize lenOf t rs = n0 at *
          generalize lenOf t (rs.take j) = n1 at *
          generalize lenOf t (rs.drop j) = n2 at *
          generalize cntOf t (rs.take j) = c1 at *
          generalize cntOf t (rs.drop j) = c2 at *
          refine C1.mono ?_
          rintro e w8 ⟨rfl, rfl⟩
          clear C1
          by_cases hx1 : 0 < c1
          · go_wp2_with fail
            refine C2.mono ?_
            rintro e w9 ⟨rfl, rfl⟩
            clear C2
            by_cases hx2 : 0 < c2
            · rw [if_pos ⟨hx1, hx2⟩] at HC
              go_wp2_with fail
              refine C3.mono ?_
              rintro e w10 ⟨rfl, rfl⟩
              clear C3
              obtain rfl := HC.out
              go_wp2
              go_ret
              exact ⟨by simp, B7.out⟩
            · rw [if_neg (fun hh => hx2 hh.2), Nat.add_zero] at HC
              go_wp2_with fail
              refine C3.mono ?_
              rintro e w10 ⟨rfl, rfl⟩
              clear C3
              obtain rfl := HC.out
              go_wp2
              go_ret
              exact ⟨by simp, B7.out⟩
          · rw [if_neg (fun hh => hx1 hh.1), Nat.add_zero] at HC
            clear C2
            go_wp2_with fail
            refine C3.mono ?_
            rintro e w10 ⟨rfl, rfl⟩
            clear C3
            obtain rfl := HC.out
            go_wp2
            go_ret
            exact ⟨by simp, B7.out⟩
      · by_cases hk1 : k < 0
        · go_wp2
          go_ret
          exact ⟨rfl, Below.refl _ _⟩
        · have hk2 : (rs.length : Int) < k := by omega
          go_wp2
          go_ret
          exact ⟨rfl, Below.refl _ _⟩
end Go.Proofs.Qxb6616119a.Law
