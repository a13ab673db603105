import Derived.Test.Qxb6616119aSplit
namespace Go.Proofs.Qxb6616119a.Law
open Go.ChangeShapes Go.WideShapes Go.ChangeAt Go.RowKit
set_option linter.unusedSimpArgs false
set_option linter.unusedVariables false

theorem Rl.nil (w : World) (a : Option Addr) : Rl w a [] := .inl rfl
theorem built_nil (w : World) (a : Option Addr) : Calls Try.prog 8 #[.slice a 0 0, .int .i64 0] w fun e w' => BuiltE e w w' [] := listing_any (Rl.nil w a) 0 (Nat.zero_le _)
theorem listing_nil (t : Int) : listing t [] = ⟨#[]⟩ := by simp [listing, sel, srt, Lib.join, List.intercalate]
theorem ticks_nil {w w1 : World} {v : Value} (h : Built w w1 v []) (t : Int) : Calls Try.prog 7 #[v, .int .i64 t] w1 fun e w' => e = .returned (.string ⟨#[]⟩) ∧ Below w1.heap.size w1 w' := by
  have := ticks_any h.1 t (Nat.zero_le _) (by simp [bytesOf])
  rwa [listing_nil] at this
theorem count_nil (w : World) (a : Option Addr) (t : Int) : Calls Try.prog 11 #[.slice a 0 0, .int .i64 t] w fun e w' => e = .returned (.int .i64 0) ∧ w' = w := count_any (Rl.nil w a) 0 t (Nat.zero_le _)
theorem length_nil (w : World) (a : Option Addr) (t : Int) : Calls Try.prog 12 #[.slice a 0 0, .int .i64 t] w fun e w' => e = .returned (.int .i64 0) ∧ w' = w := length_any (Rl.nil w a) 0 t (Nat.zero_le _) (by simp [bytesOf])

set_option maxHeartbeats 3200000 in
set_option maxRecDepth 10000 in
theorem split_nil (w : World) (a : Option Addr) (t k : Int) :
    Calls Try.prog 4 #[.slice a 0 0, .int .i64 t, .int .i64 k] w fun e w' => Right e w w' := by
  go_enter Try.func4, Try.ntmps4
  go_wp2_with fail
  refine (bytes10_any (Rl.nil w a) 0 t k (Nat.zero_le _) (fun r hr => by cases hr)).mono ?_
  rintro e w1 ⟨bb, rfl, rfl, hbb⟩
  clear hbb
  cases bb with
  | false =>
    go_wp2
    go_ret
    exact ⟨rfl, Below.refl _ _⟩
  | true =>
    go_wp2_with fail
    refine (fit_any (Rl.nil w1 a) 0 (Nat.zero_le _) (fun r hr => by cases hr)).mono ?_
    rintro e w1 ⟨bb, rfl, rfl, hbb⟩
    clear hbb
    cases bb with
    | false =>
      go_wp2
      go_ret
      exact ⟨rfl, Below.refl _ _⟩
    | true =>
      by_cases hk : k = 0
      · subst hk
        cases a <;> (
        go_wp2_with fail
        refine (built_nil w1 _).mono ?_
        rintro e w2 ⟨v2, rfl, hb2⟩
        have T2 := ticks_nil hb2 t
        have B2 : Hid (Below w1.heap.size w1 w2) := hb2.2
        clear hb2
        go_wp2_with fail
        refine T2.mono ?_
        clear T2
        rintro e w3 ⟨rfl, hb3⟩
        have B3 : Hid (Below w1.heap.size w1 w3) := B2.out.trans (hb3.mono B2.out.size)
        clear hb3 B2
        go_wp2_with fail
        refine (built_nil w3 _).mono ?_
        rintro e w4 ⟨v4, rfl, hb4⟩
        have T4 := ticks_nil hb4 t
        have B4 : Hid (Below w1.heap.size w1 w4) := B3.out.trans (hb4.2.mono B3.out.size)
        clear hb4 B3
        go_wp2_with fail
        refine T4.mono ?_
        clear T4
        rintro e w5 ⟨rfl, hb5⟩
        have B5 : Hid (Below w1.heap.size w1 w5) := B4.out.trans (hb5.mono B4.out.size)
        clear hb5 B4
        go_wp2_with fail
        refine (built_nil w5 _).mono ?_
        rintro e w6 ⟨v6, rfl, hb6⟩
        have T6 := ticks_nil hb6 t
        have B6 : Hid (Below w1.heap.size w1 w6) := B5.out.trans (hb6.2.mono B5.out.size)
        clear hb6 B5
        go_wp2_with fail
        refine T6.mono ?_
        clear T6
        rintro e w7 ⟨rfl, hb7⟩
        have B7 : Hid (Below w1.heap.size w1 w7) := B6.out.trans (hb7.mono B6.out.size)
        clear hb7 B6
        go_wp2_with fail
        refine (count_nil w7 _ t).mono ?_
        rintro e w8 ⟨rfl, rfl⟩
        go_wp2_with fail
        refine (length_nil w8 _ t).mono ?_
        rintro e w9 ⟨rfl, rfl⟩
        go_wp2
        go_ret
        exact ⟨rfl, B7.out⟩)
      · by_cases hk1 : k < 0
        · go_wp2
          go_ret
          exact ⟨rfl, Below.refl _ _⟩
        · have hk2 : (0 : Int) < k := by omega
          go_wp2
          go_ret
          exact ⟨rfl, Below.refl _ _⟩
end Go.Proofs.Qxb6616119a.Law
