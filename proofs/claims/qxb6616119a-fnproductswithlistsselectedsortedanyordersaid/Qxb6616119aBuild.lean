import Derived.Test.Qxb6616119aPush
namespace Go.Proofs.Qxb6616119a.Law
open Go.ChangeShapes Go.WideShapes Go.ChangeAt Go.RowKit
set_option linter.unusedSimpArgs false
set_option linter.unusedVariables false

/-- The rules lie, built, in a row of the call's own. -/
def Built (w w' : World) (v : Value) (rs : List Rule) : Prop := w'.ownsRow w.heap.size 40 18 v rs.length (cellsOf rs) ∧ Below w.heap.size w w'
def BuiltE (e : Ending) (w w' : World) (rs : List Rule) : Prop := ∃ v, e = .returned v ∧ Built w w' v rs

theorem Built.push {w wr w1 : World} {v v' : Value} {rs : List Rule} {r : Rule} (h : Built w wr v rs) (h1 : w1.ownsRow w.heap.size 40 18 v' (rs.length + 1) (cellsOf rs ++ rcells r)) (h2 : Below w.heap.size wr w1) : Built w w1 v' (rs ++ [r]) := by
  refine ⟨?_, h.2.trans h2⟩
  rw [cellsOf_snoc, List.length_append]
  exact h1
theorem Built.below {w wr w1 : World} {v : Value} {rs : List Rule} (h : Built w wr v rs) (h2 : Below wr.heap.size wr w1) : w1.ownsRow w.heap.size 40 18 v rs.length (cellsOf rs) :=
  h.1.kept (row := none) ⟨h2.os, h2.tape, h2.output, h2.size, fun k hk _ => h2.block k hk⟩ (by cases v.ownBlock <;> simp)

theorem drop_snoc (rs : List Rule) (k m : Nat) (h : k + m < rs.length) : (rs.drop k).take (m + 1) = (rs.drop k).take m ++ [rs[k + m]] := by
  rw [List.take_succ_eq_append_getElem (by rw [List.length_drop]; omega), List.getElem_drop]

set_option maxHeartbeats 1600000 in
set_option maxRecDepth 10000 in
theorem build_any {w : World} {a : Option Addr} {rs : List Rule} (h : Rl w a rs) (cap k : Nat) (hl : rs.length ≤ 4096) (hk : k ≤ rs.length) :
    Calls Try.prog 8 #[.slice a rs.length cap, .int .i64 k] w fun e w' => BuiltE e w w' (rs.drop k ++ rs.take k) := by
  obtain ⟨i0, hi, hz0, hz1, hz2⟩ := info_parts row40
  have HI : Hid (Try.prog.info? 40 = some i0) := hi
  have HZ : Hid (i0.zero = some (.agg (rcells (⟨#[]⟩, 0, 0)).toArray)) := hz0
  have HY : Hid (i0.bytes * rs.length ≤ 281474976710656) := by show _ ≤ _; rw [hz2]; omega
  have HS : Hid (i0.size = 18) := hz1
  clear hi hz0 hz1 hz2
  go_enter Try.func8, Try.ntmps8
  go_wp2_with (at_make; refine wpList_make_own _ rfl _ _ 26 rfl w.heap.size 40 i0 _ 18 Try.underlying26 HI.out HZ.out HS.out _ _ _ rs.length rfl rfl rfl HY.out (by unfold maxLen; omega) (Nat.le_refl _) ?_)
  intro w1 hown hgrow
  have hB : Built w w1 (.slice (some ⟨w.heap.size, 0, none⟩) 0 rs.length) [] := ⟨hown, (Below.refl _ _).grown hgrow (Nat.le_refl _) (fun k hk => by cases hk)⟩
  clear hown hgrow HI HZ HY HS
  go_wp2_with fail
  go_loopw [5, 6] (fun v i wr => ∃ m : Nat, k + m ≤ rs.length ∧ i = .int .i64 ((k + m : Nat) : Int) ∧ Built w wr v ((rs.drop k).take m)) (fun _ i _ => rs.length - (intOf i).toNat)
  case atStart => exact ⟨0, by omega, rfl, hB⟩
  case round =>
    clear hB
    obtain ⟨m, hm, rfl, hB⟩ := hrel
    by_cases hlt : k + m < rs.length
    · obtain ⟨b, off, rfl, hb, c1, c2, c3⟩ := (h.below hB.2).at hlt
      have HD : Hid ((rs.drop k).take (m + 1) = (rs.drop k).take m ++ [rs[k + m]]) := drop_snoc rs k m hlt
      have hle : ((rs.drop k).take m).length ≤ 4096 := by rw [List.length_take, List.length_drop]; omega
      generalize rs[k + m] = r at *
      generalize (rs.drop k).take m = ys at *
      go_wp2_with fail
      refine (newRule_any r wr).mono ?_
      rintro e w2 ⟨rfl, hb2⟩
      have HB2 : Hid (Below wr.heap.size wr w2) := hb2
      have HB : Hid (Built w wr _ ys) := hB
      clear hb2 hB
      go_wp2_with (first | (refine wpList_build18 rfl (.tmp 23) rfl r rfl ?_) | (at_builtin; refine wpList_push18 rfl (.tmp 18) (.tmp 24) rfl w.heap.size _ ys.length (cellsOf ys) r rfl rfl (HB.out.below HB2.out) hle (Nat.le_trans HB.out.2.size HB2.out.size) ?_))
      intro v' w3 ho3 hb3
      have R := HB.out.push ho3 ((HB2.out.mono HB.out.2.size).trans hb3)
      clear ho3 hb3 HB HB2 hle
      go_wp2
      go_roundw
      case rel => exact ⟨m + 1, by omega, by go_num, by rw [HD.out]; exact R⟩
      case measure => simp [intOf]; omega
    · obtain rfl : m = rs.length - k := by omega
      have hB' := hB
      rw [List.take_of_length_le (by rw [List.length_drop]; omega), ← List.append_nil (rs.drop k)] at hB'
      clear hB
      have hkl : k + (rs.length - k) = rs.length := by omega
      rw [hkl]
      clear hkl hlt hm
      go_wp2_with fail
      go_loopw [5, 7] (fun v i wr => ∃ m : Nat, m ≤ k ∧ i = .int .i64 (m : Int) ∧ Built w wr v (rs.drop k ++ rs.take m)) (fun _ i _ => k - (intOf i).toNat)
      case atStart => exact ⟨0, by omega, rfl, hB'⟩
      case round =>
        clear hB'
        obtain ⟨m, hm, rfl, hB⟩ := hrel
        by_cases hlt : m < k
        · obtain ⟨b, off, rfl, hb, c1, c2, c3⟩ := (h.below hB.2).at (k := m) (by omega)
          have HD : Hid (rs.drop k ++ rs.take (m + 1) = (rs.drop k ++ rs.take m) ++ [rs[m]]) := by
            show _ = _
            rw [List.take_succ_eq_append_getElem (by omega), List.append_assoc]
          have hle : (rs.drop k ++ rs.take m).length ≤ 4096 := by rw [List.length_append, List.length_take, List.length_drop]; omega
          generalize rs[m] = r at *
          generalize rs.drop k ++ rs.take m = ys at *
          go_wp2_with fail
          refine (newRule_any r _).mono ?_
          rintro e w2 ⟨rfl, hb2⟩
          have HB2 : Hid (Below _ _ w2) := hb2
          have HB : Hid (Built w _ _ ys) := hB
          clear hb2 hB
          go_wp2_with (first | (refine wpList_build18 rfl (.tmp 36) rfl r rfl ?_) | (at_builtin; refine wpList_push18 rfl (.tmp 31) (.tmp 37) rfl w.heap.size _ ys.length (cellsOf ys) r rfl rfl (HB.out.below HB2.out) hle (Nat.le_trans HB.out.2.size HB2.out.size) ?_))
          intro v' w3 ho3 hb3
          have R := HB.out.push ho3 ((HB2.out.mono HB.out.2.size).trans hb3)
          clear ho3 hb3 HB HB2 hle
          go_wp2
          go_roundw
          case rel => exact ⟨m + 1, by omega, by go_num, by rw [HD.out]; exact R⟩
          case measure => simp [intOf]; omega
        · obtain rfl : m = k := by omega
          have HB : Hid (Built w _ _ _) := hB
          clear hB
          go_wp2
          go_ret
          exact ⟨_, rfl, HB.out⟩
end Go.Proofs.Qxb6616119a.Law
