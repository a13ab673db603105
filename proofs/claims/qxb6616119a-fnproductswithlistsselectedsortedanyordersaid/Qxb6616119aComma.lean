import Derived.Test.Qxb6616119aWith
import Derived.Lib.AppendStr
import Derived.Laws.IdiomStrings
import Derived.Laws.BytesArg
namespace Go.Proofs.Qxb6616119a.Law
open Go.ChangeShapes Go.WideShapes Go.ChangeAt Go.RowKit
set_option linter.unusedSimpArgs false
set_option linter.unusedVariables false

/-- The words lie in a row. -/
def Ws (w : World) (g : Nat) (ps : List (List UInt8)) : Prop := g < w.heap.size ∧ ∀ k (h : k < ps.length), w.cell? ⟨g, k, none⟩ = some (.string ⟨ps[k].toArray⟩)
theorem Ws.below {w w' : World} {g : Nat} {ps : List (List UInt8)} (h : Ws w g ps) (hb : Below w.heap.size w w') : Ws w' g ps :=
  ⟨Nat.lt_of_lt_of_le h.1 hb.size, fun k hk => by rw [hb.cell (p := ⟨g, k, none⟩) h.1]; exact h.2 k hk⟩

def bv (b : UInt8) : Value := .int .u8 b.toNat
/-- The bytes that have been written. -/
def Bs (w wr : World) (v : Value) (bs : List UInt8) : Prop := wr.ownsRow w.heap.size 5 1 v bs.length (bs.map bv) ∧ Below w.heap.size w wr

theorem row5 : (Try.prog.info? 5).map (fun i => (i.zero, i.size, i.bytes)) = some (some (.int .u8 0), 1, 1) := by kernel_rfl

theorem wpList_pushWord {ops : Array Oper} {rest : List Oper} {op : Oper} {a : Act} {w wr : World} {Q : Exit → Act → World → Prop} (hgd : op.guard = none) (s x : Operand)
    (ho : op.op = .call { callee := .builtin .append, args := #[s, x], argTypes := #[48, 9] })
    (v : Value) (bs : List UInt8) (l : List UInt8) (hs : a.eval s = v) (hx : a.eval x = .string ⟨l.toArray⟩) (hB : Bs w wr v bs) (hn : bs.length + l.length ≤ 8000000)
    (h : ∀ v' w', Bs w w' v' (bs ++ l) → wpList Try.prog ops Q rest (a.put op.dst v') w') :
    wpList Try.prog ops Q (op :: rest) a wr := by
  obtain ⟨i0, hi, hz0, hz1, hz2⟩ := info_parts row5
  have hz : (⟨l.toArray⟩ : ByteArray).size = l.length := List.size_toArray ..
  refine Lib.wpList_append_own_string _ hgd s x 48 9 ho w.heap.size 5 i0 Try.underlying48 Try.underlying9 hi hz0 hz1 hz2 v bs.length _ hs hB.1 ⟨l.toArray⟩ hx (by unfold maxLen; omega) (by omega) hB.2.size ?_
  intro v' w' h1 h2 _
  refine h v' w' ⟨?_, hB.2.grown h2 hB.2.size (fun k hk => (hB.1.lt k hk).1)⟩
  rw [List.length_append, List.map_append, ← hz]
  exact h1

theorem wpList_pushSep {ops : Array Oper} {rest : List Oper} {op : Oper} {a : Act} {w wr : World} {Q : Exit → Act → World → Prop} (hgd : op.guard = none) (s x : Operand)
    (ho : op.op = .call { callee := .builtin .append, args := #[s, x], argTypes := #[48, 48] })
    (v : Value) (bs : List UInt8) (hs : a.eval s = v) (hx : a.eval x = .slice (some ⟨wr.heap.size, 0, none⟩) 2 2) (hB : Bs w wr v bs) (hn : bs.length ≤ 8000000)
    (h : ∀ v' w', Bs w w' v' (bs ++ [44, 32]) → wpList Try.prog ops Q rest (a.put op.dst v') w') :
    wpList Try.prog ops Q (op :: rest) a (wr.alloc (.cells #[.int .u8 44, .int .u8 32] 5)) := by
  obtain ⟨i0, hi, hz0, hz1, hz2⟩ := info_parts row5
  have hsz := size_al wr (.cells #[.int .u8 44, .int .u8 32] 5)
  have hle := hB.2.size
  refine wpList_append_own _ hgd s x 48 ho w.heap.size 5 i0 _ 1 1 Try.underlying48 hi hz0 hz1 hz2 rfl (by decide) v bs.length _ hs (hB.1.alloc _) ⟨wr.heap.size, 0, none⟩ 2 2 [.int .u8 44, .int .u8 32] hx rfl ?_ (by intro u hu; simp at hu; rcases hu with rfl | rfl <;> rfl) (by unfold maxLen; omega) (by omega) (by omega) ?_
  · intro j u hj
    have hadd : (⟨wr.heap.size, 0, none⟩ : Addr).add j = ⟨wr.heap.size, j, none⟩ := by unfold Addr.add; split <;> simp_all
    rw [hadd, cell_of_row _ _ j #[.int .u8 44, .int .u8 32] 5 (0, 0) (heap_alloc_last wr _)]
    simpa using hj
  · intro v' w' h1 h2 _
    refine h v' w' ⟨?_, (hB.2.alloc hle _).grown h2 (by omega) (fun k hk => (hB.1.lt k hk).1)⟩
    rw [List.length_append, List.map_append]
    exact h1

theorem join_snoc (xs : List (List UInt8)) (x : List UInt8) (h : xs ≠ []) : Lib.join (xs ++ [x]) [44, 32] = Lib.join xs [44, 32] ++ [44, 32] ++ x := by
  cases xs with
  | nil => exact absurd rfl h
  | cons y r =>
    rw [List.cons_append, Lib.join_cons, Lib.join_cons]
    simp [Lib.joinTail]
theorem join_step (ps : List (List UInt8)) (k : Nat) (hk : k < ps.length) : Lib.join (ps.take (k + 1)) [44, 32] = (if 0 < k then Lib.join (ps.take k) [44, 32] ++ [44, 32] else []) ++ ps[k] := by
  rw [List.take_succ_eq_append_getElem hk]
  by_cases h0 : 0 < k
  · rw [if_pos h0, join_snoc _ _ (by intro e; have := congrArg List.length e; rw [List.length_take, List.length_nil] at this; omega)]
  · obtain rfl : k = 0 := by omega
    simp [Lib.join, List.intercalate]
theorem joined_take (ps : List (List UInt8)) (k : Nat) : joined (ps.take k) ≤ joined ps := by
  have h1 : ((ps.take k).map List.length).sum ≤ (ps.map List.length).sum := by
    conv => rhs; rw [← List.take_append_drop k ps]
    rw [List.map_append, List.sum_append]
    omega
  have h2 : (ps.take k).length ≤ ps.length := by rw [List.length_take]; omega
  unfold joined
  split <;> split <;> omega

theorem bytes_back {w wr : World} {v : Value} {bs : List UInt8} (hB : Bs w wr v bs) : (convert 48 9 v).run Try.prog wr = .ok (.string ⟨bs.toArray⟩) wr := by
  rcases hB.1.2 with ⟨rfl, h0⟩ | ⟨g, cp, cur, rfl, _, _⟩
  · obtain rfl : bs = [] := List.eq_nil_of_length_eq_zero h0
    exact run_convert_bytes_nil wr 48 5 Try.underlying48 Try.underlying5 0 0 9 Try.underlying9
  · refine run_convert_bytes_back wr 48 9 5 ⟨g, 0, none⟩ cp bs Try.underlying48 Try.underlying5 Try.underlying9 (fun j hj => ?_)
    have hadd : (⟨g, 0, none⟩ : Addr).add j = ⟨g, j, none⟩ := by unfold Addr.add; split <;> simp_all
    rw [hadd, hB.1.cellAt j (by omega), List.getElem?_map, List.getElem?_eq_getElem hj]
    rfl

set_option maxHeartbeats 1600000 in
set_option maxRecDepth 10000 in
theorem comma_any {w : World} {g : Nat} {ps : List (List UInt8)} (hw : Ws w g ps) (cap : Nat) (hl : ps.length ≤ 4096) (hj : joined ps ≤ 2000000) :
    Calls Try.prog 16 #[.slice (some ⟨g, 0, none⟩) ps.length cap] w fun e w' => e = .returned (.string ⟨(Lib.join ps [44, 32]).toArray⟩) ∧ Below w.heap.size w w' := by
  go_enter Try.func16, Try.ntmps16
  go_wp2_with fail
  go_loopw [3, 4] (fun v i wr => ∃ k : Nat, k ≤ ps.length ∧ i = .int .i64 k ∧ Bs w wr v (Lib.join (ps.take k) [44, 32])) (fun _ i _ => ps.length - (intOf i).toNat)
  case atStart => exact ⟨0, Nat.zero_le _, rfl, World.ownsRow_nil _ _ _ _, Below.refl _ _⟩
  case round =>
    obtain ⟨k, hk, rfl, hB⟩ := hrel
    by_cases hlt : k < ps.length
    · obtain ⟨hg, hc⟩ := (hw.below hB.2)
      have c1 := hc k hlt
      have HC2 : ∀ w2, Below w.heap.size w w2 → Hid (w2.cell? ⟨g, k, none⟩ = some (.string ⟨ps[k].toArray⟩)) := fun w2 hb => (hw.below hb).2 k hlt
      have HJ : Hid (Lib.join (ps.take (k + 1)) [44, 32] = (if 0 < k then Lib.join (ps.take k) [44, 32] ++ [44, 32] else []) ++ ps[k]) := join_step ps k hlt
      have hlen : (Lib.join (ps.take k) [44, 32]).length ≤ 2000000 := by rw [join_len]; exact Nat.le_trans (joined_take ps k) hj
      have hlen2 : Hid (ps[k].length ≤ 2000000) := by
        have h1 := congrArg List.length HJ.out
        rw [join_len, List.length_append] at h1
        have h2 := joined_take ps (k + 1)
        show _ ≤ _
        omega
      have HE0 : Hid (k = 0 → Lib.join (ps.take k) [44, 32] = []) := fun h => by subst h; rfl
      have HB : Hid (Bs w wr _ (Lib.join (ps.take k) [44, 32])) := hB
      clear hc hB
      generalize Lib.join (ps.take k) [44, 32] = bs at *
      generalize ps[k] = l at *
      by_cases h0 : 0 < k
      · rw [if_pos h0] at HJ
        go_wp2_with (at_builtin; refine wpList_pushSep rfl (.tmp 13) (.tmp 14) rfl _ bs rfl rfl HB.out (by omega) ?_)
        intro v2 w2 hB2
        have c2 : w2.cell? ⟨g, k, none⟩ = some (.string ⟨l.toArray⟩) := by
          exact (HC2 w2 hB2.2).out
        have HB2 : Hid (Bs w w2 v2 (bs ++ [44, 32])) := hB2
        clear hB2 HB c1
        go_wp2_with (at_builtin; refine wpList_pushWord rfl (.tmp 16) (.tmp 20) rfl _ (bs ++ [44, 32]) l rfl rfl HB2.out (by have := hlen2.out; simp; omega) ?_)
        intro v3 w3 hB3
        have HB3 : Hid (Bs w w3 v3 (bs ++ [44, 32] ++ l)) := by rw [show bs ++ [44, 32] ++ l = bs ++ 44 :: 32 :: l by simp]; exact hB3
        clear hB3 HB2
        go_wp2
        go_roundw
        case rel => exact ⟨k + 1, by omega, by go_num, by rw [HJ.out]; exact HB3.out⟩
        case measure => simp [intOf]; omega
      · obtain rfl : k = 0 := by omega
        rw [if_neg h0, List.nil_append] at HJ
        obtain rfl := HE0.out rfl
        go_wp2_with (at_builtin; refine wpList_pushWord rfl (.tmp 16) (.tmp 20) rfl _ [] l rfl rfl HB.out (by have := hlen2.out; simp; omega) ?_)
        intro v3 w3 hB3
        have HB3 : Hid (Bs w w3 v3 l) := hB3
        clear hB3 HB
        go_wp2
        go_roundw
        case rel => exact ⟨0 + 1, by omega, by go_num, by rw [HJ.out]; exact HB3.out⟩
        case measure => simp [intOf]; omega
    · obtain rfl : k = ps.length := by omega
      rw [List.take_length] at hB
      have hcv := bytes_back hB
      have HB : Hid (Bs w wr _ (Lib.join ps [44, 32])) := hB
      clear hB
      go_wp2
      go_ret
      exact ⟨rfl, HB.out.2⟩
end Go.Proofs.Qxb6616119a.Law
