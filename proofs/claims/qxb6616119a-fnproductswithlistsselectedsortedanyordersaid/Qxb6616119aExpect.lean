import Derived.Test.Qxb6616119aComma
import Derived.Test.Qxb6616119aRank
import Derived.Sort.Walk0
import Derived.BigQuiet
import Derived.Deep.QuietTactic
namespace Go.Proofs.Qxb6616119a.Law
open Go.ChangeShapes Go.WideShapes Go.ChangeAt Go.RowKit
set_option linter.unusedSimpArgs false
set_option linter.unusedVariables false

/-- The rank, as far as j. -/
def upTo (t : Int) (rs : List Rule) (i : Nat) (x : List UInt8) (j : Nat) : Nat := lows x (sel t (rs.take j)) + sames x (sel t (rs.take (min j i)))
theorem upTo_zero (t : Int) (rs : List Rule) (i : Nat) (x : List UInt8) : upTo t rs i x 0 = 0 := by simp [upTo, sel, lows, sames]
theorem upTo_all (t : Int) (rs : List Rule) (i : Nat) (x : List UInt8) (hi : i ≤ rs.length) : upTo t rs i x rs.length = rk t rs i x := by
  unfold upTo rk
  rw [List.take_length, Nat.min_eq_right hi]
theorem upTo_step (t : Int) (rs : List Rule) (i : Nat) (x : List UInt8) (j : Nat) (hj : j < rs.length) :
    upTo t rs i x (j + 1) = upTo t rs i x j + (if t < rs[j].2.2 ∧ (word rs[j] < x ∨ (word rs[j] = x ∧ j < i)) then 1 else 0) := by
  unfold upTo
  rw [lows_take t x rs j hj]
  by_cases hji : j < i
  · rw [show min (j + 1) i = j + 1 by omega, show min j i = j by omega, sames_take t x rs j hj]
    by_cases ht : t < rs[j].2.2
    · by_cases h1 : word rs[j] < x
      · have h2 : ¬ word rs[j] = x := fun e => List.lt_irrefl x (e ▸ h1)
        simp [ht, h1, h2]; omega
      · by_cases h2 : word rs[j] = x
        · simp only [ht, h1, h2, hji, List.lt_irrefl, and_self, and_true, true_and, or_true, and_false, if_true, if_false, or_self, false_or]; omega
        · simp [ht, h1, h2, hji]
    · simp [ht]
  · rw [show min (j + 1) i = i by omega, show min j i = i by omega]
    by_cases ht : t < rs[j].2.2
    · by_cases h1 : word rs[j] < x <;> simp [ht, h1, hji]; omega
    · simp [ht]
theorem upTo_le (t : Int) (rs : List Rule) (i : Nat) (x : List UInt8) (j : Nat) (hj : j ≤ rs.length) : upTo t rs i x j ≤ j := by
  induction j with
  | zero => rw [upTo_zero]; omega
  | succ j ih =>
    rw [upTo_step t rs i x j (by omega)]
    have := ih (by omega)
    split <;> omega

theorem less_of {p q : ByteArray} (h : p.data.toList < q.data.toList) : Op.bytesLess p.toList q.toList = true := by
  rw [bytesLess_eq, Lib.toList_data, Lib.toList_data]
  exact decide_eq_true h
theorem less_not {p q : ByteArray} (h : ¬ p.data.toList < q.data.toList) : Op.bytesLess p.toList q.toList = false := by
  rw [bytesLess_eq, Lib.toList_data, Lib.toList_data]
  exact decide_eq_false h
theorem same_of {p q : ByteArray} (h : p.data.toList = q.data.toList) : (p.toList == q.toList) = true := by
  rw [Lib.toList_data, Lib.toList_data, h]
  exact beq_self_eq_true _
theorem same_not {p q : ByteArray} (h : ¬ p.data.toList = q.data.toList) : (p.toList == q.toList) = false := by
  rw [Lib.toList_data, Lib.toList_data]
  exact beq_eq_false_iff_ne.2 h

/-- The row of the places. -/
def Row (w wr : World) (g m : Nat) (ps : List (List UInt8)) : Prop := ps.length = m ∧ wr.ownsRow w.heap.size 9 1 (.slice (some ⟨g, 0, none⟩) m m) m (ps.map encStr) ∧ Below w.heap.size w wr
theorem Row.drewN {w wr : World} {g m : Nat} {ps : List (List UInt8)} (h : Row w wr g m ps) (n : Nat) : Row w (wr.drewN n) g m ps :=
  ⟨h.1, h.2.1, ⟨h.2.2.os, h.2.2.tape, h.2.2.output, h.2.2.size, h.2.2.block⟩⟩
theorem Row.put {w wr : World} {g m : Nat} {ps : List (List UInt8)} (h : Row w wr g m ps) (r : Nat) (b : ByteArray) (hg : w.heap.size ≤ g) : Row w (wr.setCell ⟨g, r, none⟩ (.string b)) g m (ps.set r b.data.toList) := by
  obtain ⟨h1, h2⟩ := h.2.1.stored r (.string b)
  refine ⟨by rw [List.length_set]; exact h.1, ?_, h.2.2.setCell (p := ⟨g, r, none⟩) hg _⟩
  rw [List.map_set, enc_toList]
  exact h1
theorem Row.cell {w wr : World} {g m : Nat} {ps : List (List UInt8)} (h : Row w wr g m ps) (r : Nat) (hr : r < m) : ∃ v, wr.cell? ⟨g, r, none⟩ = some v := by
  have hr' : r < (ps.map encStr).length := by rw [List.length_map, h.1]; exact hr
  exact ⟨_, by rw [h.2.1.cellAt r (by omega), List.getElem?_eq_getElem hr']⟩
theorem Row.words {w wr : World} {g m : Nat} {ps : List (List UInt8)} (h : Row w wr g m ps) (hg : g < wr.heap.size) : Ws wr g ps := by
  refine ⟨hg, fun k hk => ?_⟩
  have hm := h.1
  rw [h.2.1.cellAt k (by omega), List.getElem?_map, List.getElem?_eq_getElem hk]
  rfl
theorem Row.lt {w wr : World} {g m : Nat} {ps : List (List UInt8)} (h : Row w wr g m ps) : g < wr.heap.size := (h.2.1.lt g rfl).2
theorem made_strs (m : Nat) : (madeCells #[Value.string ⟨#[]⟩] m).toList = (List.replicate m ([] : List UInt8)).map encStr := by
  apply List.ext_getElem
  · simp [madeCells]
  · intro i h1 h2
    simp [madeCells, Value.cells, encStr, Nat.mod_one]
theorem Row.start {w w1 : World} {m : Nat} (h1 : w1.ownsRow w.heap.size 9 1 (.slice (some ⟨w.heap.size, 0, none⟩) m m) m (madeCells #[Value.string ⟨#[]⟩] m).toList) (h2 : w.grownBy w1 none) : Row w w1 w.heap.size m (List.replicate m []) :=
  ⟨by simp, by rw [← made_strs]; exact h1, (Below.refl _ _).grown h2 (Nat.le_refl _) (fun k hk => by cases hk)⟩

set_option maxHeartbeats 3200000 in
set_option maxRecDepth 10000 in
theorem expect_any {w : World} {a : Option Addr} {rs : List Rule} (h : Rl w a rs) (cap : Nat) (t : Int) (hl : rs.length ≤ 4096) (hy : bytesOf rs ≤ 1048576) :
    Calls Try.prog 9 #[.slice a rs.length cap, .int .i64 t] w fun e w' => e = .returned (.string (listing t rs)) ∧ Below w.heap.size w w' := by
  obtain ⟨i0, hi, hz0, hz1, hz2⟩ := info_parts row9
  have HI : Hid (Try.prog.info? 9 = some i0) := hi
  have HZ : Hid (i0.zero = some (.string ⟨#[]⟩)) := hz0
  have HS : Hid (i0.size = 1) := hz1
  have hcl := cntOf_le t rs
  have HY : Hid (i0.bytes * cntOf t rs ≤ 281474976710656) := by show _ ≤ _; rw [hz2]; omega
  clear hi hz0 hz1 hz2
  go_enter Try.func9, Try.ntmps9
  go_wp2_with fail
  refine (count_any h cap t hl).mono ?_
  rintro e w0 ⟨rfl, rfl⟩
  by_cases hc0 : cntOf t rs = 0
  · have HE : Hid (listing t rs = ⟨#[]⟩) := by
      have h0 : sel t rs = [] := List.eq_nil_of_length_eq_zero (by rw [sel_length]; exact hc0)
      show _ = _
      simp [listing, h0, srt, Lib.join, List.intercalate]
    rw [hc0]
    go_wp2
    go_ret
    exact ⟨by rw [HE.out]; rfl, Below.refl _ _⟩
  · have hne : ((cntOf t rs : Int) == 0) = false := beq_eq_false_iff_ne.2 (by omega)
    have HM : Hid ((sel t rs).length = cntOf t rs) := sel_length t rs
    generalize cntOf t rs = m at *
    go_wp2_with (at_make; refine wpList_make_full _ rfl _ _ 43 rfl w0.heap.size 9 i0 _ 1 Try.underlying43 HI.out HZ.out HS.out _ _ _ _ m rfl rfl rfl rfl HY.out (by unfold maxLen; omega) (Nat.le_refl _) ?_)
    intro w1 hown hgrow
    have hR := Row.start hown hgrow
    clear hown hgrow HI HZ HS HY
    go_wp2_with fail
    go_loopw [7] (fun i wr => ∃ k ps, k ≤ rs.length ∧ i = .int .i64 (k : Nat) ∧ Placed t rs k ps ∧ Row w0 wr w0.heap.size m ps) (fun i _ => rs.length - (intOf i).toNat)
    case atStart => exact ⟨0, _, Nat.zero_le _, rfl, placed_start t rs _ (by rw [HM.out]; simp), hR⟩
    case round =>
      clear hR
      obtain ⟨k, ps, hk, rfl, hP, hR⟩ := hrel
      by_cases hlt : k < rs.length
      · obtain ⟨b, off, rfl, hb, c1, c2, c3⟩ := (h.below hR.2.2).at hlt
        have HP : Hid (Placed t rs k ps) := hP
        have HR : Hid (Row w0 wr w0.heap.size m ps) := hR
        clear hP hR
        by_cases ht : t < rs[k].2.2
        · have HU : ∀ j, j ≤ rs.length → Hid (upTo t rs k (word rs[k]) j ≤ j) := fun j hj => upTo_le t rs k (word rs[k]) j hj
          go_wp2_with fail
          go_loopw [8, 9] (fun r i wq => ∃ j : Nat, j ≤ rs.length ∧ i = .int .i64 (j : Nat) ∧ r = .int .i64 (upTo t rs k (word rs[k]) j : Nat) ∧ Row w0 wq w0.heap.size m ps) (fun _ i _ => rs.length - (intOf i).toNat)
          case atStart => exact ⟨0, Nat.zero_le _, rfl, by rw [upTo_zero]; rfl, HR.out⟩
          case round =>
            clear c1 c2 c3 hb HR
            obtain ⟨j, hj, rfl, rfl, hR⟩ := hrel
            by_cases hjl : j < rs.length
            · have hrl := h.below hR.2.2
              obtain ⟨b', off', e1, hb, c1, c2, c3⟩ := hrl.at hlt
              cases e1
              obtain ⟨b', off', e1, _, d1, d2, d3⟩ := hrl.at hjl
              cases e1
              have HR : Hid (Row w0 _ w0.heap.size m ps) := hR
              have hu := (HU j hj).out
              have HS : Hid (upTo t rs k (word rs[k]) (j + 1) = upTo t rs k (word rs[k]) j + (if t < rs[j].2.2 ∧ (word rs[j] < word rs[k] ∨ (word rs[j] = word rs[k] ∧ j < k)) then 1 else 0)) := upTo_step t rs k (word rs[k]) j hjl
              clear hR hrl HU
              by_cases htj : t < rs[j].2.2
              · by_cases h1 : word rs[j] < word rs[k]
                · have b1 : Op.bytesLess rs[j].1.toList rs[k].1.toList = true := less_of h1
                  rw [if_pos ⟨htj, .inl h1⟩] at HS
                  clear h1
                  go_wp2_with fail
                  go_quiet (fail)
                  go_wp2
                  go_roundw
                  case rel => exact ⟨j + 1, by omega, by go_num, by rw [HS.out]; go_num, HR.out.drewN nq⟩
                  case measure => simp [intOf]; omega
                · have b1 : Op.bytesLess rs[j].1.toList rs[k].1.toList = false := less_not h1
                  by_cases h2 : word rs[j] = word rs[k]
                  · have b2 : (rs[j].1.toList == rs[k].1.toList) = true := same_of h2
                    by_cases h3 : j < k
                    · have b3 : decide ((j : Int) < (k : Int)) = true := decide_eq_true (by omega)
                      rw [if_pos ⟨htj, .inr ⟨h2, h3⟩⟩] at HS
                      clear h1 h2
                      go_wp2_with fail
                      go_quiet (fail)
                      go_wp2
                      go_roundw
                      case rel => exact ⟨j + 1, by omega, by go_num, by rw [HS.out]; go_num, HR.out.drewN nq⟩
                      case measure => simp [intOf]; omega
                    · have b3 : decide ((j : Int) < (k : Int)) = false := decide_eq_false (by omega)
                      rw [if_neg (fun hh => hh.2.elim h1 (fun hx => h3 hx.2)), Nat.add_zero] at HS
                      clear h1 h2
                      go_wp2_with fail
                      go_quiet (fail)
                      go_wp2
                      go_roundw
                      case rel => exact ⟨j + 1, by omega, by go_num, by rw [HS.out]; rfl, HR.out.drewN nq⟩
                      case measure => simp [intOf]; omega
                  · have b2 : (rs[j].1.toList == rs[k].1.toList) = false := same_not h2
                    rw [if_neg (fun hh => hh.2.elim h1 (fun hx => h2 hx.1)), Nat.add_zero] at HS
                    clear h1 h2
                    go_wp2_with fail
                    go_quiet (fail)
                    go_wp2
                    go_roundw
                    case rel => exact ⟨j + 1, by omega, by go_num, by rw [HS.out]; rfl, HR.out.drewN nq⟩
                    case measure => simp [intOf]; omega
              · rw [if_neg (fun hh => htj hh.1), Nat.add_zero] at HS
                go_wp2
                go_roundw
                case rel => exact ⟨j + 1, by omega, by go_num, by rw [HS.out]; rfl, HR.out⟩
                case measure => simp [intOf]; omega
            · obtain rfl : j = rs.length := by omega
              clear HU
              have hrl := h.below hR.2.2
              obtain ⟨b', off', e1, hb, c1, c2, c3⟩ := hrl.at hlt
              cases e1
              have hrm : rk t rs k (word rs[k]) < m := by have h1 := rk_lt t rs k hlt ht; rw [HM.out] at h1; exact h1
              obtain ⟨v0, hv0⟩ := hR.cell _ hrm
              have hfz := hR.2.1.frozenAt (rk t rs k (word rs[k]))
              have HN : Hid (Placed t rs (k + 1) (ps.set (rk t rs k (word rs[k])) (word rs[k]))) := placed_set HP.out hlt ht
              have HRN : Hid (Row w0 _ w0.heap.size m _) := hR.put (rk t rs k (word rs[k])) rs[k].1 (Nat.le_refl _)
              rw [upTo_all t rs k (word rs[k]) hk]
              clear hrl hR HP
              generalize rk t rs k (word rs[k]) = r at *
              go_wp2
              go_roundw
              case rel => exact ⟨k + 1, _, by omega, by go_num, HN.out, HRN.out⟩
              case measure => simp [intOf]; omega
        · have HN : Hid (Placed t rs (k + 1) ps) := placed_skip HP.out hlt ht
          clear HP
          go_wp2
          go_roundw
          case rel => exact ⟨k + 1, ps, by omega, by go_num, HN.out, HR.out⟩
          case measure => simp [intOf]; omega
      · obtain rfl : k = rs.length := by omega
        have HE : Hid (ps = srt (sel t rs)) := placed_all hP
        have HC := comma_any (hR.words hR.lt) m (by rw [hR.1]; omega) (by
          rw [HE.out, joined_perm (srt_perm _), joined_sel]
          exact lenOf_le t rs hl hy)
        rw [hR.1] at HC
        have HR : Hid (Below w0.heap.size w0 wr) := hR.2.2
        clear hP hR
        go_wp2_with fail
        refine HC.mono ?_
        clear HC
        rintro e w5 ⟨rfl, hb5⟩
        have HB : Hid (Below w0.heap.size w0 w5) := HR.out.trans (hb5.mono HR.out.size)
        clear hb5
        go_wp2
        go_ret
        exact ⟨by rw [HE.out]; rfl, HB.out⟩
end Go.Proofs.Qxb6616119a.Law
