import Derived.Test.Qxb6615985aGrow
import Derived.Test.Qxb6615985aMath
namespace Go.Proofs.Qxb6615985a.fnSignFlipsWithNegatedFactors
open Go.ChangeShapes Go.WideShapes Go.ChangeAt Go.RowKit

/-- Both averagers after k rounds. -/
def Both (w wr : World) (s : Int) (zs : List Int) (k : Nat) : Prop :=
  ∃ va vb xa xb, Below w.heap.size w wr ∧ Av wr w.heap.size w.heap.size va k xa (fA s zs) ∧ Av wr w.heap.size (w.heap.size + 1) vb k xb (fB s zs) ∧
    va.ownBlock ≠ some (w.heap.size + 1) ∧ vb.ownBlock ≠ some w.heap.size ∧ (∀ g, va.ownBlock = some g → vb.ownBlock ≠ some g)

theorem both_start (w : World) (s : Int) (zs : List Int) :
    Both w ((w.alloc (.cells #[.slice none 0 0, .map none, .nilFunc, .pointer none, .int .i64 s, .slice none 0 0, .slice none 0 0, .pointer none] 39)).alloc (.cells #[.slice none 0 0, .map none, .nilFunc, .pointer none, .int .i64 (-s), .slice none 0 0, .slice none 0 0, .pointer none] 39)) s zs 0 := by
  refine ⟨.slice none 0 0, .slice none 0 0, [], [], ?_, ?_, ?_, by simp [Value.ownBlock], by simp [Value.ownBlock], by simp [Value.ownBlock]⟩
  · exact ((Below.refl _ _).alloc (Nat.le_refl _) _).alloc (by simp) _
  · exact ⟨Nat.le_refl _, by simp; omega, by simp [fA], by simp, by simp, World.ownsRow_nil _ _ _ _, by simp [Value.ownBlock], by simp⟩
  · exact ⟨by omega, by simp, by simp [fB], by simp, by simp, World.ownsRow_nil _ _ _ _, by simp [Value.ownBlock], by simp⟩

theorem both_a {w wr w' : World} {s : Int} {zs : List Int} {k : Nat} {va vb : Value} {xb : List Value}
    (hb : Below w.heap.size w wr) (hA : w.heap.size ≤ wr.heap.size) (h2 : Av wr w.heap.size (w.heap.size + 1) vb k xb (fB s zs))
    (d1 : va.ownBlock ≠ some (w.heap.size + 1)) (d2 : vb.ownBlock ≠ some w.heap.size) (d3 : ∀ g, va.ownBlock = some g → vb.ownBlock ≠ some g) (hlo : ∀ g, va.ownBlock = some g → w.heap.size ≤ g)
    (hg : Grew wr w' w.heap.size w.heap.size va k (fA s zs)) :
    ∃ va' xa', Below w.heap.size w w' ∧ Av w' w.heap.size w.heap.size va' (k + 1) xa' (fA s zs) ∧ Av w' w.heap.size (w.heap.size + 1) vb k xb (fB s zs) ∧
    va'.ownBlock ≠ some (w.heap.size + 1) ∧ vb.ownBlock ≠ some w.heap.size ∧ (∀ g, va'.ownBlock = some g → vb.ownBlock ≠ some g) := by
  obtain ⟨g, cap, xs', r1, r2, r3⟩ := hg
  refine ⟨_, xs', ?_, r1, h2.keep r3 ?_ ?_, ?_, d2, ?_⟩
  · exact hb.trans ⟨r3.os, r3.tape, r3.output, r3.size, fun i hi => r3.block i (by omega) (by
      rintro (h | h)
      · omega
      · have := hlo i h.symm; omega)⟩
  · rintro (h | h)
    · omega
    · exact d1 h.symm
  · rintro i hi (h | h)
    · subst h; exact d2 hi
    · exact d3 i h.symm hi
  · simp only [Value.ownBlock, ne_eq, Option.some.injEq]
    rintro rfl
    rcases r2 with r2 | r2
    · exact d1 r2
    · have := h2.hi; omega
  · intro i hi
    simp only [Value.ownBlock, Option.some.injEq] at hi
    subst hi
    rcases r2 with r2 | r2
    · exact d3 g r2
    · intro hv
      have := (h2.own.lt g hv).2
      omega

theorem both_b {w wr w' : World} {s : Int} {zs : List Int} {k : Nat} {va vb : Value} {xa : List Value}
    (hb : Below w.heap.size w wr) (hA : w.heap.size ≤ wr.heap.size) (h2 : Av wr w.heap.size w.heap.size va (k + 1) xa (fA s zs))
    (d1 : va.ownBlock ≠ some (w.heap.size + 1)) (d2 : vb.ownBlock ≠ some w.heap.size) (d3 : ∀ g, va.ownBlock = some g → vb.ownBlock ≠ some g) (hlo : ∀ g, vb.ownBlock = some g → w.heap.size ≤ g)
    (hg : Grew wr w' w.heap.size (w.heap.size + 1) vb k (fB s zs)) : Both w w' s zs (k + 1) := by
  obtain ⟨g, cap, xs', r1, r2, r3⟩ := hg
  refine ⟨va, _, xa, xs', ?_, h2.keep r3 ?_ ?_, r1, d1, ?_, ?_⟩
  · exact hb.trans ⟨r3.os, r3.tape, r3.output, r3.size, fun i hi => r3.block i (by omega) (by
      rintro (h | h)
      · omega
      · have := hlo i h.symm; omega)⟩
  · rintro (h | h)
    · omega
    · exact d2 h.symm
  · rintro i hi (h | h)
    · subst h; exact d1 hi
    · exact d3 i hi h.symm
  · simp only [Value.ownBlock, ne_eq, Option.some.injEq]
    rintro rfl
    rcases r2 with r2 | r2
    · exact d2 r2
    · have := h2.hi; omega
  · intro i hi
    simp only [Value.ownBlock, ne_eq, Option.some.injEq]
    rintro rfl
    rcases r2 with r2 | r2
    · exact d3 g hi r2
    · have := (h2.own.lt g hi).2
      omega


set_option maxHeartbeats 1600000 in
theorem walk_main (s : Int) (a1 : Option Addr) (len cap : Nat) (zs : List Int) (w : World) (h1 : -1 ≤ s) (h2 : s ≤ 1) (hl : len ≤ 131072) (hz : len ≤ zs.length)
    (hrow : 0 < len → ∃ b off, a1 = some ⟨b, off, none⟩ ∧ b < w.heap.size ∧ ∀ i, i < zs.length → w.cell? ⟨b, off + i, none⟩ = some (.int .i64 (zs.getD i 0)))
    (hbd : ∀ n, n ∈ zs → -9223372036854775808 ≤ n ∧ n ≤ 9223372036854775807) :
    Calls Try.prog 3 #[.int .i64 s, .slice a1 len cap] w fun e w' => e = .returned (.bool true) ∧ Below w.heap.size w w' := by
  have hl63 : len ≤ maxLen := by unfold maxLen; omega
  have hdec : decide (len ≤ 1048576) = true := by simp; omega
  have hs3 : Hid (s = -1 ∨ s = 0 ∨ s = 1) := by show _ ∨ _; omega
  have HR : Hid (0 < len → ∃ b off, a1 = some ⟨b, off, none⟩ ∧ b < w.heap.size ∧ ∀ i, i < zs.length → w.cell? ⟨b, off + i, none⟩ = some (.int .i64 (zs.getD i 0))) := hrow
  have HD : Hid (∀ n, n ∈ zs → -9223372036854775808 ≤ n ∧ n ≤ 9223372036854775807) := hbd
  clear hrow hbd
  go_enter Try.func3, Try.ntmps3
  go_wp2_with fail
  refine (bytes_any _ _ _ _ _ hl63).mono ?_
  rintro e w ⟨rfl, rfl⟩
  go_wp2_with fail
  refine (new_any _ _).mono ?_
  rintro e w1 ⟨rfl, rfl⟩
  go_wp2_with fail
  refine (new_any _ _).mono ?_
  rintro e w1 ⟨rfl, rfl⟩
  go_wp2_with fail
  have HB := both_start w s zs
  go_loopw [7] (fun i wr => ∃ k : Nat, k ≤ len ∧ i = .int .i64 k ∧ Both w wr s zs k) (fun i _ => len - (intOf i).toNat)
  case atStart => exact ⟨0, Nat.zero_le _, rfl, HB⟩
  case round =>
    obtain ⟨k, hk, rfl, hboth⟩ := hrel
    by_cases hlt : k < len
    · obtain ⟨va, vb, xa, xb, hbel, ha, hb, d1, d2, d3⟩ := hboth
      obtain ⟨b, off, rfl, hbw, hcell⟩ := HR.out (by omega)
      have hck : wr.cell? ⟨b, off + k, none⟩ = some (.int .i64 (zs.getD k 0)) := by rw [hbel.cell hbw]; exact hcell k (by omega)
      have hbd := HD.out (zs.getD k 0) (by rw [List.getD_eq_getElem?_getD, List.getElem?_eq_getElem (by omega)]; exact List.getElem_mem _)
      have a1' := fA_bd s zs hs3.out (k + 1)
      have b1' := fB_bd s zs hs3.out (k + 1)
      have hsz := hbel.size
      clear hcell HB
      have hfa : fA s zs (k + 1) = fA s zs k * sgn (zs.getD k 0) := rfl
      have hfb : fB s zs (k + 1) = fB s zs k * sgn (negx (zs.getD k 0)) := rfl
      generalize hy : zs.getD k 0 = y at *
      have HFA : Hid (fA s zs (k + 1) = fA s zs k * sgn y) := hfa
      have HFB : Hid (fB s zs (k + 1) = fB s zs k * sgn (negx y)) := hfb
      rw [hfa] at a1'
      rw [hfb] at b1'
      clear hy hfa hfb
      obtain ⟨y1, y2⟩ := hbd
      have HD3 : Hid (∀ g, va.ownBlock = some g → vb.ownBlock ≠ some g) := d3
      have hlo : Hid (∀ g, va.ownBlock = some g → w.heap.size ≤ g) := fun g hg => (ha.own.lt g hg).1
      clear d3
      go_wp2_with fail
      refine (zzgrow_any y ha (by omega) HFA.out a1'.1 a1'.2).mono ?_
      rintro e w1 ⟨rfl, hg1⟩
      obtain ⟨va', xa', hbel', ha', hb', d1', d2', d3'⟩ := both_a hbel hsz hb d1 d2 HD3.out hlo.out hg1
      have hck' : w1.cell? ⟨b, off + k, none⟩ = some (.int .i64 y) := by rw [hbel'.cell hbw, ← hbel.cell hbw]; exact hck
      have hsz' := hbel'.size
      have HD4 : Hid (∀ g, va'.ownBlock = some g → vb.ownBlock ≠ some g) := d3'
      have hlo' : Hid (∀ g, vb.ownBlock = some g → w.heap.size ≤ g) := fun g hg => (hb'.own.lt g hg).1
      clear hg1 d3' HD3 d1 d2 hck ha hb
      go_wp2_with fail
      refine (neg_any y _ y1 y2).mono ?_
      rintro e w2 ⟨rfl, rfl⟩
      go_wp2_with fail
      refine (zzgrow_any (negx y) hb' (by omega) HFB.out b1'.1 b1'.2).mono ?_
      rintro e w3 ⟨rfl, hg2⟩
      have hfin := both_b hbel' hsz' ha' d1' d2' HD4.out hlo'.out hg2
      go_wp2
      go_roundw
      case rel => exact ⟨k + 1, by omega, by go_num, hfin⟩
      case measure => simp [intOf]; omega
    · obtain rfl : k = len := by omega
      obtain ⟨va, vb, xa, xb, hbel, ha, hb, d1, d2, d3⟩ := hboth
      clear HB d1 d2 d3
      go_wp2_with fail
      go_loop [8, 9, 10] (fun z n i => ∃ j : Nat, j ≤ k + 1 ∧ i = .int .i64 j ∧ z = .bool (zTo s zs (min j k)) ∧ n = .bool (nTo s zs (min j k))) (fun _ _ i => k + 1 - (intOf i).toNat)
      case atStart => exact ⟨0, Nat.zero_le _, rfl, by rw [Nat.zero_min]; rfl, by rw [Nat.zero_min]; rfl⟩
      case round =>
        obtain ⟨j, hj, rfl, rfl, rfl⟩ := hrel
        by_cases hle : j ≤ k
        · rw [Nat.min_eq_left hle]
          have hfa := fA_want s zs hs3.out j
          have hfb := fB_eq s zs j
          have ca := zzsign_any ha j hle (by omega)
          have cb := zzsign_any hb j hle (by omega)
          rw [hfb, hfa] at cb
          rw [hfa] at ca
          have hz' : Hid (zTo s zs (min (j + 1) k) = if j < k then (if zs.getD j 0 = 0 then true else zTo s zs j) else zTo s zs j) := by
            by_cases h : j < k
            · rw [if_pos h, Nat.min_eq_left (by omega)]; exact rfl
            · rw [if_neg h, Nat.min_eq_right (by omega), show k = j by omega]; exact rfl
          have hn' : Hid (nTo s zs (min (j + 1) k) = if j < k then (if zs.getD j 0 = 0 then nTo s zs j else if zs.getD j 0 < 0 then !nTo s zs j else nTo s zs j) else nTo s zs j) := by
            by_cases h : j < k
            · rw [if_pos h, Nat.min_eq_left (by omega)]; exact rfl
            · rw [if_neg h, Nat.min_eq_right (by omega), show k = j by omega]; exact rfl
          clear hfa hfb
          generalize zTo s zs j = z at *
          generalize nTo s zs j = n at *
          have CA : Hid (Calls Try.prog 8 #[.pointer (some ⟨w.heap.size, 0, none⟩), .int .i64 j] wr fun e w' => e = .returned (.int .i64 (wantI z n)) ∧ w' = wr) := ca
          have CB : Hid (Calls Try.prog 8 #[.pointer (some ⟨w.heap.size + 1, 0, none⟩), .int .i64 j] wr fun e w' => e = .returned (.int .i64 (if j % 2 = 1 then wantI z n else -wantI z n)) ∧ w' = wr) := cb
          clear ca cb
          rcases (by cases z <;> cases n <;> simp : z = true ∨ (z = false ∧ n = true) ∨ (z = false ∧ n = false)) with rfl | ⟨rfl, rfl⟩ | ⟨rfl, rfl⟩
          case' inl => have e : wantI true n = 0 := rfl
          case' inr.inl => have e : wantI false true = -1 := rfl
          case' inr.inr => have e : wantI false false = 1 := rfl
          all_goals
            rw [e] at CA CB
            clear e
            by_cases hpar : j % 2 = 1
            case' pos =>
              rw [if_pos hpar] at CB
              have hp : ((j : Int) % 2 == 1) = true := beq_iff_eq.2 (by omega)
            case' neg =>
              rw [if_neg hpar] at CB
              have hp : ((j : Int) % 2 == 1) = false := beq_eq_false_iff_ne.2 (by omega)
          all_goals
            clear hpar
            by_cases hlt : j < k
            case' neg => rw [if_neg hlt] at hz' hn'
            case' pos =>
              rw [if_pos hlt] at hz' hn'
              obtain ⟨b, off, rfl, hbw, hcell⟩ := HR.out (by omega)
              have hck : wr.cell? ⟨b, off + j, none⟩ = some (.int .i64 (zs.getD j 0)) := by rw [hbel.cell hbw]; exact hcell j (by omega)
              clear hcell HR
              generalize zs.getD j 0 = y at *
              rcases Int.lt_trichotomy y 0 with hy | hy | hy
              case' inl =>
                have hy0 : (y == 0) = false := beq_eq_false_iff_ne.2 (by omega)
                rw [if_neg (by omega)] at hz'
                rw [if_neg (by omega), if_pos hy] at hn'
              case' inr.inl =>
                have hy0 : (y == 0) = true := beq_iff_eq.2 hy
                rw [if_pos hy] at hz' hn'
                clear hy
              case' inr.inr =>
                have hy0 : (y == 0) = false := beq_eq_false_iff_ne.2 (by omega)
                rw [if_neg (by omega)] at hz'
                rw [if_neg (by omega), if_neg (by omega)] at hn'
          all_goals
            go_wp2_with fail
            refine CA.out.mono ?_
            rintro e wr ⟨rfl, rfl⟩
            go_wp2_with fail
            refine CB.out.mono ?_
            rintro e wr ⟨rfl, rfl⟩
            go_wp2_with fail
            go_round
            case rel => exact ⟨j + 1, by omega, by go_num, congrArg Value.bool hz'.out.symm, congrArg Value.bool hn'.out.symm⟩
            case measure => simp [intOf]; omega
        · go_wp2
          go_ret
          exact ⟨rfl, hbel⟩

end Go.Proofs.Qxb6615985a.fnSignFlipsWithNegatedFactors
