import Derived.Test.Qxb6616109aHold
import Derived.RangeFuncNested
import Derived.RangeFuncBound
import Derived.RangeFuncCalls
import Derived.RangeFuncLeaves
import Derived.RangeFuncFrom
import Derived.Shelf.Abstract
import Derived.Shelf.RegionOpen
import Derived.OwnWalkIn
import Derived.TacticsInMore
import Derived.LoopNIn
import Derived.LoopIn
namespace Go.Proofs.Qxb6616109a.fnHoldsExclusiveHandOver
open Go.ChangeShapes Go.WideShapes Go.ChangeAt Go.RowKit Go.Shelf
set_option linter.unusedSimpArgs false
set_option linter.unusedVariables false
attribute [local go_sem] Oper.semAt_some

/-- Whom a request of tx in mode m waits for, of the first k holders. -/
def cf (hs : List (Int × Int)) (tx m : Int) (k : Nat) : List Int := ((hs.take k).filter (fun h => h.1 != tx && confB h.2 m)).map (·.1)

theorem cf_succ_no {hs : List (Int × Int)} {tx m : Int} {k : Nat} (hk : k < hs.length) (h : (hs[k].1 != tx && confB hs[k].2 m) = false) : cf hs tx m (k + 1) = cf hs tx m k := by
  unfold cf
  rw [List.take_succ_eq_append_getElem hk, List.filter_append, List.filter_cons, h]
  simp
theorem cf_succ_yes {hs : List (Int × Int)} {tx m : Int} {k : Nat} (hk : k < hs.length) (h : (hs[k].1 != tx && confB hs[k].2 m) = true) : cf hs tx m (k + 1) = cf hs tx m k ++ [hs[k].1] := by
  unfold cf
  rw [List.take_succ_eq_append_getElem hk, List.filter_append, List.filter_cons, h]
  simp
theorem cf_le (hs : List (Int × Int)) (tx m : Int) (k : Nat) : (cf hs tx m k).length ≤ k := by
  unfold cf
  rw [List.length_map]
  exact Nat.le_trans (List.length_filter_le _ _) (by rw [List.length_take]; omega)

theorem quiet_of_below {w w' : World} (h : Below w.heap.size w w') : Quiet w w' := ⟨h.os, h.tape, h.output, h.size, fun k hk _ => h.block k hk⟩
theorem below_of_quiet {w w' : World} (h : Quiet w w') : Below w.heap.size w w' := ⟨Fr.os h, Fr.tape h, Fr.output h, Fr.size h, fun k hk => Fr.block h k hk (fun f => f)⟩

/-- What the iterator reads. -/
structure Asks (w : World) (base : Nat) (t : Ids) (nT nG : Nat) (hA dA rA : Array Value) (g s rB lB tB : Nat) (v : Value) (hs : List (Int × Int)) (tx m : Int) : Prop where
  tab : Tab w base t nT nG hA dA rA
  hg : g < nG
  hv : hA[g]? = some v
  hh : Hs w base v hs
  hl : hs.length ≤ 100
  cs : w.cell? ⟨s, 0, none⟩ = some (.int .i64 g)
  r0 : w.cell? ⟨rB, 0, none⟩ = some (.slice (some ⟨s, 0, none⟩) 1 1)
  r1 : w.cell? ⟨rB, 1, none⟩ = some (.int .u8 m)
  l0 : w.cell? ⟨lB, 0, none⟩ = some (.pointer (some ⟨t.L, 0, none⟩))
  t0 : w.cell? ⟨tB, 0, none⟩ = some (.int .i64 tx)

theorem Asks.quiet {w w' : World} {base : Nat} {t : Ids} {nT nG : Nat} {hA dA rA : Array Value} {g s rB lB tB : Nat} {v : Value} {hs : List (Int × Int)} {tx m : Int} (h : Asks w base t nT nG hA dA rA g s rB lB tB v hs tx m) (q : Quiet w w') :
    Asks w' base t nT nG hA dA rA g s rB lB tB v hs tx m :=
  ⟨h.tab.quiet q, h.hg, h.hv, h.hh.quiet q, h.hl, q.cell h.cs, q.cell h.r0, q.cell h.r1, q.cell h.l0, q.cell h.t0⟩

set_option maxRecDepth 100000 in
set_option maxHeartbeats 4000000 in
theorem wf1_in {w0 : World} {base : Nat} {t : Ids} {nT nG : Nat} {hA dA rA : Array Value} {g s rB lB tB : Nat} {v : Value} {hs : List (Int × Int)} {tx m : Int} (A : Asks w0 base t nT nG hA dA rA g s rB lB tB v hs tx m)
    (n l : Nat) (J Jx : List Int → World → Prop) (W : World) (hW : Below w0.heap.size w0 W) (hJ : AbidesFrom W.heap.size J) (hJx : AbidesFrom W.heap.size Jx)
    (hY : ∀ pre x W1, J pre W1 → pre.length < hs.length → YieldAt Fence.wide (n - 1) Try.prog l #[.int .i64 x] W1 fun e W' =>
      (e = .returned (.bool true) ∧ J (pre ++ [x]) W' ∧ Below w0.heap.size W1 W') ∨ (e = .returned (.bool false) ∧ Jx (pre ++ [x]) W'))
    (h0 : J [] W) :
    CallsIn Fence.wide n Try.prog 62 #[.func (.yield l) #[] #[], .pointer (some ⟨rB, 0, none⟩), .pointer (some ⟨lB, 0, none⟩), .pointer (some ⟨tB, 0, none⟩)] W fun e W' => (∃ v, e = .returned v) ∧
      ((∃ ys, ys = cf hs tx m hs.length ∧ J ys W') ∨ (∃ pre, (∃ k, k < hs.length ∧ (hs[k]?.map fun h => (h.1 != tx && confB h.2 m)) = some true ∧ pre = cf hs tx m (k + 1)) ∧ Jx pre W')) := by
  refine callsIn_of_wp Try.func62 rfl trivial ?_ rfl
  simp only [Try.ntmps62, List.size_toArray, List.length_cons, List.length_nil, Nat.reduceAdd, Nat.reduceSub, Array.replicate_succ, Array.replicate_zero, List.push_toArray, List.append_toArray, List.nil_append, List.cons_append]
  have A1 := A.quiet (quiet_of_below hW)
  have c1 := A1.r0
  gi_wp2_with fail
  gi_loopw [14] (fun i wr => (i = .int .i64 0 ∧ J [] wr ∧ Below w0.heap.size w0 wr) ∨ (i = .int .i64 1 ∧ J (cf hs tx m hs.length) wr ∧ Below w0.heap.size w0 wr)) (fun i _ => 1 - (intOf i).toNat)
  case atStart => exact .inl ⟨rfl, h0, hW⟩
  case round =>
    rcases hrel with ⟨rfl, hJ0, hB0⟩ | ⟨rfl, hJ1, hB1⟩
    · have A2 := A.quiet (quiet_of_below hB0)
      have c0 := A2.l0
      have c2 := A2.cs
      have c3 := A2.tab.l0
      have c4 : wr.cell? ⟨t.H, g, none⟩ = some v := (A2.tab.H.cell g).trans A2.hv
      obtain ⟨ao, c, rfl, hc⟩ := A.hh.form
      have hgl := A.hg
      have hl := A.hl
      gi_wp2_with fail
      gi_loopw [26] (fun i wr' => ∃ k : Nat, k ≤ hs.length ∧ i = .int .i64 k ∧ J (cf hs tx m k) wr' ∧ Below w0.heap.size w0 wr') (fun i _ => hs.length - (intOf i).toNat)
      case atStart => exact ⟨0, Nat.zero_le _, rfl, hJ0, hB0⟩
      case round =>
        clear c0 c1 c2 c3 c4 A2 hJ0 hB0 A1
        obtain ⟨k, hk, rfl, hJk, hBk⟩ := hrel
        have A3 := A.quiet (quiet_of_below hBk)
        by_cases hlt : k < hs.length
        · obtain ⟨gb, rfl, hgb, hcell⟩ := hc (by rintro rfl; simp at hlt)
          obtain ⟨d1, d2⟩ := hcell k hlt
          have k1 := (quiet_of_below hBk).cell d1
          have k2 := (quiet_of_below hBk).cell d2
          have kt := A3.t0
          have kr := A3.r1
          have hBal : Below w0.heap.size w0 (wr.alloc (.cells #[.int .i64 hs[k].1, .int .u8 hs[k].2] 60)) := hBk.alloc hBk.size _
          have hJal : J (cf hs tx m k) (wr.alloc (.cells #[.int .i64 hs[k].1, .int .u8 hs[k].2] 60)) := hJ _ _ _ none hJk (World.grownBy_alloc _ _ _) (fun r e => by cases e)
          have kt' := (quiet_of_below hBal).cell A.t0
          have kr' := (quiet_of_below hBal).cell A.r1
          clear hcell hc d1 d2 hJk A3
          have HN : Hid ((hs[k].1 != tx && confB hs[k].2 m) = false → cf hs tx m (k + 1) = cf hs tx m k) := cf_succ_no hlt
          have HYs : Hid ((hs[k].1 != tx && confB hs[k].2 m) = true → cf hs tx m (k + 1) = cf hs tx m k ++ [hs[k].1]) := cf_succ_yes hlt
          have HG : Hid (hs[k]? = some (hs[k].1, hs[k].2)) := List.getElem?_eq_getElem hlt
          generalize hs[k].1 = x at *
          generalize hs[k].2 = mm at *
          by_cases hx : x = tx
          · have hxb : (x != tx) = false := by simp [hx]
            have hn := HN.out (by rw [hxb]; rfl)
            clear HN HYs hx
            gi_wp2_with fail
            refine ⟨trivial, ?_⟩
            gi_wp2_with fail
            refine ⟨fun _ h => (by cases h), ?_⟩
            gi_wp2_with fail
            exact ⟨⟨k + 1, by omega, by simp, by rw [hn]; exact hJal, hBal⟩, by simp [intOf]; omega⟩
          · have hxb : (x != tx) = true := by simp [hx]
            cases hcf : confB mm m
            · have hn := HN.out (by rw [hcf]; simp)
              clear HN HYs hx
              gi_wp2_with fail
              refine ⟨trivial, fun h => (by simp [Fence.wide] at h), ?_⟩
              refine (callsIn_wide.2 (conflict_any mm m _)).mono ?_
              rintro e w1 ⟨rfl, hw1⟩
              obtain rfl := hw1
              gi_wp2_with fail
              refine ⟨fun _ h => (by cases h), ?_⟩
              gi_wp2_with fail
              exact ⟨⟨k + 1, by omega, by simp, by rw [hn]; exact hJal, hBal⟩, by simp [intOf]; omega⟩
            · have hn := HYs.out (by rw [hcf, hxb]; rfl)
              clear HN HYs hx
              gi_wp2_with fail
              refine ⟨trivial, fun h => (by simp [Fence.wide] at h), ?_⟩
              refine (callsIn_wide.2 (conflict_any mm m _)).mono ?_
              rintro e w1 ⟨rfl, hw1⟩
              obtain rfl := hw1
              obtain ⟨fn, tmps, assign, body, hy, hR⟩ := hY _ x _ hJal (by have := cf_le hs tx m k; omega)
              have HN2 : Hid (cf hs tx m (k + 1) = cf hs tx m k ++ [x]) := hn
              clear hn
              gi_wp2_with fail
              refine ⟨fun h => (by simp [Fence.wide] at h), ?_⟩
              refine hR.mono ?_
              rintro e W3 (⟨rfl, hJ3, hk3⟩ | ⟨rfl, hJx3⟩)
              · gi_wp2_with fail
                exact ⟨⟨k + 1, by omega, by simp, by rw [HN2.out]; exact hJ3, hBal.trans hk3⟩, by simp [intOf]; omega⟩
              · have hfin : Hid ((hs[k]?.map fun h => (h.1 != tx && confB h.2 m)) = some true) := by rw [HG.out]; show some (x != tx && confB mm m) = some true; rw [hcf, hxb]; rfl
                gi_wp2_with fail
                refine bodyPost_ret (results_none rfl _ _ _) rfl ?_
                exact ⟨⟨_, rfl⟩, .inr ⟨_, ⟨k, hlt, hfin.out, rfl⟩, by rw [HN2.out]; exact hJx3⟩⟩
        · obtain rfl : k = hs.length := by omega
          have kl := A3.l0
          have kt := A3.t0
          have hhold := holds_any A3.tab A3.hg A3.hv A3.hh (by omega) tx
          have HH : Hid _ := hhold
          clear hhold hc
          gi_wp2_with fail
          refine ⟨trivial, fun h => (by simp [Fence.wide] at h), ?_⟩
          refine (callsIn_wide.2 HH.out).mono ?_
          rintro e w1 ⟨rfl, hq⟩
          have hB2 : Below w0.heap.size w0 w1 := below_of_quiet ((quiet_of_below hBk).trans hq)
          have hJ2 : J (cf hs tx m hs.length) w1 := hJ _ _ _ none hJk ⟨Fr.os hq, Fr.tape hq, Fr.output hq, Fr.size hq, fun k hk _ => Fr.block hq k hk (fun f => f)⟩ (fun r e => by cases e)
          have A4 := A.quiet (quiet_of_below hB2)
          have j0 := A4.l0
          have j1 := A4.tab.l1
          have jq := A4.tab.q A4.hg
          clear A3 A4 HH hq hJk hBk kl kt
          cases hasB hs tx
          · gi_wp2_with fail
            gi_loopw [61] (fun i wr' => i = .int .i64 0 ∧ wr' = w1) (fun _ _ => 0)
            case atStart => exact ⟨rfl, rfl⟩
            case round =>
              obtain ⟨rfl, rfl⟩ := hrel
              gi_wp2_with fail
              exact ⟨.inr ⟨rfl, hJ2, hB2⟩, by simp [intOf]⟩
          · gi_wp2_with fail
            exact ⟨.inr ⟨rfl, hJ2, hB2⟩, by simp [intOf]⟩
    · gi_wp2_with fail
      go_end0
      exact ⟨⟨_, rfl⟩, .inl ⟨_, rfl, hJ1⟩⟩

end Go.Proofs.Qxb6616109a.fnHoldsExclusiveHandOver
