import Derived.Test.Qxb6616109aWaits2
import Derived.Test.Qxb6616109aGive
namespace Go.Proofs.Qxb6616109a.fnHoldsExclusiveHandOver
open Go.ChangeShapes Go.WideShapes Go.ChangeAt Go.RowKit
set_option linter.unusedSimpArgs false
set_option linter.unusedVariables false

theorem Gave.of_quiet {w W w' : World} {base : Nat} {t : Ids} {nT nG : Nat} {hA dA rA : Array Value} {g x : Nat} {m : Int} {v dv : Value} {hs : List (Int × Int)} {n : Nat} {xs : List Value} {rv : Value} (q : Quiet w W)
    (h : Gave W w' base t nT nG hA dA rA g x m v dv hs n xs rv) : Gave w w' base t nT nG hA dA rA g x m v dv hs n xs rv := by
  obtain ⟨v', dv', h1, h2, h3, h4, h5, h6⟩ := h
  exact ⟨v', dv', h1, h2, h3, h4, Fr.trans (Fr.mono q (fun _ _ f => f.elim)) h5, fun k hk => (h6 k hk).elim .inl (fun h => .inr (Nat.le_trans q.size h))⟩

theorem Refused.of_quiet {w W w' : World} {base : Nat} {t : Ids} {nT nG : Nat} {hA dA rA : Array Value} {x : Nat} (q : Quiet w W) (h : Refused W w' base t nT nG hA dA rA x) : Refused w w' base t nT nG hA dA rA x := by
  obtain ⟨k, c, m, h1, h2⟩ := h
  exact ⟨k, c, m, h1, Fr.trans (Fr.mono q (fun _ _ f => f.elim)) h2⟩

set_option maxRecDepth 100000 in
set_option maxHeartbeats 3200000 in
theorem take_yes {w : World} {base : Nat} {t : Ids} {nT nG : Nat} {hA dA rA : Array Value} (h : Tab w base t nT nG hA dA rA) {g x : Nat} (hg : g < nG) (hx : x < nT) {v dv : Value} (hv : hA[g]? = some v) (hdv : dA[x]? = some dv)
    {hs : List (Int × Int)} (hh : Hs w base v hs) (hl : hs.length ≤ 100) {n : Nat} {xs : List Value} (hd : Ds w base dv n xs) (hn : n ≤ 100) (hU : dv.ownBlock ≠ some t.U) (m : Int) (hno : idxI hs x = -1)
    (s : Nat) (hsc : w.cell? ⟨s, 0, none⟩ = some (.int .i64 g)) (ro : Option Addr) (rn rc : Nat) (hr : rA[x * 2]? = some (.slice ro rn rc)) (hro : (ro = none ∧ rn = 0 ∧ rc = 0) ∨ ∃ k, ro = some ⟨k, 0, none⟩) (hw : waitB hs x m = false) :
    Calls Try.prog 18 #[.pointer (some ⟨t.L, 0, none⟩), .int .i64 x, .agg #[.slice (some ⟨s, 0, none⟩) 1 1, .int .u8 m]] w fun e w' => e = .returned (.bool true) ∧ Gave w w' base t nT nG hA dA rA g x m v dv hs n xs (.slice ro 0 rc) := by
  have q1 : Quiet w (w.alloc (.cells #[.slice (some ⟨s, 0, none⟩) 1 1, .int .u8 m] 54)) := (Quiet.refl _).alloc _
  have rB : Row (w.alloc (.cells #[.slice (some ⟨s, 0, none⟩) 1 1, .int .u8 m] 54)) w.heap.size 54 #[.slice (some ⟨s, 0, none⟩) 1 1, .int .u8 m] := heap_alloc_new w _
  go_enter Try.func18, Try.ntmps18
  go_wp2_with fail
  refine (drop_any (h.quiet q1) hx).mono ?_
  rintro e w1 ⟨rfl, hq1⟩
  have q2 := q1.trans hq1
  have c1 := ((rB.quiet hq1).cell 0).trans (show _ = some (.slice (some ⟨s, 0, none⟩) 1 1) from rfl)
  have c2 := ((rB.quiet hq1).cell 1).trans (show _ = some (.int .u8 m) from rfl)
  go_wp2_with fail
  refine (waits_any (h.quiet q2) hg hv (hh.quiet q2) hl x m s (q2.cell hsc)).mono ?_
  rintro e w2 ⟨rfl, hq2⟩
  have q3 := q2.trans hq2
  have d1 := hq2.cell c1
  have d2 := hq2.cell c2
  rw [hw]
  have HW : Hid (waitB hs x m = false) := hw
  clear hw c1 c2
  go_wp2_with fail
  refine (give_any (h.quiet q3) hg hx hv hdv (hh.quiet q3) hl (hd.keep q3 (fun _ _ f => f)) hn hU m hno s (q3.cell hsc) ro rn rc hr hro).mono ?_
  rintro e w3 ⟨rfl, hgv⟩
  have fin : Hid _ := hgv.of_quiet q3
  clear hgv
  go_wp2_with fail
  go_ret
  exact ⟨rfl, fin.out⟩

set_option maxRecDepth 100000 in
set_option maxHeartbeats 3200000 in
theorem take_no {w : World} {base : Nat} {t : Ids} {nT nG : Nat} {hA dA rA : Array Value} (h : Tab w base t nT nG hA dA rA) {g x : Nat} (hg : g < nG) (hx : x < nT) {v : Value} (hv : hA[g]? = some v)
    {hs : List (Int × Int)} (hh : Hs w base v hs) (hl : hs.length ≤ 100) (m : Int)
    (s : Nat) (hsc : w.cell? ⟨s, 0, none⟩ = some (.int .i64 g)) (hr : rA[x * 2]? = some (.slice none 0 0)) (hw : waitB hs x m = true) :
    Calls Try.prog 18 #[.pointer (some ⟨t.L, 0, none⟩), .int .i64 x, .agg #[.slice (some ⟨s, 0, none⟩) 1 1, .int .u8 m]] w fun e w' => e = .returned (.bool false) ∧ Refused w w' base t nT nG hA dA rA x := by
  have q1 : Quiet w (w.alloc (.cells #[.slice (some ⟨s, 0, none⟩) 1 1, .int .u8 m] 54)) := (Quiet.refl _).alloc _
  have rB : Row (w.alloc (.cells #[.slice (some ⟨s, 0, none⟩) 1 1, .int .u8 m] 54)) w.heap.size 54 #[.slice (some ⟨s, 0, none⟩) 1 1, .int .u8 m] := heap_alloc_new w _
  go_enter Try.func18, Try.ntmps18
  go_wp2_with fail
  refine (drop_any (h.quiet q1) hx).mono ?_
  rintro e w1 ⟨rfl, hq1⟩
  have q2 := q1.trans hq1
  have c1 := ((rB.quiet hq1).cell 0).trans (show _ = some (.slice (some ⟨s, 0, none⟩) 1 1) from rfl)
  have c2 := ((rB.quiet hq1).cell 1).trans (show _ = some (.int .u8 m) from rfl)
  go_wp2_with fail
  refine (waits_any (h.quiet q2) hg hv (hh.quiet q2) hl x m s (q2.cell hsc)).mono ?_
  rintro e w2 ⟨rfl, hq2⟩
  have q3 := q2.trans hq2
  have d1 := hq2.cell c1
  have d2 := hq2.cell c2
  rw [hw]
  have HW : Hid (waitB hs x m = true) := hw
  clear hw c1 c2
  go_wp2_with fail
  refine (refuse_any (h.quiet q3) hx hr s g m (q3.cell hsc)).mono ?_
  rintro e w3 ⟨rfl, hgv⟩
  have fin : Hid _ := hgv.of_quiet q3
  clear hgv
  go_wp2_with fail
  go_ret
  exact ⟨rfl, fin.out⟩

set_option maxRecDepth 100000 in
set_option maxHeartbeats 3200000 in
theorem lock_yes {w : World} {base : Nat} {t : Ids} {nT nG : Nat} {hA dA rA : Array Value} (h : Tab w base t nT nG hA dA rA) {g x : Nat} (hg : g < nG) (hx : x < nT) {v dv : Value} (hv : hA[g]? = some v) (hdv : dA[x]? = some dv)
    {hs : List (Int × Int)} (hh : Hs w base v hs) (hl : hs.length ≤ 100) {n : Nat} {xs : List Value} (hd : Ds w base dv n xs) (hn : n ≤ 100) (hU : dv.ownBlock ≠ some t.U) (m : Int) (hno : idxI hs x = -1)
    (s : Nat) (hsc : w.cell? ⟨s, 0, none⟩ = some (.int .i64 g)) (ro : Option Addr) (rn rc : Nat) (hr : rA[x * 2]? = some (.slice ro rn rc)) (hro : (ro = none ∧ rn = 0 ∧ rc = 0) ∨ ∃ k, ro = some ⟨k, 0, none⟩) (hw : waitB hs x m = false) :
    Calls Try.prog 7 #[.pointer (some ⟨t.L, 0, none⟩), .int .i64 x, .slice (some ⟨s, 0, none⟩) 1 1, .int .u8 m] w fun e w' => e = .returned (.bool true) ∧ Gave w w' base t nT nG hA dA rA g x m v dv hs n xs (.slice ro 0 rc) := by
  have HT := take_yes h hg hx hv hdv hh hl hd hn hU m hno s hsc ro rn rc hr hro hw
  clear hw hr hno hv hdv
  go_enter Try.func7, Try.ntmps7
  go_wp2_with fail
  refine HT.mono ?_
  rintro e w1 ⟨rfl, hgv⟩
  have fin : Hid _ := hgv
  clear hgv
  go_wp2_with fail
  go_ret
  exact ⟨rfl, fin.out⟩

theorem neq_nilFunc (w : World) : (binOp .neq 28 .nilFunc .nilFunc).run Try.prog w = .ok (.bool false) w := by kernel_rfl

set_option maxRecDepth 100000 in
set_option maxHeartbeats 3200000 in
theorem lock_no {w : World} {base : Nat} {t : Ids} {nT nG : Nat} {hA dA rA : Array Value} (h : Tab w base t nT nG hA dA rA) {g x : Nat} (hg : g < nG) (hx : x < nT) {v : Value} (hv : hA[g]? = some v)
    {hs : List (Int × Int)} (hh : Hs w base v hs) (hl : hs.length ≤ 100) (m : Int)
    (s : Nat) (hsc : w.cell? ⟨s, 0, none⟩ = some (.int .i64 g)) (hr : rA[x * 2]? = some (.slice none 0 0)) (hw : waitB hs x m = true) :
    Calls Try.prog 7 #[.pointer (some ⟨t.L, 0, none⟩), .int .i64 x, .slice (some ⟨s, 0, none⟩) 1 1, .int .u8 m] w fun e w' => e = .returned (.bool false) ∧ Refused w w' base t nT nG hA dA rA x := by
  have HT := take_no h hg hx hv hh hl m s hsc hr hw
  have hnf := neq_nilFunc
  clear hw hr hv
  go_enter Try.func7, Try.ntmps7
  go_wp2_with fail
  refine HT.mono ?_
  rintro e w1 ⟨rfl, hgv⟩
  have k5 : w1.cell? ⟨t.L, 5, none⟩ = some .nilFunc := by
    obtain ⟨k, c, mm, h1, _⟩ := hgv
    exact h1.l5
  have fin : Hid _ := hgv
  clear hgv
  go_wp2_with fail
  go_ret
  exact ⟨rfl, fin.out⟩

end Go.Proofs.Qxb6616109a.fnHoldsExclusiveHandOver
