import Derived.Test.Qxb6616109aLock
namespace Go.Proofs.Qxb6616109a.fnHoldsExclusiveHandOver
open Go.ChangeShapes Go.WideShapes Go.ChangeAt Go.RowKit
set_option linter.unusedSimpArgs false
set_option linter.unusedVariables false

theorem run_clear_one {gg cap : Nat} {cur : Array Value} {w : World} (h : Row w gg 60 cur) (hs : 2 ≤ cur.size) :
    (Builtin.clear_ #[57] 0 #[.slice (some ⟨gg, 0, none⟩) 1 cap]).run Try.prog w = .ok (.tuple #[]) (w.setCells gg 0 [.int .i64 0, .int .u8 0]) := by
  have hst := run_storeCells_cells (P := Try.prog) gg 0 [.int .i64 0, .int .u8 0] 0 w (by
    intro j hj
    rw [h.cell]
    have : j < 2 := hj
    simp; omega) (by intro j hj; exact h.frozen _) (by simp [Value.oneCell'])
  have e : List.map (fun i => [Value.int IntKind.i64 0, Value.int IntKind.u8 0][i % 2]?.getD default) (List.range 2) = [Value.int IntKind.i64 0, Value.int IntKind.u8 0] := rfl
  simp [Builtin.clear_, run_underlying Try.underlying57, Try.zeroValue60, Builtin.zeroCells, Value.cells]
  rw [e, hst]
  rfl

def Deleted (w w' : World) (base gg cap : Nat) : Prop := Hs w' base (.slice (some ⟨gg, 0, none⟩) 0 cap) [] ∧ Fr w w' (fun k => k = gg)

set_option maxRecDepth 100000 in
set_option maxHeartbeats 3200000 in
theorem del_one {w : World} {base gg cap : Nat} {x m : Int} (hh : Hs w base (.slice (some ⟨gg, 0, none⟩) 1 cap) [(x, m)]) (B : Nat) (hB : w.cell? ⟨B, 0, none⟩ = some (.int .i64 x)) :
    Calls Try.prog 20 #[.slice (some ⟨gg, 0, none⟩) 1 cap, .func (.func 21) #[] #[.pointer (some ⟨B, 0, none⟩)]] w fun e w' => e = .returned (.slice (some ⟨gg, 0, none⟩) 0 cap) ∧ Deleted w w' base gg cap := by
  have hi : idxI [(x, m)] x = 0 := by simp [idxI]
  go_enter Try.func20, Try.ntmps20
  go_wp2_with fail
  refine (index21 hh x B hB (by simp)).mono ?_
  rintro e w1 ⟨rfl, hq1⟩
  rw [hi]
  have hh1 := hh.quiet hq1
  obtain ⟨cur, hcap, hrow, hlo, hmx, hcs⟩ : ∃ cur, 1 ≤ cap ∧ Row w1 gg 60 cur ∧ base ≤ gg ∧ cap ≤ maxLen ∧ cur.size = cap * 2 := by
    rcases hh1.2 with ⟨h1, _⟩ | ⟨g, cap', cur, h1, h2, h3, h4, h5, h6, h7⟩
    · cases h1
    · cases h1
      exact ⟨cur, h4, h3, h2, h5, h6⟩
  have hcl := run_clear_one (cap := cap) hrow (by omega)
  have fin : Deleted w (w1.setCells gg 0 [.int .i64 0, .int .u8 0]) base gg cap := by
    refine ⟨⟨rfl, .inr ⟨gg, cap, (cur.setIfInBounds 0 (.int .i64 0)).setIfInBounds 1 (.int .u8 0), rfl, hlo, (hrow.set _ _).set _ _, Nat.zero_le _, hmx, by simp [hcs], by simp [hcells]⟩⟩, ?_⟩
    exact Fr.trans (Fr.mono hq1 (fun _ _ f => f.elim)) ((Fr.setCell w1 ⟨gg, 0, none⟩ _).trans (Fr.setCell _ ⟨gg, 1, none⟩ _))
  have FIN : Hid _ := fin
  clear hi fin
  go_wp2_with fail
  go_loopw [5, 6] (fun i j wr => i = .int .i64 0 ∧ j = .int .i64 1 ∧ wr = w1) (fun _ _ _ => 0)
  case atStart => exact ⟨rfl, rfl, rfl⟩
  case round =>
    obtain ⟨rfl, rfl, rfl⟩ := hrel
    go_wp2_with fail
    go_ret
    exact ⟨rfl, FIN.out⟩

end Go.Proofs.Qxb6616109a.fnHoldsExclusiveHandOver
