import Derived.Test.Qxb6616109aGrantW
namespace Go.Proofs.Qxb6616109a.fnHoldsExclusiveHandOver
open Go.ChangeShapes Go.WideShapes Go.ChangeAt Go.RowKit
set_option linter.unusedSimpArgs false
set_option linter.unusedVariables false

/-- What a giving leaves. -/
def Gave (w w' : World) (base : Nat) (t : Ids) (nT nG : Nat) (hA dA rA : Array Value) (g x : Nat) (m : Int) (v dv : Value) (hs : List (Int × Int)) (n : Nat) (xs : List Value) (rv' : Value) : Prop :=
  ∃ v' dv', Tab w' base t nT nG (hA.setIfInBounds g v') (dA.setIfInBounds x dv') (rA.setIfInBounds (x * 2) rv') ∧ Hs w' base v' (hs ++ [((x : Int), m)]) ∧ Ds w' base dv' (n + 1) (xs ++ [.int .i64 g]) ∧ dv'.ownBlock ≠ some t.U ∧
    Fr w w' (fun b => b = t.H ∨ b = t.D ∨ b = t.R ∨ some b = v.ownBlock ∨ some b = dv.ownBlock) ∧ (∀ k, dv'.ownBlock = some k → dv.ownBlock = some k ∨ w.heap.size ≤ k)

theorem give_fin {w wr : World} {base : Nat} {t : Ids} {nT nG : Nat} {hA dA rA : Array Value} {g x : Nat} {m : Int} {v dv : Value} {hs : List (Int × Int)} {n : Nat} {xs : List Value} (rv : Value) (hx : x < nT)
    (hg : Granted w wr base t nT nG hA dA rA g x m v dv hs n xs) : Gave w (wr.setCell ⟨t.R, x * 2, none⟩ rv).drew base t nT nG hA dA rA g x m v dv hs n xs rv := by
  obtain ⟨v', dv', h, hh, hd, hu, hf, hk⟩ := hg
  have f1 : Fr wr (wr.setCell ⟨t.R, x * 2, none⟩ rv).drew (fun b => b = t.R) := Fr.drew (Fr.setCell _ _ _)
  refine ⟨v', dv', h.setR f1 (h.R.set _ _) (by simp [h.sR]), hh.keep f1 ?_, hd.keep f1 ?_, hu, ?_, hk⟩
  · intro k hk hx
    obtain ⟨cs, hc⟩ := hh.row hk
    exact hc.ne h.R (by decide) hx
  · intro k hk hx
    obtain ⟨cs, hc⟩ := hd.row hk
    exact hc.ne h.R (by decide) hx
  · refine Fr.trans (Fr.mono hf ?_) (Fr.mono f1 (fun _ _ h => .inr (.inr (.inl h))))
    rintro k _ (h | h | h | h)
    · exact .inl h
    · exact .inr (.inl h)
    · exact .inr (.inr (.inr (.inl h)))
    · exact .inr (.inr (.inr (.inr h)))

set_option maxRecDepth 100000 in
set_option maxHeartbeats 3200000 in
theorem give_any {w : World} {base : Nat} {t : Ids} {nT nG : Nat} {hA dA rA : Array Value} (h : Tab w base t nT nG hA dA rA) {g x : Nat} (hg : g < nG) (hx : x < nT) {v dv : Value} (hv : hA[g]? = some v) (hdv : dA[x]? = some dv)
    {hs : List (Int × Int)} (hh : Hs w base v hs) (hl : hs.length ≤ 100) {n : Nat} {xs : List Value} (hd : Ds w base dv n xs) (hn : n ≤ 100) (hU : dv.ownBlock ≠ some t.U) (m : Int) (hno : idxI hs x = -1)
    (s : Nat) (hsc : w.cell? ⟨s, 0, none⟩ = some (.int .i64 g)) (ro : Option Addr) (rn rc : Nat) (hr : rA[x * 2]? = some (.slice ro rn rc)) (hro : (ro = none ∧ rn = 0 ∧ rc = 0) ∨ ∃ k, ro = some ⟨k, 0, none⟩) :
    Calls Try.prog 33 #[.pointer (some ⟨t.L, 0, none⟩), .int .i64 x, .int .u8 m, .slice (some ⟨s, 0, none⟩) 1 1] w fun e w' => e = .returned (.tuple #[]) ∧ Gave w w' base t nT nG hA dA rA g x m v dv hs n xs (.slice ro 0 rc) := by
  have b3 : (0 : Int) ≤ (x : Int) := by omega
  have b4 : (x : Int) < (nT : Int) := by omega
  go_enter Try.func33, Try.ntmps33
  go_wp2_with fail
  go_loopw [12] (fun i wr => (i = .int .i64 0 ∧ wr = w) ∨ (i = .int .i64 1 ∧ Granted w wr base t nT nG hA dA rA g x m v dv hs n xs)) (fun i _ => 1 - (intOf i).toNat)
  case atStart => exact .inl ⟨rfl, rfl⟩
  case round =>
    rcases hrel with ⟨rfl, rfl⟩ | ⟨rfl, hgr⟩
    · go_wp2_with fail
      refine (grant_any h hg hx hv hdv hh hl hd hn hU m hno).mono ?_
      rintro e w1 ⟨rfl, hgr⟩
      have HG : Hid _ := hgr
      clear hgr
      go_wp2_with fail
      go_roundw
      case rel => exact .inr ⟨rfl, HG.out⟩
      case measure => simp [intOf]
    · have fin := give_fin (.slice ro 0 rc) hx hgr
      obtain ⟨v', dv', h2, hh2, hd2, hu2, hf2, hk2⟩ := hgr
      have k3 := h2.l3
      have kR : wr.cell? ⟨t.R, x * 2, none⟩ = some (.slice ro rn rc) := (h2.R.cell _).trans hr
      have fR := h2.R.frozen (x * 2)
      have hRL : t.R ≠ t.L := h2.R.ne h2.L (by decide)
      have FIN : Hid _ := fin
      clear fin h2 hh2 hd2 hu2 hf2 hk2 h hv hdv hh hd hr hsc
      rcases hro with ⟨rfl, rfl, rfl⟩ | ⟨k, rfl⟩
      · go_wp2_with fail
        go_region
        all_goals
          go_end0
          exact ⟨rfl, FIN.out⟩
      · go_wp2_with fail
        go_region
        all_goals
          go_end0
          exact ⟨rfl, FIN.out⟩

end Go.Proofs.Qxb6616109a.fnHoldsExclusiveHandOver
