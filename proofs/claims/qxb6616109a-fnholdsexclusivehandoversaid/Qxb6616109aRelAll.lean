import Derived.Test.Qxb6616109aServe
namespace Go.Proofs.Qxb6616109a.fnHoldsExclusiveHandOver
open Go.ChangeShapes Go.WideShapes Go.ChangeAt Go.RowKit
set_option linter.unusedSimpArgs false
set_option linter.unusedVariables false
attribute [local go_sem ↓] Go.wp_at_zero Go.wp_at_succ

/-- Behind the first loop: the holders of g are none. -/
def Freed (w w' : World) (base : Nat) (t : Ids) (nT nG : Nat) (hA dA rA : Array Value) (g gg cap : Nat) : Prop :=
  Tab w' base t nT nG (hA.setIfInBounds g (.slice (some ⟨gg, 0, none⟩) 0 cap)) dA rA ∧ Hs w' base (.slice (some ⟨gg, 0, none⟩) 0 cap) [] ∧ Fr w w' (fun k => k = t.H ∨ k = gg)

/-- Behind all. -/
def Released (w w' : World) (base : Nat) (t : Ids) (nT nG : Nat) (hA dA rA : Array Value) (g x gg cap db dcap : Nat) : Prop :=
  Tab w' base t nT nG (hA.setIfInBounds g (.slice (some ⟨gg, 0, none⟩) 0 cap)) (dA.setIfInBounds x (.slice (some ⟨db, 0, none⟩) 0 dcap)) rA ∧ Hs w' base (.slice (some ⟨gg, 0, none⟩) 0 cap) [] ∧
    Ds w' base (.slice (some ⟨db, 0, none⟩) 0 dcap) 0 [] ∧ Fr w w' (fun k => k = t.H ∨ k = gg ∨ k = t.D)

theorem freed_fin {w W w1 : World} {base : Nat} {t : Ids} {nT nG : Nat} {hA dA rA : Array Value} {g gg cap : Nat} {x m : Int} (h : Tab W base t nT nG hA dA rA) (hh : Hs W base (.slice (some ⟨gg, 0, none⟩) 1 cap) [(x, m)]) (q : Quiet w W) (hd : Deleted W.drew w1 base gg cap) :
    Freed w (w1.setCell ⟨t.H, g, none⟩ (.slice (some ⟨gg, 0, none⟩) 0 cap)) base t nT nG hA dA rA g gg cap ∧ Row w1 t.H 57 hA ∧ w1.cell? ⟨t.L, 0, none⟩ = some (.slice (some ⟨t.H, 0, none⟩) nG nG) ∧ Fr W (w1.setCell ⟨t.H, g, none⟩ (.slice (some ⟨gg, 0, none⟩) 0 cap)) (fun k => k = t.H ∨ k = gg) := by
  obtain ⟨hh1, f0⟩ := hd
  have f1 : Fr W w1 (fun k => k = gg) := Fr.trans (Fr.mono ((Quiet.refl W).drew) (fun _ _ e => e.elim)) f0
  obtain ⟨cs, hc⟩ := hh.row (k := gg) rfl
  have rH : Row w1 t.H 57 hA := h.H.keep f1 (h.H.ne hc (by decide))
  have rL : Row w1 t.L 51 (lrow t nT nG) := h.L.keep f1 (h.L.ne hc (by decide))
  have f2 : Fr W (w1.setCell ⟨t.H, g, none⟩ (.slice (some ⟨gg, 0, none⟩) 0 cap)) (fun b => b = t.H ∨ some b = (Value.slice (some ⟨gg, 0, none⟩) 1 cap).ownBlock) :=
    Fr.trans (Fr.mono f1 (fun _ _ e => .inr (by rw [e]; rfl))) (Fr.mono (Fr.setCell _ _ _) (fun _ _ e => .inl e))
  refine ⟨⟨h.setH hh f2 (rH.set _ _) (by simp [h.sH]), ?_, ?_⟩, rH, (rL.cell 0).trans rfl, Fr.trans (Fr.mono f1 (fun _ _ e => .inr e)) (Fr.mono (Fr.setCell _ _ _) (fun _ _ e => .inl e))⟩
  · exact owns_setCell hh1 (fun k hk => by cases hk; exact (h.H.ne hc (by decide)).symm) _
  · exact Fr.trans (Fr.mono q (fun _ _ e => e.elim)) (Fr.trans (Fr.mono f1 (fun _ _ e => .inr e)) (Fr.mono (Fr.setCell _ _ _) (fun _ _ e => .inl e)))

theorem Freed.quiet {w W W' : World} {base : Nat} {t : Ids} {nT nG : Nat} {hA dA rA : Array Value} {g gg cap : Nat} (h : Freed w W base t nT nG hA dA rA g gg cap) (q : Quiet W W') : Freed w W' base t nT nG hA dA rA g gg cap :=
  ⟨h.1.quiet q, h.2.1.quiet q, Fr.trans h.2.2 (Fr.mono q (fun _ _ e => e.elim))⟩

theorem rel_fin {w W : World} {base : Nat} {t : Ids} {nT nG : Nat} {hA dA rA : Array Value} {g x gg cap db dcap : Nat} (h : Freed w W base t nT nG hA dA rA g gg cap) (hd : Ds W base (.slice (some ⟨db, 0, none⟩) 1 dcap) 1 [.int .i64 g]) :
    Released w (W.setCell ⟨t.D, x, none⟩ (.slice (some ⟨db, 0, none⟩) 0 dcap)).drew base t nT nG hA dA rA g x gg cap db dcap := by
  obtain ⟨h1, h2, h3⟩ := h
  have f : Fr W (W.setCell ⟨t.D, x, none⟩ (.slice (some ⟨db, 0, none⟩) 0 dcap)).drew (fun b => b = t.D ∨ some b = (Value.slice none 0 0).ownBlock) := Fr.mono (Fr.drew (Fr.setCell _ _ _)) (fun _ _ e => .inl e)
  have hn : Ds W base (.slice none 0 0) 0 [] := World.ownsRow_nil _ _ _ _
  refine ⟨h1.setD hn (by simp [Value.ownBlock]) f (h1.D.set _ _) (by simp [h1.sD]), h2.keep f ?_, ?_, ?_⟩
  · intro k hk hx
    obtain ⟨cs, hc⟩ := h2.row hk
    rcases hx with hx | hx
    · exact hc.ne h1.D (by decide) hx
    · cases hx
  · obtain ⟨cs, hc⟩ := hd.row (k := db) rfl
    rcases hd.2 with ⟨e1, _⟩ | ⟨g', c', cur, e1, e2, e3, e4, e5, e6, e7⟩
    · cases e1
    · cases e1
      exact ⟨rfl, .inr ⟨db, dcap, cur, rfl, e2, (f.block db hc.lt (by
        rintro (hx | hx)
        · exact hc.ne h1.D (by decide) hx
        · cases hx)).trans e3, Nat.zero_le _, e5, e6, by simp⟩⟩
  · exact Fr.trans (Fr.mono h3 (fun _ _ e => e.elim .inl (fun e => .inr (.inl e)))) (Fr.mono (Fr.drew (Fr.setCell _ _ _)) (fun _ _ e => .inr (.inr e)))

set_option maxRecDepth 100000 in
set_option maxHeartbeats 3200000 in
theorem release_any {w : World} {base : Nat} {t : Ids} {nT nG : Nat} {hA dA rA : Array Value} (h : Tab w base t nT nG hA dA rA) {g x : Nat} (hg : g < nG) (hx : x < nT) {gg cap db dcap : Nat} {m : Int}
    (hv : hA[g]? = some (.slice (some ⟨gg, 0, none⟩) 1 cap)) (hdv : dA[x]? = some (.slice (some ⟨db, 0, none⟩) 1 dcap))
    (hh : Hs w base (.slice (some ⟨gg, 0, none⟩) 1 cap) [((x : Int), m)]) (hd : Ds w base (.slice (some ⟨db, 0, none⟩) 1 dcap) 1 [.int .i64 g]) :
    Calls Try.prog 9 #[.pointer (some ⟨t.L, 0, none⟩), .int .i64 x] w fun e w' => e = .returned (.tuple #[]) ∧ Released w w' base t nT nG hA dA rA g x gg cap db dcap := by
  have q1 : Quiet w (w.alloc (.cells #[.int .i64 x] 3)) := (Quiet.refl _).alloc _
  have rB : Row (w.alloc (.cells #[.int .i64 x] 3)) w.heap.size 3 #[.int .i64 x] := heap_alloc_new w _
  have c2 := (h.quiet q1).l2
  have cD : (w.alloc (.cells #[.int .i64 x] 3)).cell? ⟨t.D, x, none⟩ = some (.slice (some ⟨db, 0, none⟩) 1 dcap) := ((h.quiet q1).D.cell x).trans hdv
  have b1 : (0 : Int) ≤ (x : Int) := by omega
  have b2 : (x : Int) < (nT : Int) := by omega
  have b3 : (0 : Int) ≤ (g : Int) := by omega
  have b4 : (g : Int) < (nG : Int) := by omega
  go_enter Try.func9, Try.ntmps9
  go_wp2_with fail
  go_quiet (fail)
  go_wp2_with fail
  have q2 : Quiet w ((w.alloc (.cells #[.int .i64 x] 3)).drewN nq) := q1.drewN nq
  have rB2 : Row ((w.alloc (.cells #[.int .i64 x] 3)).drewN nq) w.heap.size 3 #[.int .i64 x] := rB
  clear c2 cD q1 rB
  generalize (w.alloc (.cells #[.int .i64 x] 3)).drewN nq = W1 at *
  have h1 := h.quiet q2
  have hh1 := hh.quiet q2
  have hd1 : Ds W1 base (.slice (some ⟨db, 0, none⟩) 1 dcap) 1 [.int .i64 g] := hd.keep q2 (fun _ _ f => f)
  have cdb : W1.cell? ⟨db, 0, none⟩ = some (.int .i64 g) := World.ownsRow.cellAt hd1 0 (by omega)
  obtain ⟨rdb, hrdb⟩ := hd1.row (k := db) rfl
  obtain ⟨rgg, hrgg⟩ := hh1.row (k := gg) rfl
  have hdB : Hid (db ≠ w.heap.size) := by
    obtain ⟨cs, hc⟩ := hd.row (k := db) rfl
    have := hc.lt
    show db ≠ w.heap.size
    omega
  go_loopw [19] (fun i wr => (i = .int .i64 0 ∧ wr = W1) ∨ (i = .int .i64 1 ∧ Freed w wr base t nT nG hA dA rA g gg cap ∧ Row wr w.heap.size 3 #[.int .i64 x] ∧ Ds wr base (.slice (some ⟨db, 0, none⟩) 1 dcap) 1 [.int .i64 g])) (fun i _ => 1 - (intOf i).toNat)
  case atStart => exact .inl ⟨rfl, rfl⟩
  case round =>
    rcases hrel with ⟨rfl, rfl⟩ | ⟨rfl, hfr, rB3, hd3⟩
    · have k0 := h1.l0
      have kH : wr.cell? ⟨t.H, g, none⟩ = some (.slice (some ⟨gg, 0, none⟩) 1 cap) := (h1.H.cell g).trans hv
      have kB : wr.cell? ⟨w.heap.size, 0, none⟩ = some (.int .i64 x) := (rB2.cell 0).trans rfl
      have hHg : t.H ≠ gg := h1.H.ne hrgg (by decide)
      have n1 : ¬ (w.heap.size = t.H ∨ w.heap.size = gg) := by
        rintro (e | e)
        · exact rB2.ne h1.H (by decide) e
        · exact rB2.ne hrgg (by decide) e
      have n2 : ¬ (db = t.H ∨ db = gg) := by
        rintro (e | e)
        · exact hrdb.ne h1.H (by decide) e
        · exact hrdb.ne hrgg (by decide) e
      have N1 : Hid _ := n1
      have N2 : Hid _ := n2
      clear n1 n2
      go_wp2_with fail
      go_region_with (go_at_call 20; refine (del_one (w := wr.drew) (x := x) (m := m) hh1 w.heap.size kB).mono ?_; rintro e w2 ⟨rfl, hdel⟩; have fin := freed_fin (w := w) (g := g) h1 hh1 q2 hdel; have j0 := fin.2.2.1; have FR : Hid _ := fin.2.2.2; have jH := (fin.2.1.cell g).trans hv; have jf := fin.2.1.frozen g; have FIN : Hid _ := fin.1; clear fin hdel)
      all_goals
        go_wp2_with fail
        go_roundw
        case rel => exact .inr ⟨rfl, FIN.out, rB2.keep FR.out N1.out, hd1.keep FR.out (fun k hk => by cases hk; exact N2.out)⟩
        case measure => simp [intOf]
    · have kB : wr.cell? ⟨w.heap.size, 0, none⟩ = some (.int .i64 x) := (rB3.cell 0).trans rfl
      clear h1 hh1 hd1 cdb hrdb hrgg rB2
      go_wp2_with fail
      refine (unqueue_any hfr.1 hx).mono ?_
      rintro e w2 ⟨rfl, hq2⟩
      have hfr2 := hfr.quiet hq2
      have rB4 := rB3.quiet hq2
      have hd4 : Ds w2 base (.slice (some ⟨db, 0, none⟩) 1 dcap) 1 [.int .i64 g] := hd3.keep hq2 (fun _ _ f => f)
      have cdb : w2.cell? ⟨db, 0, none⟩ = some (.int .i64 g) := World.ownsRow.cellAt hd4 0 (by omega)
      go_wp2_with fail
      go_loopw [49] (fun i wr' => (i = .int .i64 0 ∨ i = .int .i64 1) ∧ Quiet w2 wr') (fun i _ => 1 - (intOf i).toNat)
      case atStart => exact ⟨.inl rfl, Quiet.refl _⟩
      case round =>
        obtain ⟨hi, hq3⟩ := hrel
        rcases hi with rfl | rfl
        · have cdb' := hq3.cell cdb
          go_wp2_with fail
          refine (serve_any (hfr2.quiet hq3).1 hg).mono ?_
          rintro e w4 ⟨rfl, hq4⟩
          go_wp2_with fail
          go_roundw
          case rel => exact ⟨.inr rfl, hq3.trans hq4⟩
          case measure => simp [intOf]
        · go_wp2_with fail
          refine (serveWhole_any (hfr2.quiet hq3).1).mono ?_
          rintro e w5 ⟨rfl, hq5⟩
          have q25 := hq3.trans hq5
          have hfr5 := hfr2.quiet q25
          have hd5 : Ds w5 base (.slice (some ⟨db, 0, none⟩) 1 dcap) 1 [.int .i64 g] := hd4.keep q25 (fun _ _ f => f)
          have rB5 := rB4.quiet q25
          have k2 := hfr5.1.l2
          have kD : w5.cell? ⟨t.D, x, none⟩ = some (.slice (some ⟨db, 0, none⟩) 1 dcap) := (hfr5.1.D.cell x).trans hdv
          have kf := hfr5.1.D.frozen x
          have kB5 : w5.cell? ⟨w.heap.size, 0, none⟩ = some (.int .i64 x) := (rB5.cell 0).trans rfl
          have fin : Hid _ := rel_fin (x := x) hfr5 hd5
          go_wp2_with fail
          have hDL : t.D ≠ t.L := hfr5.1.D.ne hfr5.1.L (by decide)
          have hDB : t.D ≠ w.heap.size := hfr5.1.D.ne rB5 (by decide)
          clear hfr5 hd5 rB5 hfr2 hfr hd4 hd3 rB4 rB3 cdb hv hdv hh hd h kB
          go_region
          all_goals
            go_end0
            exact ⟨rfl, fin.out⟩

end Go.Proofs.Qxb6616109a.fnHoldsExclusiveHandOver
