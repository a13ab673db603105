import Derived.Test.Qxb6616109aGrant
import Derived.Test.Qxb6616109aHeld
namespace Go.Proofs.Qxb6616109a.fnHoldsExclusiveHandOver
open Go.ChangeShapes Go.WideShapes Go.ChangeAt Go.RowKit
set_option linter.unusedSimpArgs false
set_option linter.unusedVariables false
attribute [local go_sem ↓] Go.wp_at_zero Go.wp_at_succ

/-- What a grant leaves: x holds g in mode m. -/
def Granted (w w' : World) (base : Nat) (t : Ids) (nT nG : Nat) (hA dA rA : Array Value) (g x : Nat) (m : Int) (v dv : Value) (hs : List (Int × Int)) (n : Nat) (xs : List Value) : Prop :=
  ∃ v' dv', Tab w' base t nT nG (hA.setIfInBounds g v') (dA.setIfInBounds x dv') rA ∧ Hs w' base v' (hs ++ [((x : Int), m)]) ∧ Ds w' base dv' (n + 1) (xs ++ [.int .i64 g]) ∧ dv'.ownBlock ≠ some t.U ∧
    Fr w w' (fun b => b = t.H ∨ b = t.D ∨ some b = v.ownBlock ∨ some b = dv.ownBlock) ∧ (∀ k, dv'.ownBlock = some k → dv.ownBlock = some k ∨ w.heap.size ≤ k)

/-- A cell of a table's block, or of a box, behind the append to the holders' row. -/
theorem far_cell {W w1 : World} {v : Value} (f : Fr W w1 (fun b => some b = v.ownBlock)) {a : Addr} {u : Value} (hc : W.cell? a = some u) (hne : v.ownBlock ≠ some a.block) : w1.cell? a = some u := by
  rw [World.cell?_of_block (w := W) (f.block a.block (World.block_lt_of_cell? W a hc) (fun e => hne e.symm))]; exact hc

theorem ne_row {w : World} {base : Nat} {v : Value} {hs : List (Int × Int)} (h : Hs w base v hs) {k : Nat} {e : TypeId} {cs : Array Value} (hk : Row w k e cs) (hne : e ≠ 60) : v.ownBlock ≠ some k := fun hx => by
  obtain ⟨cs', hc⟩ := h.row hx
  exact hk.ne hc hne rfl

set_option maxRecDepth 100000 in
set_option maxHeartbeats 3200000 in
theorem grant_any {w : World} {base : Nat} {t : Ids} {nT nG : Nat} {hA dA rA : Array Value} (h : Tab w base t nT nG hA dA rA) {g x : Nat} (hg : g < nG) (hx : x < nT) {v dv : Value} (hv : hA[g]? = some v) (hdv : dA[x]? = some dv)
    {hs : List (Int × Int)} (hh : Hs w base v hs) (hl : hs.length ≤ 100) {n : Nat} {xs : List Value} (hd : Ds w base dv n xs) (hn : n ≤ 100) (hU : dv.ownBlock ≠ some t.U) (m : Int) (hno : idxI hs x = -1) :
    Calls Try.prog 53 #[.pointer (some ⟨t.L, 0, none⟩), .int .i64 x, .int .i64 g, .int .u8 m] w fun e w' => e = .returned (.tuple #[]) ∧ Granted w w' base t nT nG hA dA rA g x m v dv hs n xs := by
  have q1 : Quiet w (w.alloc (.cells #[.int .i64 x] 3)) := (Quiet.refl _).alloc _
  have h1 := h.quiet q1
  have hh1 := hh.quiet q1
  have c0 := h1.l0
  have cH : (w.alloc (.cells #[.int .i64 x] 3)).cell? ⟨t.H, g, none⟩ = some v := (h1.H.cell g).trans hv
  have cB : (w.alloc (.cells #[.int .i64 x] 3)).cell? ⟨w.heap.size, 0, none⟩ = some (.int .i64 x) := by simp
  obtain ⟨ao, c, rfl, _⟩ := hh.form
  obtain ⟨da, dc, rfl⟩ : ∃ da dc, dv = .slice da n dc := by
    rcases hd.2 with ⟨h1, h2⟩ | ⟨g, cap, cur, h1, _⟩
    · exact ⟨none, 0, by rw [h1, h2]⟩
    · exact ⟨_, _, h1⟩
  have hdB : Hid ((Value.slice da n dc).ownBlock ≠ some w.heap.size) := fun hx => by
    obtain ⟨cs, hc⟩ := hd.row hx
    have := hc.lt
    omega
  go_enter Try.func53, Try.ntmps53
  go_wp2_with fail
  refine (index64 hh1 x w.heap.size cB (by omega)).mono ?_
  rintro e W ⟨rfl, hq⟩
  have rB : Row W w.heap.size 3 #[.int .i64 x] := Row.quiet (heap_alloc_new w _) hq
  have q2 : Quiet w W := q1.trans hq
  have h2 := h1.quiet hq
  have hh2 := hh1.quiet hq
  have hd2 : Ds W base (.slice da n dc) n xs := hd.keep q2 (fun _ _ f => f)
  have kB := hq.cell cB
  have k0 := h2.l0
  have fH := h2.H.frozen g
  have kH : W.cell? ⟨t.H, g, none⟩ = some (.slice ao hs.length c) := (h2.H.cell g).trans hv
  have hsz := hq.size
  simp only [World.size_alloc] at hsz
  have e1 : idxI hs x = -1 := hno
  rw [e1]
  clear q1 h1 hh1 c0 cH cB hq h hh hd hno e1
  have b1 : (0 : Int) ≤ (g : Int) := by omega
  have b2 : (g : Int) < (nG : Int) := by omega
  have b3 : (0 : Int) ≤ (x : Int) := by omega
  have b4 : (x : Int) < (nT : Int) := by omega
  go_wp2_with fail
  obtain ⟨i0, hi0, hz0, hz1, hz2⟩ := info_parts Try.info60
  have nB : (Value.slice ao hs.length c).ownBlock ≠ some w.heap.size := ne_row hh2 rB (by decide)
  have nL : (Value.slice ao hs.length c).ownBlock ≠ some t.L := ne_row hh2 h2.L (by decide)
  have hHL : t.H ≠ t.L := h2.H.ne h2.L (by decide)
  have hHB : t.H ≠ w.heap.size := h2.H.ne rB (by decide)
  have hbase : base ≤ W.heap.size := by have := h2.lo.1; have := h2.L.lt; omega
  have qd : Quiet W (W.alloc (.cells #[.int .i64 x, .int .u8 m] 60)).drew := ((Quiet.refl W).alloc _).drew
  have own2 : Hid ((W.alloc (.cells #[.int .i64 x, .int .u8 m] 60)).drew.ownsRow base 60 2 (.slice ao hs.length c) hs.length (hcells hs)) := hh2.quiet qd
  have news : Hid (∀ j u, [Value.int .i64 x, .int .u8 m][j]? = some u → (W.alloc (.cells #[.int .i64 x, .int .u8 m] 60)).drew.cell? ((⟨W.heap.size, 0, none⟩ : Addr).add j) = some u) := World.news_of_block (cs := #[.int .i64 x, .int .u8 m]) (t := 60) (fr := (0, 0)) (heap_alloc_new W _)
  go_region_held3 (fun w' => w'.cell? ⟨t.L, 0, none⟩ = some (.slice (some ⟨t.H, 0, none⟩) nG nG) ∧ w'.cell? ⟨w.heap.size, 0, none⟩ = some (.int .i64 x))
    (go_keep)
    ((refine step_append_lies _ (by rfl) _ _ _ (by rfl) base 60 i0 _ 2 16 Try.underlying57 hi0 hz0 hz1 hz2 rfl (by omega) (.slice ao hs.length c) hs.length (hcells hs) (by rfl) own2.out
        ⟨W.heap.size, 0, none⟩ 1 1 [.int .i64 x, .int .u8 m] (by rfl) (by rfl) news.out (by simp [Value.oneCell'])
        (by omega) (by unfold maxLen; omega) (by omega) (by simp; omega) (W.heap.size + 1) (by simp) ?_; intro gg cap w1 hown1 hgrow hat hlt; have fin := grant_fin1 (g := g) h2 hh2 qd x m hown1 hgrow (hat.elim .inl (fun e => .inr (by simp [e]))); have j0 := far_cell fin.2.2.2.2 k0 nL; have jB := far_cell fin.2.2.2.2 kB nB; have jH : w1.cell? ⟨t.H, g, none⟩ = some (.slice ao hs.length c) := (fin.2.2.2.1.cell g).trans hv; have jf := fin.2.2.2.1.frozen g; have FIN : Hid _ := fin; clear fin hown1 hgrow hat hlt))
  go_wp2_with fail
  obtain ⟨h3, hh3, f3, _, _⟩ := FIN.out
  have hd3 : Ds (w1.setCell ⟨t.H, g, none⟩ (.slice (some ⟨gg, 0, none⟩) (hs.length + 1) cap)) base (.slice da n dc) n xs := hd2.keep f3 (fun k hk hx => by
    obtain ⟨cs, hc⟩ := hd2.row hk
    rcases hx with hx | hx
    · exact hc.ne h2.H (by decide) hx
    · obtain ⟨cs', hc'⟩ := hh2.row hx.symm
      exact hc.ne hc' (by decide) rfl)
  have rB3 : Row (w1.setCell ⟨t.H, g, none⟩ (.slice (some ⟨gg, 0, none⟩) (hs.length + 1) cap)) w.heap.size 3 #[.int .i64 x] := rB.keep f3 (fun hx => by
    rcases hx with hx | hx
    · exact hHB hx.symm
    · exact nB hx.symm)
  have F03 : Hid (Fr w (w1.setCell ⟨t.H, g, none⟩ (.slice (some ⟨gg, 0, none⟩) (hs.length + 1) cap)) (fun b => b = t.H ∨ some b = (Value.slice ao hs.length c).ownBlock)) := Fr.trans (Fr.mono q2 (fun _ _ e => e.elim)) f3
  clear FIN j0 jB jH jf own2 news kB k0 fH kH f3 h2 hh2 hd2 rB qd nB nL hHL hHB hbase
  generalize w1.setCell ⟨t.H, g, none⟩ (.slice (some ⟨gg, 0, none⟩) (hs.length + 1) cap) = W3 at *
  have k2 := h3.l2
  have kB : W3.cell? ⟨w.heap.size, 0, none⟩ = some (.int .i64 x) := (rB3.cell 0).trans rfl
  have kD : W3.cell? ⟨t.D, x, none⟩ = some (.slice da n dc) := (h3.D.cell x).trans hdv
  have fD := h3.D.frozen x
  refine wp_region_noPanic ?_
  refine wp_region_held_drew (S := fun w' => w'.cell? ⟨t.L, 2, none⟩ = some (.slice (some ⟨t.D, 0, none⟩) nT nT) ∧ w'.cell? ⟨w.heap.size, 0, none⟩ = some (.int .i64 x)) (by kernel_rfl) (by simp [k2, kB]) (fun hHeld => ?_)
  refine takeH 0 (some 45) (.pointer (some ⟨t.L, 0, none⟩)) rfl rfl (by kernel_rfl) (by kernel_rfl) (by kernel_rfl) (fun _ _ _ h => h) (by rfl) ?_ hHeld ?_
  · intro w0 hSw; (try dsimp only at hSw); go_simp
  simp only [Act.put, List.setIfInBounds_toArray, List.set_cons_zero, List.set_cons_succ]
  refine takeH 1 (some 46) (.pointer (some ⟨t.L, 0, none⟩)) rfl rfl (by kernel_rfl) (by kernel_rfl) (by kernel_rfl) (fun _ _ _ h => h) (by rfl) ?_ hHeld ?_
  · intro w0 hSw; (try dsimp only at hSw); go_simp
  simp only [Act.put, List.setIfInBounds_toArray, List.set_cons_zero, List.set_cons_succ]
  refine takeH 2 (some 47) (.pointer (some ⟨t.L, 2, none⟩)) rfl rfl (by kernel_rfl) (by kernel_rfl) (by kernel_rfl) (fun _ _ _ h => h) (by rfl) ?_ hHeld ?_
  · intro w0 hSw; (try dsimp only at hSw); go_simp
  simp only [Act.put, List.setIfInBounds_toArray, List.set_cons_zero, List.set_cons_succ]
  refine takeH 3 (some 48) (.slice (some ⟨t.D, 0, none⟩) nT nT) rfl rfl (by kernel_rfl) (by kernel_rfl) (by kernel_rfl) (fun _ _ _ h => h) (by rfl) ?_ hHeld ?_
  · intro w0 hSw; (try dsimp only at hSw); go_simp
  simp only [Act.put, List.setIfInBounds_toArray, List.set_cons_zero, List.set_cons_succ]
  refine takeH 4 (some 49) (.int .i64 x) rfl rfl (by kernel_rfl) (by kernel_rfl) (by kernel_rfl) (fun _ _ _ h => h) (by rfl) ?_ hHeld ?_
  · intro w0 hSw; (try dsimp only at hSw); go_simp
  simp only [Act.put, List.setIfInBounds_toArray, List.set_cons_zero, List.set_cons_succ]
  refine takeH 5 (some 50) (.pointer (some ⟨t.L, 0, none⟩)) rfl rfl (by kernel_rfl) (by kernel_rfl) (by kernel_rfl) (fun _ _ _ h => h) (by rfl) ?_ hHeld ?_
  · intro w0 hSw; (try dsimp only at hSw); go_simp
  simp only [Act.put, List.setIfInBounds_toArray, List.set_cons_zero, List.set_cons_succ]
  refine takeH 6 (some 51) (.pointer (some ⟨t.L, 0, none⟩)) rfl rfl (by kernel_rfl) (by kernel_rfl) (by kernel_rfl) (fun _ _ _ h => h) (by rfl) ?_ hHeld ?_
  · intro w0 hSw; (try dsimp only at hSw); go_simp
  simp only [Act.put, List.setIfInBounds_toArray, List.set_cons_zero, List.set_cons_succ]
  refine takeH 7 (some 52) (.pointer (some ⟨t.L, 2, none⟩)) rfl rfl (by kernel_rfl) (by kernel_rfl) (by kernel_rfl) (fun _ _ _ h => h) (by rfl) ?_ hHeld ?_
  · intro w0 hSw; (try dsimp only at hSw); go_simp
  simp only [Act.put, List.setIfInBounds_toArray, List.set_cons_zero, List.set_cons_succ]
  refine takeH 8 (some 53) (.slice (some ⟨t.D, 0, none⟩) nT nT) rfl rfl (by kernel_rfl) (by kernel_rfl) (by kernel_rfl) (fun _ _ _ h => h) (by rfl) ?_ hHeld ?_
  · intro w0 hSw; (try dsimp only at hSw); go_simp
  simp only [Act.put, List.setIfInBounds_toArray, List.set_cons_zero, List.set_cons_succ]
  refine takeH 9 (some 54) (.int .i64 x) rfl rfl (by kernel_rfl) (by kernel_rfl) (by kernel_rfl) (fun _ _ _ h => h) (by rfl) ?_ hHeld ?_
  · intro w0 hSw; (try dsimp only at hSw); go_simp
  simp only [Act.put, List.setIfInBounds_toArray, List.set_cons_zero, List.set_cons_succ]
  refine takeH 10 (some 55) (.pointer (some ⟨t.D, x, none⟩)) rfl rfl (by kernel_rfl) (by kernel_rfl) (by kernel_rfl) (fun _ _ _ h => h) (by rfl) ?_ hHeld ?_
  · intro w0 hSw; (try dsimp only at hSw); go_simp
  simp only [Act.put, List.setIfInBounds_toArray, List.set_cons_zero, List.set_cons_succ]
  refine takeH 12 (some 57) (.int .i64 g) rfl rfl (by kernel_rfl) (by kernel_rfl) (by kernel_rfl) (fun _ _ _ h => h) (by rfl) ?_ hHeld ?_
  · intro w0 hSw; (try dsimp only at hSw); go_simp
  simp only [Act.put, List.setIfInBounds_toArray, List.set_cons_zero, List.set_cons_succ]
  obtain ⟨i1, hi1, hy0, hy1, hy2⟩ := info_parts Try.info3
  have qd3 : Quiet W3 (W3.alloc (.cells #[.int .i64 g] 3)).drew := ((Quiet.refl W3).alloc _).drew
  have own3 : Hid ((W3.alloc (.cells #[.int .i64 g] 3)).drew.ownsRow base 3 1 (.slice da n dc) n xs) := hd3.keep qd3 (fun _ _ f => f)
  have news3 : Hid (∀ j u, [Value.int .i64 g][j]? = some u → (W3.alloc (.cells #[.int .i64 g] 3)).drew.cell? ((⟨W3.heap.size, 0, none⟩ : Addr).add j) = some u) := World.news_of_block (cs := #[.int .i64 g]) (t := 3) (fr := (0, 0)) (heap_alloc_new W3 _)
  have kd2 : (W3.alloc (.cells #[.int .i64 g] 3)).drew.cell? ⟨t.L, 2, none⟩ = some (.slice (some ⟨t.D, 0, none⟩) nT nT) ∧ (W3.alloc (.cells #[.int .i64 g] 3)).drew.cell? ⟨w.heap.size, 0, none⟩ = some (.int .i64 x) := ⟨qd3.cell k2, qd3.cell kB⟩
  have kD2 := qd3.cell kD
  have nL2 : some t.L ≠ (Value.slice da n dc).ownBlock := fun hx => by
    obtain ⟨cs, hc⟩ := hd3.row hx.symm
    exact h3.L.ne hc (by decide) rfl
  have nB2 : some w.heap.size ≠ (Value.slice da n dc).ownBlock := fun hx => hdB.out hx.symm
  have hDL : t.D ≠ t.L := h3.D.ne h3.L (by decide)
  have hDB : t.D ≠ w.heap.size := h3.D.ne rB3 (by decide)
  have hbase3 : base ≤ W3.heap.size := by have := h3.lo.1; have := h3.L.lt; omega
  have hk4 : Hid (∀ k, (Value.slice (some ⟨gg, 0, none⟩) (hs.length + 1) cap).ownBlock = some k → ¬ (k = t.D ∨ some k = (Value.slice da n dc).ownBlock)) := fun k hk hx => by
    obtain ⟨cs, hc⟩ := hh3.row hk
    rcases hx with hx | hx
    · exact hc.ne h3.D (by decide) hx
    · obtain ⟨cs', hc'⟩ := hd3.row hx.symm
      exact hc.ne hc' (by decide) rfl
  refine twoH 11 13 (by kernel_rfl) ?_ ?_
  · refine runOpH 11 (some 56) (.slice da n dc) _ rfl rfl rfl (by go_simp) hHeld ?_
    simp only [Act.put, List.setIfInBounds_toArray, List.set_cons_zero, List.set_cons_succ]
    refine oneH 13 (by kernel_rfl) (runOpH 13 (some 58) (.slice (some ⟨W3.heap.size, 0, none⟩) 1 1) ((W3.alloc (.cells #[.int .i64 g] 3)).drew) rfl rfl rfl (by go_simp) kd2 ?_)
    simp only [Act.put, List.setIfInBounds_toArray, List.set_cons_zero, List.set_cons_succ]
    refine oneH 14 (by kernel_rfl) (opH 14 (some 59) rfl rfl rfl (fun K hK => ?_))
    refine wp_append_lies _ (.tmp 56) (.tmp 58) 25 rfl base 3 i1 (.int .i64 0) 1 8 Try.underlying25 hi1 hy0 hy1 hy2 rfl (by omega) (.slice da n dc) n xs (by rfl) own3.out ⟨W3.heap.size, 0, none⟩ 1 1 [.int .i64 g] (by rfl) (by rfl) news3.out (by simp [Value.oneCell']) (by omega) (by unfold maxLen; omega) (by omega) (by simp; omega) (W3.heap.size + 1) (by simp) ?_
    intro g2 cap2 w2 hown2 hgrow2 hat2 hlt2
    have fin2 := grant_fin2 (x := x) h3 hd3 hU qd3 hown2 hgrow2 (hat2.elim .inl (fun e => .inr (by simp [e])))
    obtain ⟨h4, hd4, f4, r4, u4⟩ := fin2
    have e2 : w2.cell? ⟨t.L, 2, none⟩ = some (.slice (some ⟨t.D, 0, none⟩) nT nT) := hgrow2.cell kd2.1 nL2
    have eB : w2.cell? ⟨w.heap.size, 0, none⟩ = some (.int .i64 x) := hgrow2.cell kd2.2 nB2
    refine hK _ _ ⟨e2, eB⟩ ?_
    clear hK K
    simp only [Act.put, List.setIfInBounds_toArray, List.set_cons_zero, List.set_cons_succ]
    refine takeH 15 (some 60) (.pointer (some ⟨t.D, x, none⟩)) rfl rfl (by kernel_rfl) (by kernel_rfl) (by kernel_rfl) (fun _ _ _ h => h) (by rfl) ?_ ⟨e2, eB⟩ ?_
    · intro w0 hSw; (try dsimp only at hSw); go_simp
    simp only [Act.put, List.setIfInBounds_toArray, List.set_cons_zero, List.set_cons_succ]
    have eD : w2.cell? ⟨t.D, x, none⟩ = some (.slice da n dc) := (r4.cell x).trans hdv
    have eF := r4.frozen x
    refine oneH 16 (by kernel_rfl) (skipOpH 16 none (w2.setCell ⟨t.D, x, none⟩ (.slice (some ⟨g2, 0, none⟩) (n + 1) cap2)) rfl rfl rfl (by go_simp) ⟨by rw [World.cell?_setCell_far _ _ _ _ hDL]; exact e2, by rw [World.cell?_setCell_far _ _ _ _ hDB]; exact eB⟩ ?_)
    simp only [Act.put, List.setIfInBounds_toArray, List.set_cons_zero, List.set_cons_succ]
    refine wpAnyH_done (by kernel_rfl) (NoPanic.normal ?_) _
    go_wp2
    go_end0
    refine ⟨rfl, _, _, h4, hh3.keep f4 hk4.out, hd4, by intro hx; cases hx; exact u4 rfl, ?_, fun k hk => by cases hk; exact hat2.elim .inl (fun e => .inr (by have := F03.out.size; show w.heap.size ≤ g2; omega))⟩
    exact Fr.trans (Fr.mono F03.out (fun _ _ hx => hx.elim .inl (fun h => .inr (.inr (.inl h))))) (Fr.mono f4 (fun _ _ hx => hx.elim (fun h => .inr (.inl h)) (fun h => .inr (.inr (.inr h)))))
  · refine runOpH 13 (some 58) (.slice (some ⟨W3.heap.size, 0, none⟩) 1 1) ((W3.alloc (.cells #[.int .i64 g] 3)).drew) rfl rfl rfl (by go_simp) kd2 ?_
    simp only [Act.put, List.setIfInBounds_toArray, List.set_cons_zero, List.set_cons_succ]
    refine oneH 11 (by kernel_rfl) (runOpH 11 (some 56) (.slice da n dc) _ rfl rfl rfl (by go_simp) kd2 ?_)
    simp only [Act.put, List.setIfInBounds_toArray, List.set_cons_zero, List.set_cons_succ]
    refine oneH 14 (by kernel_rfl) (opH 14 (some 59) rfl rfl rfl (fun K hK => ?_))
    refine wp_append_lies _ (.tmp 56) (.tmp 58) 25 rfl base 3 i1 (.int .i64 0) 1 8 Try.underlying25 hi1 hy0 hy1 hy2 rfl (by omega) (.slice da n dc) n xs (by rfl) own3.out ⟨W3.heap.size, 0, none⟩ 1 1 [.int .i64 g] (by rfl) (by rfl) news3.out (by simp [Value.oneCell']) (by omega) (by unfold maxLen; omega) (by omega) (by simp; omega) (W3.heap.size + 1) (by simp) ?_
    intro g2 cap2 w2 hown2 hgrow2 hat2 hlt2
    have fin2 := grant_fin2 (x := x) h3 hd3 hU qd3 hown2 hgrow2 (hat2.elim .inl (fun e => .inr (by simp [e])))
    obtain ⟨h4, hd4, f4, r4, u4⟩ := fin2
    have e2 : w2.cell? ⟨t.L, 2, none⟩ = some (.slice (some ⟨t.D, 0, none⟩) nT nT) := hgrow2.cell kd2.1 nL2
    have eB : w2.cell? ⟨w.heap.size, 0, none⟩ = some (.int .i64 x) := hgrow2.cell kd2.2 nB2
    refine hK _ _ ⟨e2, eB⟩ ?_
    clear hK K
    simp only [Act.put, List.setIfInBounds_toArray, List.set_cons_zero, List.set_cons_succ]
    refine takeH 15 (some 60) (.pointer (some ⟨t.D, x, none⟩)) rfl rfl (by kernel_rfl) (by kernel_rfl) (by kernel_rfl) (fun _ _ _ h => h) (by rfl) ?_ ⟨e2, eB⟩ ?_
    · intro w0 hSw; (try dsimp only at hSw); go_simp
    simp only [Act.put, List.setIfInBounds_toArray, List.set_cons_zero, List.set_cons_succ]
    have eD : w2.cell? ⟨t.D, x, none⟩ = some (.slice da n dc) := (r4.cell x).trans hdv
    have eF := r4.frozen x
    refine oneH 16 (by kernel_rfl) (skipOpH 16 none (w2.setCell ⟨t.D, x, none⟩ (.slice (some ⟨g2, 0, none⟩) (n + 1) cap2)) rfl rfl rfl (by go_simp) ⟨by rw [World.cell?_setCell_far _ _ _ _ hDL]; exact e2, by rw [World.cell?_setCell_far _ _ _ _ hDB]; exact eB⟩ ?_)
    simp only [Act.put, List.setIfInBounds_toArray, List.set_cons_zero, List.set_cons_succ]
    refine wpAnyH_done (by kernel_rfl) (NoPanic.normal ?_) _
    go_wp2
    go_end0
    refine ⟨rfl, _, _, h4, hh3.keep f4 hk4.out, hd4, by intro hx; cases hx; exact u4 rfl, ?_, fun k hk => by cases hk; exact hat2.elim .inl (fun e => .inr (by have := F03.out.size; show w.heap.size ≤ g2; omega))⟩
    exact Fr.trans (Fr.mono F03.out (fun _ _ hx => hx.elim .inl (fun h => .inr (.inr (.inl h))))) (Fr.mono f4 (fun _ _ hx => hx.elim (fun h => .inr (.inl h)) (fun h => .inr (.inr (.inr h)))))

end Go.Proofs.Qxb6616109a.fnHoldsExclusiveHandOver
