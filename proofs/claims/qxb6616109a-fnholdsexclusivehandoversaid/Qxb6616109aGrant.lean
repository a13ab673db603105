import Derived.Test.Qxb6616109aRefuse
namespace Go.Proofs.Qxb6616109a.fnHoldsExclusiveHandOver
open Go.ChangeShapes Go.WideShapes Go.ChangeAt Go.RowKit
attribute [local go_sem ↓] Go.wp_at_zero Go.wp_at_succ

/-- A row of granules of the call's own. -/
def Ds (w : World) (base : Nat) (v : Value) (n : Nat) (xs : List Value) : Prop := w.ownsRow base 3 1 v n xs

theorem Ds.keep {w w' : World} {base : Nat} {v : Value} {n : Nat} {xs : List Value} {S : Nat → Prop} (h : Ds w base v n xs) (hf : Fr w w' S) (hv : ∀ k, v.ownBlock = some k → ¬ S k) : Ds w' base v n xs := by
  refine ⟨h.1, ?_⟩
  rcases h.2 with hn | ⟨g, cap, cur, rfl, hb, hgg, rest⟩
  · exact .inl hn
  · refine .inr ⟨g, cap, cur, rfl, hb, ?_, rest⟩
    rw [hf.block g (Array.getElem?_eq_some_iff.1 hgg).1 (hv g rfl)]
    exact hgg

theorem Hs.row {w : World} {base : Nat} {v : Value} {hs : List (Int × Int)} (h : Hs w base v hs) {k : Nat} (hk : v.ownBlock = some k) : ∃ cs, Row w k 60 cs := by
  rcases h.2 with ⟨rfl, _⟩ | ⟨g, cap, cur, rfl, _, hgg, _⟩
  · cases hk
  · cases hk; exact ⟨cur, hgg⟩

theorem Ds.row {w : World} {base : Nat} {v : Value} {n : Nat} {xs : List Value} (h : Ds w base v n xs) {k : Nat} (hk : v.ownBlock = some k) : ∃ cs, Row w k 3 cs := by
  rcases h.2 with ⟨rfl, _⟩ | ⟨g, cap, cur, rfl, _, hgg, _⟩
  · cases hk
  · cases hk; exact ⟨cur, hgg⟩

/-- The table behind a change of one granule's holders: H and the holders' row alone have turned. -/
theorem Tab.setH {w w' : World} {base : Nat} {t : Ids} {nT nG : Nat} {hA hA' dA rA : Array Value} {v : Value} {hs : List (Int × Int)} (h : Tab w base t nT nG hA dA rA) (hh : Hs w base v hs)
    (f : Fr w w' (fun b => b = t.H ∨ some b = v.ownBlock)) (hr : Row w' t.H 57 hA') (hsz : hA'.size = nG) : Tab w' base t nT nG hA' dA rA := by
  have ne : ∀ {k : Nat} {e : TypeId} {cs : Array Value}, Row w k e cs → e ≠ 57 → e ≠ 60 → ¬ (k = t.H ∨ some k = v.ownBlock) := by
    intro k e cs hk h1 h2 hx
    rcases hx with hx | hx
    · exact hk.ne h.H h1 hx
    · obtain ⟨cs', hc⟩ := hh.row hx.symm
      exact hk.ne hc h2 rfl
  exact {
    L := h.L.keep f (ne h.L (by decide) (by decide))
    H := hr
    Q := h.Q.keep f (by
      rintro (hx | hx)
      · exact h.hq hx.symm
      · obtain ⟨cs', hc⟩ := hh.row hx.symm
        exact h.Q.ne hc (by decide) rfl)
    D := h.D.keep f (ne h.D (by decide) (by decide))
    R := h.R.keep f (ne h.R (by decide) (by decide))
    U := h.U.keep f (ne h.U (by decide) (by decide))
    T := h.T.keep f (ne h.T (by decide) (by decide))
    M := h.m_keep f (by
      rintro (hx | hx)
      · exact h.m_ne h.H hx
      · obtain ⟨cs', hc⟩ := hh.row hx.symm
        exact h.m_ne hc rfl)
    hq := h.hq, sH := hsz, sD := h.sD, sR := h.sR, lo := h.lo, bT := h.bT, bG := h.bG }

/-- The table behind a change of what one transaction holds. -/
theorem Tab.setD {w w' : World} {base : Nat} {t : Ids} {nT nG : Nat} {hA dA dA' rA : Array Value} {v : Value} {n : Nat} {xs : List Value} (h : Tab w base t nT nG hA dA rA) (hd : Ds w base v n xs) (hU : v.ownBlock ≠ some t.U)
    (f : Fr w w' (fun b => b = t.D ∨ some b = v.ownBlock)) (hr : Row w' t.D 25 dA') (hsz : dA'.size = nT) : Tab w' base t nT nG hA dA' rA := by
  have ne : ∀ {k : Nat} {e : TypeId} {cs : Array Value}, Row w k e cs → e ≠ 25 → e ≠ 3 → ¬ (k = t.D ∨ some k = v.ownBlock) := by
    intro k e cs hk h1 h2 hx
    rcases hx with hx | hx
    · exact hk.ne h.D h1 hx
    · obtain ⟨cs', hc⟩ := hd.row hx.symm
      exact hk.ne hc h2 rfl
  exact {
    L := h.L.keep f (ne h.L (by decide) (by decide))
    H := h.H.keep f (ne h.H (by decide) (by decide))
    Q := h.Q.keep f (ne h.Q (by decide) (by decide))
    D := hr
    R := h.R.keep f (ne h.R (by decide) (by decide))
    U := h.U.keep f (by
      rintro (hx | hx)
      · exact h.U.ne h.D (by decide) hx
      · exact hU hx.symm)
    T := h.T.keep f (ne h.T (by decide) (by decide))
    M := h.m_keep f (by
      rintro (hx | hx)
      · exact h.m_ne h.D hx
      · obtain ⟨cs', hc⟩ := hd.row hx.symm
        exact h.m_ne hc rfl)
    hq := h.hq, sH := h.sH, sD := hsz, sR := h.sR, lo := h.lo, bT := h.bT, bG := h.bG }


theorem hcells_snoc (hs : List (Int × Int)) (x m : Int) : hcells (hs ++ [(x, m)]) = hcells hs ++ [.int .i64 x, .int .u8 m] := by simp [hcells]

theorem owns_setCell {w : World} {base : Nat} {e : TypeId} {size : Nat} {v : Value} {n : Nat} {xs : List Value} (h : w.ownsRow base e size v n xs) {a : Addr} (ha : ∀ k, v.ownBlock = some k → k ≠ a.block) (u : Value) : (w.setCell a u).ownsRow base e size v n xs := by
  refine ⟨h.1, ?_⟩
  rcases h.2 with hn | ⟨g, cap, cur, rfl, hb, hgg, rest⟩
  · exact .inl hn
  · exact .inr ⟨g, cap, cur, rfl, hb, (Below.heap_setCell _ _ _ _ (ha g rfl)).trans hgg, rest⟩

theorem fresh_row {w w' : World} {g : Nat} {r : Option Nat} {k : Nat} {e e' : TypeId} {cs : Array Value} (hk : Row w k e cs) (hr : ∀ k', r = some k' → ∃ cs', Row w k' e' cs') (hne : e ≠ e') (hq : w.heap.size ≤ w'.heap.size) (hat : r = some g ∨ w'.heap.size ≤ g) : g ≠ k := by
  rintro rfl
  rcases hat with h | h
  · obtain ⟨cs', hc⟩ := hr g h
    exact hk.ne hc hne rfl
  · have := hk.lt; omega

/-- Behind the append and the store into H. -/
theorem grant_fin1 {W W' w1 : World} {base : Nat} {t : Ids} {nT nG : Nat} {hA dA rA : Array Value} {v : Value} {hs : List (Int × Int)} (h : Tab W base t nT nG hA dA rA) (hh : Hs W base v hs) (q : Quiet W W') {g gg cap : Nat} (x m : Int)
    (hown : w1.ownsRow base 60 2 (.slice (some ⟨gg, 0, none⟩) (hs.length + 1) cap) (hs.length + 1) (hcells hs ++ [.int .i64 x, .int .u8 m])) (hgrow : W'.grownBy w1 v.ownBlock) (hat : v.ownBlock = some gg ∨ W'.heap.size ≤ gg) :
    Tab (w1.setCell ⟨t.H, g, none⟩ (.slice (some ⟨gg, 0, none⟩) (hs.length + 1) cap)) base t nT nG (hA.setIfInBounds g (.slice (some ⟨gg, 0, none⟩) (hs.length + 1) cap)) dA rA ∧
    Hs (w1.setCell ⟨t.H, g, none⟩ (.slice (some ⟨gg, 0, none⟩) (hs.length + 1) cap)) base (.slice (some ⟨gg, 0, none⟩) (hs.length + 1) cap) (hs ++ [(x, m)]) ∧
    Fr W (w1.setCell ⟨t.H, g, none⟩ (.slice (some ⟨gg, 0, none⟩) (hs.length + 1) cap)) (fun b => b = t.H ∨ some b = v.ownBlock) ∧ Row w1 t.H 57 hA ∧ Fr W w1 (fun b => some b = v.ownBlock) := by
  have f1 : Fr W w1 (fun b => some b = v.ownBlock) := Fr.trans (Fr.mono q (fun _ _ e => e.elim)) (Fr.of_grown hgrow)
  have f2 : Fr W (w1.setCell ⟨t.H, g, none⟩ (.slice (some ⟨gg, 0, none⟩) (hs.length + 1) cap)) (fun b => b = t.H ∨ some b = v.ownBlock) :=
    Fr.trans (Fr.mono f1 (fun _ _ e => .inr e)) (Fr.mono (Fr.setCell _ _ _) (fun _ _ e => .inl e))
  have rH : Row w1 t.H 57 hA := h.H.keep f1 (fun hx => by
    obtain ⟨cs', hc⟩ := hh.row hx.symm
    exact h.H.ne hc (by decide) rfl)
  have hgH : gg ≠ t.H := fresh_row (e' := 60) h.H (fun k' hk' => hh.row hk') (by decide) q.size hat
  refine ⟨h.setH hh f2 (rH.set _ _) (by simp [h.sH]), ?_, f2, rH, f1⟩
  unfold Hs
  rw [hcells_snoc, List.length_append]
  exact owns_setCell hown (fun k hk => by cases hk; exact hgH) _

/-- Behind the append and the store into D. -/
theorem grant_fin2 {W W' w1 : World} {base : Nat} {t : Ids} {nT nG : Nat} {hA dA rA : Array Value} {v : Value} {n : Nat} {xs : List Value} (h : Tab W base t nT nG hA dA rA) (hd : Ds W base v n xs) (hU : v.ownBlock ≠ some t.U) (q : Quiet W W') {x gg cap : Nat} {news : List Value}
    (hown : w1.ownsRow base 3 1 (.slice (some ⟨gg, 0, none⟩) (n + 1) cap) (n + 1) (xs ++ news)) (hgrow : W'.grownBy w1 v.ownBlock) (hat : v.ownBlock = some gg ∨ W'.heap.size ≤ gg) :
    Tab (w1.setCell ⟨t.D, x, none⟩ (.slice (some ⟨gg, 0, none⟩) (n + 1) cap)) base t nT nG hA (dA.setIfInBounds x (.slice (some ⟨gg, 0, none⟩) (n + 1) cap)) rA ∧
    Ds (w1.setCell ⟨t.D, x, none⟩ (.slice (some ⟨gg, 0, none⟩) (n + 1) cap)) base (.slice (some ⟨gg, 0, none⟩) (n + 1) cap) (n + 1) (xs ++ news) ∧
    Fr W (w1.setCell ⟨t.D, x, none⟩ (.slice (some ⟨gg, 0, none⟩) (n + 1) cap)) (fun b => b = t.D ∨ some b = v.ownBlock) ∧ Row w1 t.D 25 dA ∧ gg ≠ t.U := by
  have f1 : Fr W w1 (fun b => some b = v.ownBlock) := Fr.trans (Fr.mono q (fun _ _ e => e.elim)) (Fr.of_grown hgrow)
  have f2 : Fr W (w1.setCell ⟨t.D, x, none⟩ (.slice (some ⟨gg, 0, none⟩) (n + 1) cap)) (fun b => b = t.D ∨ some b = v.ownBlock) :=
    Fr.trans (Fr.mono f1 (fun _ _ e => .inr e)) (Fr.mono (Fr.setCell _ _ _) (fun _ _ e => .inl e))
  have rD : Row w1 t.D 25 dA := h.D.keep f1 (fun hx => by
    obtain ⟨cs', hc⟩ := hd.row hx.symm
    exact h.D.ne hc (by decide) rfl)
  have hgD : gg ≠ t.D := fresh_row (e' := 3) h.D (fun k' hk' => hd.row hk') (by decide) q.size hat
  refine ⟨h.setD hd hU f2 (rD.set _ _) (by simp [h.sD]), owns_setCell hown (fun k hk => by cases hk; exact hgD) _, f2, rD, ?_⟩
  rintro rfl
  rcases hat with hx | hx
  · exact hU hx
  · have := h.U.lt; have := q.size; omega

end Go.Proofs.Qxb6616109a.fnHoldsExclusiveHandOver
