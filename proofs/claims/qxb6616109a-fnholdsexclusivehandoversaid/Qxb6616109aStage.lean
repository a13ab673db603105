import Derived.Test.Qxb6616109aNew
import Derived.Test.Qxb6616109aRelAll
namespace Go.Proofs.Qxb6616109a.fnHoldsExclusiveHandOver
open Go.ChangeShapes Go.WideShapes Go.ChangeAt Go.RowKit
set_option linter.unusedSimpArgs false
set_option linter.unusedVariables false

/-- What is known of one transaction: what it holds, and whether it was ever refused. -/
structure Tx (W : World) (base : Nat) (t : Ids) (dA rA : Array Value) (x : Nat) (dv : Value) (n : Nat) (xs : List Value) (f : Bool) : Prop where
  d : dA[x]? = some dv
  own : Ds W base dv n xs
  u : dv.ownBlock ≠ some t.U
  r : ∃ ro rn rc, rA[x * 2]? = some (.slice ro rn rc) ∧ ((ro = none ∧ rn = 0 ∧ rc = 0) ∨ ∃ k, ro = some ⟨k, 0, none⟩) ∧ (f = true → rA[x * 2]? = some (.slice none 0 0))

/-- The table, one granule g, two transactions a and b. -/
def St (w W : World) (t : Ids) (nT nG g a b : Nat) (hs : List (Int × Int)) (na : Nat) (xa : List Value) (fa : Bool) (nb : Nat) (xb : List Value) (fb : Bool) : Prop :=
  ∃ hA dA rA v da db, Below w.heap.size w W ∧ Tab W w.heap.size t nT nG hA dA rA ∧ hA[g]? = some v ∧ Hs W w.heap.size v hs ∧ Tx W w.heap.size t dA rA a da na xa fa ∧ Tx W w.heap.size t dA rA b db nb xb fb ∧ (∀ k, da.ownBlock = some k → db.ownBlock ≠ some k)

theorem St.swap {w W : World} {t : Ids} {nT nG g a b : Nat} {hs : List (Int × Int)} {na nb : Nat} {xa xb : List Value} {fa fb : Bool} (h : St w W t nT nG g a b hs na xa fa nb xb fb) : St w W t nT nG g b a hs nb xb fb na xa fa := by
  obtain ⟨hA, dA, rA, v, da, db, h1, h2, h3, h4, h5, h6, h7⟩ := h
  exact ⟨hA, dA, rA, v, db, da, h1, h2, h3, h4, h6, h5, fun k hk hx => h7 k hx hk⟩

theorem Tx.quiet {W W' : World} {base : Nat} {t : Ids} {dA rA : Array Value} {x : Nat} {dv : Value} {n : Nat} {xs : List Value} {f : Bool} (h : Tx W base t dA rA x dv n xs f) (q : Quiet W W') : Tx W' base t dA rA x dv n xs f :=
  ⟨h.d, h.own.keep q (fun _ _ f => f), h.u, h.r⟩

theorem bel_step {w W W' : World} {B : Nat} {S : Nat → Prop} (h : Below B w W) (f : Fr W W' S) (hB : B ≤ W.heap.size) (hs : ∀ k, S k → B ≤ k) : Below B w W' :=
  h.trans ⟨f.os, f.tape, f.output, f.size, fun k hk => f.block k (by omega) (fun hx => by have := hs k hx; omega)⟩

theorem St.quiet {w W W' : World} {t : Ids} {nT nG g a b : Nat} {hs : List (Int × Int)} {na nb : Nat} {xa xb : List Value} {fa fb : Bool} (h : St w W t nT nG g a b hs na xa fa nb xb fb) (q : Quiet W W') : St w W' t nT nG g a b hs na xa fa nb xb fb := by
  obtain ⟨hA, dA, rA, v, da, db, h1, h2, h3, h4, h5, h6, h7⟩ := h
  exact ⟨hA, dA, rA, v, da, db, bel_step h1 q h1.size (fun _ f => f.elim), h2.quiet q, h3, h4.quiet q, h5.quiet q, h6.quiet q, h7⟩

theorem own_lo {W : World} {base : Nat} {e : TypeId} {size : Nat} {v : Value} {n : Nat} {xs : List Value} (h : W.ownsRow base e size v n xs) {k : Nat} (hk : v.ownBlock = some k) : base ≤ k := (h.lt k hk).1

theorem set_ne {A : Array Value} {i j : Nat} {v : Value} (h : i ≠ j) : (A.setIfInBounds i v)[j]? = A[j]? := Array.getElem?_setIfInBounds_ne h
theorem set_eq {A : Array Value} {i : Nat} {v : Value} (h : i < A.size) : (A.setIfInBounds i v)[i]? = some v := Array.getElem?_setIfInBounds_self_of_lt h

theorem st_holds {w W : World} {t : Ids} {nT nG g a b : Nat} {hs : List (Int × Int)} {na nb : Nat} {xa xb : List Value} {fa fb : Bool} (h : St w W t nT nG g a b hs na xa fa nb xb fb) (hg : g < nG) (hl : hs.length ≤ 100) (x : Int) :
    Calls Try.prog 8 #[.pointer (some ⟨t.L, 0, none⟩), .int .i64 x, .int .i64 g] W fun e W' => e = .returned (.bool (hasB hs x)) ∧ St w W' t nT nG g a b hs na xa fa nb xb fb := by
  obtain ⟨hA, dA, rA, v, da, db, h1, h2, h3, h4, h5, h6, h7⟩ := id h
  exact (zzholds_any h2 hg h3 h4 (by omega) x).mono fun e W' ⟨he, hq⟩ => ⟨he, h.quiet hq⟩

theorem st_lock_yes {w W : World} {t : Ids} {nT nG g a b : Nat} {hs : List (Int × Int)} {na nb : Nat} {xa xb : List Value} {fa fb : Bool} (h : St w W t nT nG g a b hs na xa fa nb xb fb) (hg : g < nG) (ha : a < nT) (hb : b < nT) (hab : a ≠ b) (hl : hs.length ≤ 50) (hn : na ≤ 50) (m : Int) (hno : idxI hs a = -1)
    (s : Nat) (hsc : W.cell? ⟨s, 0, none⟩ = some (.int .i64 g)) (hw : waitB hs a m = false) :
    Calls Try.prog 7 #[.pointer (some ⟨t.L, 0, none⟩), .int .i64 a, .slice (some ⟨s, 0, none⟩) 1 1, .int .u8 m] W fun e W' => e = .returned (.bool true) ∧ St w W' t nT nG g a b (hs ++ [((a : Int), m)]) (na + 1) (xa ++ [.int .i64 g]) fa nb xb fb := by
  obtain ⟨hA, dA, rA, v, da, db, h1, h2, h3, h4, h5, h6, h7⟩ := h
  obtain ⟨ro, rn, rc, r1, r2, r3⟩ := h5.r
  refine (lock_yes h2 hg ha h3 h5.d h4 (by omega) h5.own (by omega) h5.u m hno s hsc ro rn rc r1 r2 hw).mono fun e W' ⟨he, hgv⟩ => ⟨he, ?_⟩
  obtain ⟨v', dv', k1, k2, k3, k4, k5, k6⟩ := hgv
  refine ⟨_, _, _, v', dv', db, bel_step h1 k5 h1.size ?_, k1, set_eq (by rw [h2.sH]; exact hg), k2, ⟨set_eq (by rw [h2.sD]; exact ha), k3, k4, ro, 0, rc, set_eq (by rw [h2.sR]; omega), ?_, ?_⟩, ⟨?_, h6.own.keep k5 ?_, h6.u, ?_⟩, ?_⟩
  · rintro k (rfl | rfl | rfl | hx | hx)
    · exact h2.lo.2.1
    · exact h2.lo.2.2.1
    · exact h2.lo.2.2.2
    · exact own_lo h4 hx.symm
    · exact own_lo h5.own hx.symm
  · rcases r2 with ⟨e1, e2, e3⟩ | ⟨k, e1⟩
    · exact .inl ⟨e1, rfl, e3⟩
    · exact .inr ⟨k, e1⟩
  · intro hf
    have hnil := r3 hf
    rw [r1] at hnil
    cases hnil
    exact set_eq (by rw [h2.sR]; omega)
  · rw [set_ne hab]; exact h6.d
  · intro k hk hx
    obtain ⟨cs, hc⟩ := h6.own.row hk
    rcases hx with rfl | rfl | rfl | hx | hx
    · exact hc.ne h2.H (by decide) rfl
    · exact hc.ne h2.D (by decide) rfl
    · exact hc.ne h2.R (by decide) rfl
    · obtain ⟨cs', hc'⟩ := h4.row hx.symm
      exact hc.ne hc' (by decide) rfl
    · exact h7 k hx.symm hk
  · obtain ⟨ro', rn', rc', q1, q2, q3⟩ := h6.r
    exact ⟨ro', rn', rc', by rw [set_ne (by omega)]; exact q1, q2, fun hf => by rw [set_ne (by omega)]; exact q3 hf⟩
  · intro k hk hx
    rcases k6 k hk with hx' | hx'
    · exact h7 k hx' hx
    · obtain ⟨cs, hc⟩ := h6.own.row hx
      have := hc.lt
      omega


theorem st_lock_no {w W : World} {t : Ids} {nT nG g a b : Nat} {hs : List (Int × Int)} {na nb : Nat} {xa xb : List Value} {fb : Bool} (h : St w W t nT nG g a b hs na xa true nb xb fb) (hg : g < nG) (ha : a < nT) (hb : b < nT) (hab : a ≠ b) (hl : hs.length ≤ 50) (m : Int)
    (s : Nat) (hsc : W.cell? ⟨s, 0, none⟩ = some (.int .i64 g)) (hw : waitB hs a m = true) :
    Calls Try.prog 7 #[.pointer (some ⟨t.L, 0, none⟩), .int .i64 a, .slice (some ⟨s, 0, none⟩) 1 1, .int .u8 m] W fun e W' => e = .returned (.bool false) ∧ St w W' t nT nG g a b hs na xa false nb xb fb := by
  obtain ⟨hA, dA, rA, v, da, db, h1, h2, h3, h4, h5, h6, h7⟩ := h
  obtain ⟨ro, rn, rc, r1, r2, r3⟩ := h5.r
  refine (lock_no h2 hg ha h3 h4 (by omega) m s hsc (r3 rfl) hw).mono fun e W' ⟨he, hgv⟩ => ⟨he, ?_⟩
  obtain ⟨k, c, mm, k1, k5⟩ := hgv
  have keepD : ∀ {dv : Value} {n : Nat} {xs : List Value}, Ds W w.heap.size dv n xs → Ds W' w.heap.size dv n xs := fun hd => hd.keep k5 (fun k hk hx => by
    obtain ⟨cs, hc⟩ := hd.row hk
    exact hc.ne h2.R (by decide) hx)
  refine ⟨_, _, _, v, da, db, bel_step h1 k5 h1.size ?_, k1, h3, h4.keep k5 ?_, ⟨h5.d, keepD h5.own, h5.u, some ⟨k, 0, none⟩, 1, c, ?_, .inr ⟨k, rfl⟩, fun hf => by cases hf⟩, ⟨h6.d, keepD h6.own, h6.u, ?_⟩, h7⟩
  · rintro k rfl
    exact h2.lo.2.2.2
  · intro k hk hx
    obtain ⟨cs, hc⟩ := h4.row hk
    exact hc.ne h2.R (by decide) hx
  · rw [set_ne (by omega)]
    exact set_eq (by rw [h2.sR]; omega)
  · obtain ⟨ro', rn', rc', q1, q2, q3⟩ := h6.r
    have e : ((rA.setIfInBounds (a * 2) (.slice (some ⟨k, 0, none⟩) 1 c)).setIfInBounds (a * 2 + 1) mm)[b * 2]? = rA[b * 2]? := by rw [set_ne (by omega), set_ne (by omega)]
    exact ⟨ro', rn', rc', by rw [e]; exact q1, q2, fun hf => by rw [e]; exact q3 hf⟩

theorem st_release {w W : World} {t : Ids} {nT nG g a b : Nat} {m : Int} {nb : Nat} {xb : List Value} {fa fb : Bool} (h : St w W t nT nG g a b [((a : Int), m)] 1 [.int .i64 g] fa nb xb fb) (hg : g < nG) (ha : a < nT) (hb : b < nT) (hab : a ≠ b) :
    Calls Try.prog 9 #[.pointer (some ⟨t.L, 0, none⟩), .int .i64 a] W fun e W' => e = .returned (.tuple #[]) ∧ St w W' t nT nG g a b [] 0 [] fa nb xb fb := by
  obtain ⟨hA, dA, rA, v, da, db, h1, h2, h3, h4, h5, h6, h7⟩ := h
  obtain ⟨gg, cap, hv⟩ : ∃ gg cap, v = .slice (some ⟨gg, 0, none⟩) 1 cap := by
    rcases h4.2 with ⟨_, e⟩ | ⟨g', c', cur, e, _⟩
    · cases e
    · exact ⟨g', c', e⟩
  obtain ⟨dB, dcap, hdv⟩ : ∃ dB dcap, da = .slice (some ⟨dB, 0, none⟩) 1 dcap := by
    rcases h5.own.2 with ⟨_, e⟩ | ⟨g', c', cur, e, _⟩
    · cases e
    · exact ⟨g', c', e⟩
  subst hv
  subst hdv
  refine (release_any h2 hg ha h3 h5.d h4 h5.own).mono fun e W' ⟨he, hr⟩ => ⟨he, ?_⟩
  obtain ⟨k1, k2, k3, k5⟩ := hr
  obtain ⟨cg, hcg⟩ := h4.row (k := gg) rfl
  refine ⟨_, _, _, _, _, db, bel_step h1 k5 h1.size ?_, k1, set_eq (by rw [h2.sH]; exact hg), k2, ⟨set_eq (by rw [h2.sD]; exact ha), k3, h5.u, h5.r⟩, ⟨by rw [set_ne hab]; exact h6.d, h6.own.keep k5 ?_, h6.u, h6.r⟩, h7⟩
  · rintro k (rfl | rfl | rfl)
    · exact h2.lo.2.1
    · exact own_lo h4 rfl
    · exact h2.lo.2.2.1
  · intro k hk hx
    obtain ⟨cs, hc⟩ := h6.own.row hk
    rcases hx with rfl | rfl | rfl
    · exact hc.ne h2.H (by decide) rfl
    · exact hc.ne hcg (by decide) rfl
    · exact hc.ne h2.D (by decide) rfl

theorem st_new (nT nG g a b : Nat) (hT : nT ≤ 65536) (hG : nG ≤ 65536) (hg : g < nG) (ha : a < nT) (hb : b < nT) (w : World) :
    Calls Try.prog 6 #[.int .i64 nT, .int .i64 nG] w fun e W => ∃ t, e = .returned (.pointer (some ⟨t.L, 0, none⟩)) ∧ St w W t nT nG g a b [] 0 [] true 0 [] true := by
  refine (new_any nT nG hT hG w).mono fun e W ⟨t, he, rA, h1, h2, h3⟩ => ⟨t, he, ?_⟩
  refine ⟨_, _, rA, .slice none 0 0, .slice none 0 0, .slice none 0 0, bel_step (Below.refl _ _) h3 (Nat.le_refl _) (fun _ f => f.elim), h1, by simp [hg], World.ownsRow_nil _ _ _ _, ⟨by simp [ha], World.ownsRow_nil _ _ _ _, by simp [Value.ownBlock], none, 0, 0, h2 a ha, .inl ⟨rfl, rfl, rfl⟩, fun _ => h2 a ha⟩, ⟨by simp [hb], World.ownsRow_nil _ _ _ _, by simp [Value.ownBlock], none, 0, 0, h2 b hb, .inl ⟨rfl, rfl, rfl⟩, fun _ => h2 b hb⟩, fun k hk => by cases hk⟩

end Go.Proofs.Qxb6616109a.fnHoldsExclusiveHandOver
