import Derived.Test.Qxb6615985aAv
namespace Go.Proofs.Qxb6615985a.fnSignFlipsWithNegatedFactors
open Go.ChangeShapes Go.WideShapes Go.ChangeAt Go.RowKit

/-- Every block that was there, but for those of S, is as it was. -/
structure Fr (w w' : World) (S : Nat → Prop) : Prop where
  os : w'.os = w.os
  tape : w'.tape = w.tape
  output : w'.output = w.output
  size : w.heap.size ≤ w'.heap.size
  block : ∀ k, k < w.heap.size → ¬ S k → w'.heap[k]? = w.heap[k]?

theorem Fr.of_grown {w w' : World} {r : Option Nat} (h : w.grownBy w' r) : Fr w w' (fun k => some k = r) := ⟨h.os, h.tape, h.output, h.size, fun k hk hn => h.block k hk hn⟩
theorem Fr.mono {w w' : World} {S T : Nat → Prop} (h : Fr w w' S) (hs : ∀ k, k < w.heap.size → S k → T k) : Fr w w' T := ⟨h.os, h.tape, h.output, h.size, fun k hk hn => h.block k hk (fun hh => hn (hs k hk hh))⟩
theorem Fr.trans {a b c : World} {S : Nat → Prop} (h : Fr a b S) (k : Fr b c S) : Fr a c S :=
  ⟨k.os.trans h.os, k.tape.trans h.tape, k.output.trans h.output, Nat.le_trans h.size k.size, fun i hi hn => (k.block i (Nat.lt_of_lt_of_le hi h.size) hn).trans (h.block i hi hn)⟩
theorem Fr.refl (w : World) (S : Nat → Prop) : Fr w w S := ⟨rfl, rfl, rfl, Nat.le_refl _, fun _ _ _ => rfl⟩
theorem Fr.setCell (w : World) (a : Addr) (u : Value) : Fr w (w.setCell a u) (fun k => k = a.block) :=
  ⟨rfl, rfl, rfl, by simp [World.setCell], fun k _ hn => Below.heap_setCell _ _ _ _ hn⟩

theorem Av.keep {w w' : World} {base A : Nat} {v : Value} {n : Nat} {xs : List Value} {f : Nat → Int} {S : Nat → Prop} (h : Av w base A v n xs f) (hf : Fr w w' S) (hA : ¬ S A) (hv : ∀ k, v.ownBlock = some k → ¬ S k) : Av w' base A v n xs f := by
  have hb := hf.block A h.hi hA
  refine ⟨h.lo, Nat.lt_of_lt_of_le h.hi hf.size, ?_, ?_, ?_, ?_, h.ne, h.sg⟩
  · rw [World.cell?_of_block (w := w) hb]; exact h.c4
  · rw [World.cell?_of_block (w := w) hb]; exact h.c5
  · rw [World.frozen?_of_block (w := w) hb]; exact h.f5
  · refine ⟨h.own.1, ?_⟩
    rcases h.own.2 with hn | ⟨g, cap, cur, rfl, hb, hgg, rest⟩
    · exact .inl hn
    · refine .inr ⟨g, cap, cur, rfl, hb, ?_, rest⟩
      rw [hf.block g (Array.getElem?_eq_some_iff.1 hgg).1 (hv g rfl)]
      exact hgg

theorem IsInt.keep {w w' : World} {p : Nat} {x : Int} {S : Nat → Prop} (h : IsInt w p x) (hf : Fr w w' S) (hp : ¬ S p) : IsInt w' p x := by
  obtain ⟨h0, ad, l, c, h1, h2, h3⟩ := h
  have hb := hf.block p h0 hp
  exact ⟨Nat.lt_of_lt_of_le h0 hf.size, ad, l, c, by rw [World.cell?_of_block (w := w) hb]; exact h1, by rw [World.cell?_of_block (w := w) hb]; exact h2, h3⟩

theorem Fr.alloc (w : World) (o : Obj) : Fr w (w.alloc o) (fun _ => False) := ⟨rfl, rfl, rfl, by simp, fun k hk _ => Below.heap_alloc _ _ _ hk⟩

theorem two_fr (w : World) (o1 o2 : Obj) : Fr w ((w.alloc o1).alloc o2).drew (fun _ => False) := (Fr.alloc w o1).trans ⟨rfl, rfl, rfl, by simp, fun k hk _ => Below.heap_alloc _ _ _ hk⟩

theorem grow_fin {w W w2 : World} {base A : Nat} {v : Value} {n : Nat} {xs : List Value} {f : Nat → Int} {news : List Value} {g cap : Nat} (h : Av w base A v n xs f) (hW : Fr w W (fun _ => False)) (y : Int)
    (ho : w2.ownsRow base 49 6 (.slice (some ⟨g, 0, none⟩) (n + 1) cap) (n + 1) (xs ++ news)) (hg : W.grownBy w2 v.ownBlock) (hgg : v.ownBlock = some g ∨ W.heap.size ≤ g)
    (hf : f (n + 1) = y) (_hn : news.length = 6) (h5 : news[5]? = some (.int .i64 y)) :
    w2.cell? ⟨A, 5, none⟩ = some v ∧ w2.frozen? ⟨A, 5, none⟩ = false ∧
    (Av (w2.setCell ⟨A, 5, none⟩ (.slice (some ⟨g, 0, none⟩) (n + 1) cap)) base A (.slice (some ⟨g, 0, none⟩) (n + 1) cap) (n + 1) (xs ++ news) f ∧ (v.ownBlock = some g ∨ w.heap.size ≤ g) ∧
      Fr w (w2.setCell ⟨A, 5, none⟩ (.slice (some ⟨g, 0, none⟩) (n + 1) cap)) (fun k => k = A ∨ some k = v.ownBlock)) := by
  have hW2 : Fr w w2 (fun k => some k = v.ownBlock) := (hW.mono (fun _ _ h => h.elim)).trans (Fr.of_grown hg)
  have hb := hW2.block A h.hi (fun e => h.ne e.symm)
  have k5 : w2.cell? ⟨A, 5, none⟩ = some v := by rw [World.cell?_of_block (w := w) hb]; exact h.c5
  have k4 : w2.cell? ⟨A, 4, none⟩ = some (.int .i64 (f 0)) := by rw [World.cell?_of_block (w := w) hb]; exact h.c4
  have e5 : w2.frozen? ⟨A, 5, none⟩ = false := by rw [World.frozen?_of_block (w := w) hb]; exact h.f5
  have hgA : g ≠ A := by
    rintro rfl
    rcases hgg with h1 | h1
    · exact h.ne h1
    · have := h.hi; have := hW.size; omega
  have hsz := h.hi
  have hsz2 := hW2.size
  refine ⟨k5, e5, ⟨h.lo, by simp [World.setCell]; omega, ?_, ?_, ?_, ?_, by simp [Value.ownBlock, hgA], ?_⟩, ?_, ?_⟩
  · rw [World.cell?_setCell_other _ _ _ _ (by simp)]; exact k4
  · exact World.cell?_setCell_same _ _ _ k5
  · rw [World.frozen?_setCell]; exact e5
  · refine ⟨ho.1, ?_⟩
    rcases ho.2 with hn | ⟨g', cap', cur, hv, hb, hgg', rest⟩
    · exact .inl hn
    · simp only [Value.slice.injEq, Option.some.injEq, Addr.mk.injEq, and_true, true_and] at hv
      obtain ⟨rfl, rfl⟩ := hv
      exact .inr ⟨g, cap, cur, rfl, hb, by rw [Below.heap_setCell _ _ _ _ hgA]; exact hgg', rest⟩
  · intro i hi
    have hx := h.own.1
    by_cases hin : i < n
    · rw [List.getElem?_append_left (by omega)]; exact h.sg i hin
    · obtain rfl : i = n := by omega
      rw [List.getElem?_append_right (by omega), show i * 6 + 5 - xs.length = 5 by omega, h5, hf]
  · rcases hgg with h1 | h1
    · exact .inl h1
    · have := hW.size; exact .inr (by omega)
  · exact (hW2.mono (fun _ _ h => .inr h)).trans ((Fr.setCell _ _ _).mono (fun _ _ h => .inl h))

def Grew (w w' : World) (base A : Nat) (v : Value) (n : Nat) (f : Nat → Int) : Prop :=
  ∃ g cap xs', Av w' base A (.slice (some ⟨g, 0, none⟩) (n + 1) cap) (n + 1) xs' f ∧ (v.ownBlock = some g ∨ w.heap.size ≤ g) ∧ Fr w w' (fun k => k = A ∨ some k = v.ownBlock)

set_option maxHeartbeats 800000 in
theorem grow_any {w : World} {base A : Nat} {v : Value} {n : Nat} {xs : List Value} {f : Nat → Int} (p q : Nat) (x : Int) (h : Av w base A v n xs f) (hp : IsInt w p x) (hn : n < 1048576)
    (hf : f (n + 1) = f n * sgn x) (b1 : -1 ≤ f n * sgn x) (b2 : f n * sgn x ≤ 1) :
    Calls Try.prog 9 #[.pointer (some ⟨A, 0, none⟩), .agg #[.int .u64 0, .int .i64 0, .pointer none], .pointer (some ⟨p, 0, none⟩), .pointer (some ⟨q, 0, none⟩)] w fun e w' =>
      e = .returned (.tuple #[]) ∧ Grew w w' base A v n f := by
  obtain ⟨ao, c0, rfl⟩ : ∃ ao c0, v = .slice ao n c0 := by
    rcases h.own.2 with ⟨h1, h2⟩ | ⟨g, cap, cur, h1, _⟩
    · exact ⟨none, 0, by rw [h1, h2]⟩
    · exact ⟨_, _, h1⟩
  have h' : Av (w.alloc (.cells #[.int .u64 0, .int .i64 0, .pointer none] 44)) base A (.slice ao n c0) n xs f := h.keep (Fr.alloc _ _) (by simp) (by simp)
  have hp' : IsInt (w.alloc (.cells #[.int .u64 0, .int .i64 0, .pointer none] 44)) p x := hp.keep (Fr.alloc _ _) (by simp)
  have c5 := h.c5
  have f5 := h.f5
  have hA := h.hi
  have HF : Hid (f (n + 1) = f n * sgn x) := hf
  clear hf
  go_enter Try.func9, Try.ntmps9
  go_wp2_with fail
  refine (sign_any h' n (Nat.le_refl _) (by omega)).mono ?_
  rintro e w' ⟨rfl, rfl⟩
  go_wp2_with fail
  refine (bsign_any p x _ hp').mono ?_
  rintro e w' ⟨rfl, rfl⟩
  go_wp2_with fail
  obtain ⟨i0, hi, hz0, hz1, hz2⟩ := info_parts Try.info49
  have own2 : Hid ((((w.alloc (.cells #[.int .u64 0, .int .i64 0, .pointer none] 44)).alloc (.cells #[.int .u64 0, .int .i64 0, .pointer none, .pointer (some ⟨p, 0, none⟩), .pointer (some ⟨q, 0, none⟩), .int .i64 (f n * sgn x)] 49)).drew).ownsRow base 49 6 (.slice ao n c0) n xs) := h'.own.alloc _
  have hnews : Hid (∀ j u, [Value.int .u64 0, .int .i64 0, .pointer none, .pointer (some ⟨p, 0, none⟩), .pointer (some ⟨q, 0, none⟩), .int .i64 (f n * sgn x)][j]? = some u → (((w.alloc (.cells #[.int .u64 0, .int .i64 0, .pointer none] 44)).alloc (.cells #[.int .u64 0, .int .i64 0, .pointer none, .pointer (some ⟨p, 0, none⟩), .pointer (some ⟨q, 0, none⟩), .int .i64 (f n * sgn x)] 49)).drew).cell? ((⟨w.heap.size + 1, 0, none⟩ : Addr).add j) = some u) := by
    intro j u hj
    match j, hj with
    | 0, hj => simp at hj; subst hj; simp [Addr.add]
    | 1, hj => simp at hj; subst hj; simp [Addr.add]
    | 2, hj => simp at hj; subst hj; simp [Addr.add]
    | 3, hj => simp at hj; subst hj; simp [Addr.add]
    | 4, hj => simp at hj; subst hj; simp [Addr.add]
    | 5, hj => simp at hj; subst hj; simp [Addr.add]
  have hone : ∀ u ∈ [Value.int .u64 0, .int .i64 0, .pointer none, .pointer (some ⟨p, 0, none⟩), .pointer (some ⟨q, 0, none⟩), .int .i64 (f n * sgn x)], u.oneCell' = true := by simp [Value.oneCell']
  have hb1 : n + 1 ≤ maxLen := by unfold maxLen; omega
  have hb2 : (n + 1) * 48 ≤ 140737488355328 := by omega
  have hb3 : base ≤ w.heap.size + 1 + 1 := by have := h.lo; omega
  have HO : Hid (∀ u ∈ [Value.int .u64 0, .int .i64 0, .pointer none, .pointer (some ⟨p, 0, none⟩), .pointer (some ⟨q, 0, none⟩), .int .i64 (f n * sgn x)], u.oneCell' = true) := hone
  clear hp hp' b1 b2 hone
  go_region_law (refine step_append_own' rfl (.tmp 23) (.tmp 29) 35 rfl base 49 i0 _ 6 48 Try.underlying35 hi hz0 hz1 hz2 rfl (by decide) (.slice ao n c0) n xs (by simp [Act.eval]) (by exact own2.out) ⟨w.heap.size + 1, 0, none⟩ 1 1 [.int .u64 0, .int .i64 0, .pointer none, .pointer (some ⟨p, 0, none⟩), .pointer (some ⟨q, 0, none⟩), .int .i64 (f n * sgn x)] (by simp [Act.eval]) rfl (by exact hnews.out) (by exact HO.out) (by decide) hb1 hb2 (by simp; exact hb3) ?_; intro g cap w2 ho hg hgg; have fin := grow_fin h (two_fr w _ _) (f n * sgn x) ho hg hgg HF.out rfl rfl; have k5 := fin.1; have e5 := fin.2.1; have HFin : Hid _ := fin.2.2; clear fin ho hg hgg)
  all_goals
    go_wp2
    go_end0
    exact ⟨rfl, g, cap, _, HFin.out⟩


set_option maxHeartbeats 800000 in
theorem zzgrow_any {w : World} {base A : Nat} {v : Value} {n : Nat} {xs : List Value} {f : Nat → Int} (x : Int) (h : Av w base A v n xs f) (hn : n < 1048576)
    (hf : f (n + 1) = f n * sgn x) (b1 : -1 ≤ f n * sgn x) (b2 : f n * sgn x ≤ 1) :
    Calls Try.prog 6 #[.pointer (some ⟨A, 0, none⟩), .int .i64 x] w fun e w' => e = .returned (.tuple #[]) ∧ Grew w w' base A v n f := by
  have HF : Hid (f (n + 1) = f n * sgn x) := hf
  clear hf
  go_enter Try.func6, Try.ntmps6
  go_wp2_with fail
  refine (newint_any x _).mono ?_
  rintro e w1 ⟨p, rfl, hp1, hp2, hp3⟩
  go_wp2_with fail
  refine (newint_any 1 _).mono ?_
  rintro e w2 ⟨q, rfl, hq1, hq2, hq3⟩
  have h1 : Av w1 base A v n xs f := h.keep (Fr.of_grown hp3) (by simp) (by simp)
  have h2 : Av w2 base A v n xs f := h1.keep (Fr.of_grown hq3) (by simp) (by simp)
  have i2 : IsInt w2 p x := hp2.keep (Fr.of_grown hq3) (by simp)
  have hfr : Fr w w2 (fun k => k = A ∨ some k = v.ownBlock) := ((Fr.of_grown hp3).mono (by simp)).trans ((Fr.of_grown hq3).mono (by simp))
  go_wp2_with fail
  refine (grow_any p q x h2 i2 hn HF.out b1 b2).mono ?_
  rintro e w3 ⟨rfl, g, cap, xs', r1, r2, r3⟩
  have R1 : Hid (Av w3 base A (.slice (some ⟨g, 0, none⟩) (n + 1) cap) (n + 1) xs' f) := r1
  have R2 : Hid (v.ownBlock = some g ∨ w.heap.size ≤ g) := by
    rcases r2 with r2 | r2
    · exact .inl r2
    · exact .inr (Nat.le_trans hfr.size r2)
  have R3 : Hid (Fr w w3 (fun k => k = A ∨ some k = v.ownBlock)) := hfr.trans r3
  clear r1 r2 r3
  go_wp2
  go_end0
  exact ⟨rfl, g, cap, xs', R1.out, R2.out, R3.out⟩

end Go.Proofs.Qxb6615985a.fnSignFlipsWithNegatedFactors
