import Derived.Test.Qxb6615985aLeaf
import Derived.Deep.RegionLaw
namespace Go.Proofs.Qxb6615985a.fnSignFlipsWithNegatedFactors
open Go.ChangeShapes Go.WideShapes Go.ChangeAt Go.RowKit

/-- The averager at block A: its base sign f 0, its steps v: n of them, of the signs f 1 .. f n. -/
structure Av (w : World) (base A : Nat) (v : Value) (n : Nat) (xs : List Value) (f : Nat → Int) : Prop where
  lo : base ≤ A
  hi : A < w.heap.size
  c4 : w.cell? ⟨A, 4, none⟩ = some (.int .i64 (f 0))
  c5 : w.cell? ⟨A, 5, none⟩ = some v
  f5 : w.frozen? ⟨A, 5, none⟩ = false
  own : w.ownsRow base 49 6 v n xs
  ne : v.ownBlock ≠ some A
  sg : ∀ i, i < n → xs[i * 6 + 5]? = some (.int .i64 (f (i + 1)))

theorem sign_any {w : World} {base A : Nat} {v : Value} {n : Nat} {xs : List Value} {f : Nat → Int} (h : Av w base A v n xs f) (k : Nat) (hk : k ≤ n) (hn : n ≤ 1048576) :
    Calls Try.prog 11 #[.pointer (some ⟨A, 0, none⟩), .int .i64 k] w fun e w' => e = .returned (.int .i64 (f k)) ∧ w' = w := by
  have c4 := h.c4
  have c5 := h.c5
  match k, hk with
  | 0, _ =>
    go_enter Try.func11, Try.ntmps11
    go_wp2
    go_ret
    exact ⟨rfl, rfl⟩
  | k + 1, hk =>
    have hs := h.sg k (by omega)
    rcases h.own.2 with ⟨_, hz⟩ | ⟨g, cap, cur, hv, hg1, hg2, hc1, hc2, hc3, hc4⟩
    · omega
    · subst hv
      have hcell := h.own.cellAt (k * 6 + 5) (by omega)
      rw [hs] at hcell
      have hb : (((k + 1 : Nat) : Int) == 0) = false := beq_eq_false_iff_ne.2 (by omega)
      clear hs hc4 hc3 hg2
      go_enter Try.func11, Try.ntmps11
      go_wp2
      go_ret
      exact ⟨rfl, rfl⟩

theorem zzsign_any {w : World} {base A : Nat} {v : Value} {n : Nat} {xs : List Value} {f : Nat → Int} (h : Av w base A v n xs f) (k : Nat) (hk : k ≤ n) (hn : n ≤ 1048576) :
    Calls Try.prog 8 #[.pointer (some ⟨A, 0, none⟩), .int .i64 k] w fun e w' => e = .returned (.int .i64 (f k)) ∧ w' = w := by
  go_enter Try.func8, Try.ntmps8
  go_wp2_with fail
  refine (sign_any h k hk hn).mono ?_
  rintro e w' ⟨rfl, rfl⟩
  go_wp2
  go_ret
  exact ⟨rfl, rfl⟩

/-- append onto a slice of the call's own: whatever the room; and where the new row lies. -/
theorem run_append_own' {P : Program} (w : World) (base : Nat) (t ty e : TypeId) (i : TypeInfo) (z : Value) (size bytes : Nat) (ht : P.underlying t = some (.slice e)) (hi : P.info? e = some i) (hz : i.zero = some z)
    (hsize : i.size = size) (hby : i.bytes = bytes) (hzs : z.cells.size = size) (hsz : 0 < size)
    (v : Value) (n : Nat) (xs : List Value) (hown : w.ownsRow base e size v n xs)
    (a : Addr) (m c : Nat) (news : List Value) (hl : news.length = m * size) (hnews : ∀ j u, news[j]? = some u → w.cell? (a.add j) = some u) (h1 : ∀ u ∈ news, u.oneCell' = true)
    (hm : 0 < m) (h63 : n + m ≤ maxLen) (hbytes : (n + m) * bytes ≤ 140737488355328) (hbase : base ≤ w.heap.size) :
    ∃ g cap w', (Builtin.append_ #[t, t] ty #[v, .slice (some a) m c]).run P w = .ok (.slice (some ⟨g, 0, none⟩) (n + m) cap) w' ∧
      w'.ownsRow base e size (.slice (some ⟨g, 0, none⟩) (n + m) cap) (n + m) (xs ++ news) ∧ w.grownBy w' v.ownBlock ∧ (v.ownBlock = some g ∨ w.heap.size ≤ g) := by
  have form : ∀ {b : Nat} {v' : Value} {w' : World}, w'.ownsRow b e size v' (n + m) (xs ++ news) → b ≤ w.heap.size → b = w.heap.size →
      ∃ g cap, v' = .slice (some ⟨g, 0, none⟩) (n + m) cap ∧ w.heap.size ≤ g ∧ w'.ownsRow base e size (.slice (some ⟨g, 0, none⟩) (n + m) cap) (n + m) (xs ++ news) := by
    intro b v' w' ho _ hb
    subst hb
    rcases ho.2 with ⟨_, hz'⟩ | ⟨g, cap, cur, rfl, hg, r⟩
    · omega
    · exact ⟨g, cap, rfl, hg, ho.1, .inr ⟨g, cap, cur, rfl, by omega, r⟩⟩
  rcases hown.2 with ⟨rfl, rfl⟩ | ⟨g, cap, cur, rfl, hbg, hg, hnc, hcm, hcs, htake⟩
  · have hx : xs = [] := List.eq_nil_of_length_eq_zero (by simpa using hown.1)
    subst hx
    obtain ⟨v', w', hrun, r1, r2, _⟩ := run_append_own (P := P) w w.heap.size t ty e i z size bytes ht hi hz hsize hby hzs hsz (.slice none 0 0) 0 [] (World.ownsRow_nil w _ e size) a m c news hl hnews h1 h63 hbytes (Nat.le_refl _)
    obtain ⟨g, cap, rfl, hg, ho⟩ := form r1 (Nat.le_refl _) rfl
    exact ⟨g, cap, w', hrun, ho, r2, .inr hg⟩
  · by_cases hroom : n + m ≤ cap
    · obtain ⟨w', hrun, r1, r2⟩ := run_append_fits (P := P) w base t ty e i size ht hi hsize g n cap xs hown a m c news hl hnews h1 hroom
      exact ⟨g, cap, w', hrun, r1, r2, .inl rfl⟩
    · obtain ⟨v', w', hrun, r1, r2⟩ := run_append_arg_grows (P := P) w t ty e i z size bytes ht hi hz hsize hby hzs hsz ⟨g, 0, none⟩ n cap xs hown.1 (hown.cells (g := g) rfl) a m c news hl hnews (by omega) h63 hbytes
      obtain ⟨g', cap', rfl, hg', ho⟩ := form r1 (Nat.le_refl _) rfl
      exact ⟨g', cap', w', hrun, ho, ⟨r2.os, r2.tape, r2.output, r2.size, fun k hk _ => r2.block k hk (by simp)⟩, .inr hg'⟩

/-- The same, as one step of a region that draws. -/
theorem step_append_own' {P : Program} {ops : Array Oper} {o : Oper} {a : Act} {w : World} {K : Act → World → Prop} {Q : Exit → Act → World → Prop} {E : Prop}
    (hg : o.guard = none) (s x : Operand) (t : TypeId) (hop : o.op = Op.call { callee := Callee.builtin Builtin.append, args := #[s, x], argTypes := #[t, t] })
    (base : Nat) (e : TypeId) (i : TypeInfo) (z : Value) (size bytes : Nat) (h1 : P.underlying t = some (.slice e)) (h2 : P.info? e = some i) (h3 : i.zero = some z) (h4 : i.size = size) (h5 : i.bytes = bytes) (h6 : z.cells.size = size) (h7 : 0 < size)
    (v : Value) (n : Nat) (xs : List Value) (hs : a.eval s = v) (hown : w.ownsRow base e size v n xs)
    (ad : Addr) (m c : Nat) (news : List Value) (hx : a.eval x = .slice (some ad) m c) (hn : news.length = m * size) (hc : ∀ j u, news[j]? = some u → w.cell? (ad.add j) = some u) (h1c : ∀ u ∈ news, u.oneCell' = true)
    (hm : 0 < m) (b1 : n + m ≤ maxLen) (b2 : (n + m) * bytes ≤ 140737488355328) (hbase : base ≤ w.heap.size)
    (hK : ∀ g cap w', w'.ownsRow base e size (.slice (some ⟨g, 0, none⟩) (n + m) cap) (n + m) (xs ++ news) → w.grownBy w' v.ownBlock → (v.ownBlock = some g ∨ w.heap.size ≤ g) → K (a.put o.dst (.slice (some ⟨g, 0, none⟩) (n + m) cap)) w') :
    if Region.wanted o (yielded ops a.tmps) = true then Oper.wp P o a w K Q else E := by
  have hw : Region.wanted o (yielded ops a.tmps) = true := by simp [Region.wanted, hg]
  rw [if_pos hw]
  obtain ⟨g, cap, w', hrun, r1, r2, r3⟩ := run_append_own' (P := P) w base t o.type e i z size bytes h1 h2 h3 h4 h5 h6 h7 v n xs hown ad m c news hn hc h1c hm b1 b2 hbase
  unfold Oper.wp
  simp [execOp, hop, resolve, invoke, builtin, hs, hx, hrun, Result.andThen]
  exact hK g cap w' r1 r2 r3

theorem Try.info49 : (Try.prog.info? 49).map (fun i => (i.zero, i.size, i.bytes)) = some (some (.agg #[.int .u64 0, .int .i64 0, .pointer none, .pointer none, .pointer none, .int .i64 0]), 6, 48) := by kernel_rfl

end Go.Proofs.Qxb6615985a.fnSignFlipsWithNegatedFactors
