import Derived.Test.Qxb6616119aSplitNil
import Derived.Deep.Strs
namespace Go.Proofs.Qxb6616119a.Law
open Go.ChangeShapes Go.WideShapes Go.ChangeAt Go.RowKit
set_option linter.unusedSimpArgs false
set_option linter.unusedVariables false

/-- The argument, as it lies there. -/
def Lay (w : World) (a : Option Addr) (len cap : Nat) (rs : List Rule) : Prop :=
  (len = 0 ∧ cap = 0 ∧ rs = []) ∨ (∃ b off, a = some ⟨b, off, none⟩ ∧ len ≤ cap ∧ cap ≤ maxLen ∧ rs.length = len ∧ Rl w a rs ∧ ∀ r, r ∈ rs → r.1.size ≤ maxLen)

variable {H : Type} {enc : TypeId × Value → H} {w : World} {base : Nat} {held : Bool}

theorem open_rule {n : Nat} {cs : List Value} {x : DataW H × List MemPlace} (h : DataW.trod enc Try.prog w base (fun _ => true) held n 32 cs = some x) (hl : cs.length = 3) :
    ∃ r : Rule, cs = [.string r.1, .int .u32 r.2.1, .int .i64 r.2.2] ∧ r.1.size ≤ maxLen := by
  obtain ⟨y0, y1, y2, m, _, _, h0, h1, h2⟩ := Go.Deep.trod_struct3 Try.underlying32 h
  match cs, hl with
  | [c0, c1, c2], _ =>
    obtain ⟨s, e0, _, hs⟩ := DataW.trod_string Try.underlying9 h0
    obtain ⟨f, e1, _, _⟩ := DataW.trod_int Try.underlying30 h1
    obtain ⟨z, e2, _, _⟩ := DataW.trod_int Try.underlying2 h2
    have k9 : Try.prog.cellsOf 9 = 1 := by kernel_rfl
    have k30 : Try.prog.cellsOf 30 = 1 := by kernel_rfl
    have k2 : Try.prog.cellsOf 2 = 1 := by kernel_rfl
    simp [k9, k30, k2] at e0 e1 e2
    exact ⟨(s, f, z), by rw [e0, e1, e2], hs⟩

theorem open_rules {a : Option Addr} {len cap fuel : Nat} {x : DataW H × List MemPlace} (h : DataW.trod enc Try.prog w base (fun _ => true) held fuel 22 [.slice a len cap] = some x) : ∃ rs, Lay w a len cap rs := by
  have k32 : Try.prog.cellsOf 32 = 3 := by kernel_rfl
  rcases Go.Deep.open_slice Try.underlying22 h with ⟨hcs, _⟩ | ⟨ad, len', cap', m, n, D, Pl, hcs, hb, hl, hm, hmm, _, hx⟩
  · simp at hcs
    exact ⟨[], .inl ⟨hcs.2.1, hcs.2.2, rfl⟩⟩
  · simp at hcs
    obtain ⟨rfl, rfl, rfl⟩ := hcs
    simp at hmm
    subst hmm
    rcases Nat.eq_zero_or_pos m with h0 | hpos
    · subst h0
      exact ⟨[], .inl ⟨by omega, rfl, rfl⟩⟩
    rw [k32] at hx
    have each : ∀ i, i < m → ∃ r : Rule, (w.cell? (ad.add (i * 3)) = some (.string r.1) ∧ w.cell? (ad.add (i * 3 + 1)) = some (.int .u32 r.2.1) ∧ w.cell? (ad.add (i * 3 + 2)) = some (.int .i64 r.2.2)) ∧ r.1.size ≤ maxLen := by
      intro i hi
      obtain ⟨cs', h1, h2⟩ := hx i hi
      obtain ⟨_, hlen, hcell⟩ := World.cells?_some h1
      obtain ⟨r, rfl, hs⟩ := open_rule h2 hlen
      have e0 := hcell 0 (by omega)
      have e1 := hcell 1 (by omega)
      have e2 := hcell 2 (by omega)
      rw [Go.Deep.add_add] at e0 e1 e2
      exact ⟨r, ⟨by simpa using e0, by simpa using e1, by simpa using e2⟩, hs⟩
    obtain ⟨q, hq⟩ := Go.Deep.choose_lt each
    obtain ⟨b, off, spot⟩ := ad
    have hspot : spot = none := by simpa [Addr.add] using World.cell?_spot (hq 0 hpos).1.1
    subst hspot
    refine ⟨(List.range len).map q, .inr ⟨b, off, rfl, hl, hm, by simp, ?_, ?_⟩⟩
    · refine .inr ⟨b, off, rfl, ?_, fun i hi => ?_⟩
      · exact World.block_lt_of_cell? w _ (hq 0 hpos).1.1
      · have hi' : i < len := by simpa using hi
        have := (hq i (by omega)).1
        rw [add_plain, add_plain, add_plain] at this
        simp only [List.getElem_map, List.getElem_range]
        exact this
    · intro r hr
      obtain ⟨i, hi, rfl⟩ := List.mem_map.1 hr
      exact (hq i (by have := List.mem_range.1 hi; omega)).2
end Go.Proofs.Qxb6616119a.Law
