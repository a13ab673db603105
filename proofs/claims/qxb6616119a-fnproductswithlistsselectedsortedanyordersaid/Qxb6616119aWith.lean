import Derived.Test.Qxb6616119aBuild
import Derived.Test.Qxb6616119aPlain
import Derived.Test.Qxb6616119aShelf
import Derived.Deep.MidRow
import Derived.Sort.OwnSorted
namespace Go.Proofs.Qxb6616119a.Law
open Go.ChangeShapes Go.WideShapes Go.ChangeAt Go.RowKit
open Go.Sort
set_option linter.unusedSimpArgs false
set_option linter.unusedVariables false

theorem cell_new (w : World) (r : Rule) (j : Nat) (v : Value) (h : (rcells r)[j]? = some v) : (w.alloc (.cells (rcells r).toArray 40)).cell? ⟨w.heap.size, j, none⟩ = some v := by
  rw [cell_of_row _ _ j (rcells r).toArray 40 (0, 0) (heap_alloc_last w _)]
  simpa using h

set_option maxHeartbeats 1600000 in
set_option maxRecDepth 10000 in
theorem over_any (r : Rule) (t : Int) (B : Nat) (w : World) (hc : w.cell? ⟨B, 0, none⟩ = some (.int .i64 t)) (hB : B < w.heap.size) :
    Calls Try.prog 14 #[.agg (rcells r).toArray, .pointer (some ⟨B, 0, none⟩)] w fun e w' => e = .returned (.bool (decide (t < r.2.2))) ∧ Below w.heap.size w w' := by
  have c3 := cell_new w r 3 (.int .i64 r.2.2) rfl
  go_enter Try.func14, Try.ntmps14
  go_wp2
  go_ret
  exact ⟨rfl, (Below.refl _ _).alloc (Nat.le_refl _) _⟩


theorem cellsOf_at (rs : List Rule) (k : Nat) (hk : k < rs.length) (j : Nat) (hj : j < 18) : (cellsOf rs)[k * 18 + j]? = (rcells rs[k])[j]? := by
  induction rs generalizing k with
  | nil => simp at hk
  | cons r rs ih =>
    have e : cellsOf (r :: rs) = rcells r ++ cellsOf rs := by simp [cellsOf]
    rw [e]
    cases k with
    | zero => rw [List.getElem?_append_left (by rw [rcells_length]; omega)]; simp
    | succ k =>
      rw [List.getElem?_append_right (by rw [rcells_length]; omega), rcells_length]
      have := ih k (by simpa using hk)
      rw [show (k + 1) * 18 + j - 18 = k * 18 + j by omega, this]
      simp

/-- The rules, built, can be read. -/
def Lies (w : World) (p : Option Addr) (rs : List Rule) : Prop := ∀ k (h : k < rs.length), ∃ g, p = some ⟨g, 0, none⟩ ∧ g < w.heap.size ∧ w.rangeAt g (k * 18) (rcells rs[k])
theorem Lies.below {w w' : World} {p : Option Addr} {rs : List Rule} (h : Lies w p rs) (hb : Below w.heap.size w w') : Lies w' p rs := fun k hk => by
  obtain ⟨g, h1, h2, h3⟩ := h k hk
  refine ⟨g, h1, Nat.lt_of_lt_of_le h2 hb.size, fun j v hj => ?_⟩
  rw [hb.cell (p := ⟨g, k * 18 + j, none⟩) h2]
  exact h3 j v hj
theorem lies_of {w : World} {base : Nat} {v : Value} {rs : List Rule} (h : w.ownsRow base 40 18 v rs.length (cellsOf rs)) : ∃ p cap, v = .slice p rs.length cap ∧ Lies w p rs := by
  rcases h.2 with ⟨hv, h0⟩ | ⟨g, cap, cur, hv, _, hb, _, _, _, hx⟩
  · exact ⟨none, 0, by rw [hv, h0], fun k hk => by omega⟩
  · refine ⟨some ⟨g, 0, none⟩, cap, hv, fun k hk => ⟨g, rfl, (Array.getElem?_eq_some_iff.1 hb).1, fun j u hj => ?_⟩⟩
    have hj18 : j < 18 := by have := (List.getElem?_eq_some_iff.1 hj).1; rwa [rcells_length] at this
    rw [cell_of_row _ _ _ cur 40 (0, 0) hb, ← Array.getElem?_toList, ← List.getElem?_take_of_lt (show k * 18 + j < rs.length * 18 by omega), hx, cellsOf_at rs k hk j hj18]
    exact hj

theorem wpList_store_new {P : Program} {ops : Array Oper} {rest : List Oper} {op : Oper} {a : Act} {w : World} {Q : Exit → Act → World → Prop} (hgd : op.guard = none) (ty : TypeId) (x y : Operand) (ho : op.op = .store ty x y)
    (old cells : Array Value) (hx : a.eval x = .pointer (some ⟨w.heap.size, 0, none⟩)) (hy : a.eval y = .agg cells)
    (hi : (P.info? ty).map (·.size) = some cells.size) (hs : old.size = cells.size) (h1 : cells.all (·.oneCell') = true)
    (h : wpList P ops Q rest (a.put op.dst undef) (w.alloc (.cells cells ty))) : wpList P ops Q (op :: rest) a (w.alloc (.cells old ty)) :=
  wpList_store_row hgd ty x y ho w.heap.size ty old cells hx hy (heap_alloc_last w _) hi hs h1 (by rw [World.setRow_alloc_new]; exact h)

/-- What has been gathered. -/
def Got (w wr : World) (v : Value) (xs : List (List UInt8)) : Prop := wr.ownsRow w.heap.size 9 1 v xs.length (xs.map Go.Proofs.encStr) ∧ Below w.heap.size w wr
theorem range_new (w : World) (r : Rule) : (w.alloc (.cells (rcells r).toArray 40)).rangeAt w.heap.size 0 (rcells r) := fun j v hj => by
  rw [Nat.zero_add]; exact cell_new w r j v hj
theorem Got.below {w wr w2 : World} {v : Value} {xs : List (List UInt8)} {o : Obj} (h : Got w wr v xs) (h2 : Below (wr.alloc o).heap.size (wr.alloc o) w2) : Got w w2 v xs := by
  have hsz := size_al wr o
  refine ⟨(h.1.alloc o).kept (row := none) ⟨h2.os, h2.tape, h2.output, h2.size, fun k hk _ => h2.block k hk⟩ (by cases v.ownBlock <;> simp), (h.2.alloc h.2.size o).trans (h2.mono ?_)⟩
  have := h.2.size
  omega

theorem row9 : (Try.prog.info? 9).map (fun i => (i.zero, i.size, i.bytes)) = some (some (.string ⟨#[]⟩), 1, 16) := by kernel_rfl
theorem enc_toList (b : ByteArray) : Go.Proofs.encStr b.data.toList = .string b := by cases b; rfl

theorem wpList_pushStr {ops : Array Oper} {rest : List Oper} {op : Oper} {a : Act} {w w2 : World} {Q : Exit → Act → World → Prop} (hgd : op.guard = none) (s x : Operand)
    (ho : op.op = .call { callee := .builtin .append, args := #[s, x], argTypes := #[43, 43] })
    (v : Value) (xs : List (List UInt8)) (b : ByteArray) (hs : a.eval s = v) (hx : a.eval x = .slice (some ⟨w2.heap.size, 0, none⟩) 1 1) (hG : Got w w2 v xs) (hn : xs.length ≤ 4096)
    (h : ∀ v' w', Got w w' v' (xs ++ [b.data.toList]) → wpList Try.prog ops Q rest (a.put op.dst v') w') :
    wpList Try.prog ops Q (op :: rest) a (w2.alloc (.cells #[.string b] 9)) := by
  obtain ⟨i0, hi, hz0, hz1, hz2⟩ := info_parts row9
  have hsz := size_al w2 (.cells #[.string b] 9)
  have hle := hG.2.size
  refine wpList_append_own _ hgd s x 43 ho w.heap.size 9 i0 _ 1 16 Try.underlying43 hi hz0 hz1 hz2 rfl (by decide) v xs.length _ hs (hG.1.alloc _) ⟨w2.heap.size, 0, none⟩ 1 1 [.string b] hx rfl ?_ (by intro u hu; simp at hu; subst hu; rfl) (by unfold maxLen; omega) (by omega) (by omega) ?_
  · intro j u hj
    have hadd : (⟨w2.heap.size, 0, none⟩ : Addr).add j = ⟨w2.heap.size, j, none⟩ := by unfold Addr.add; split <;> simp_all
    rw [hadd, cell_of_row _ _ j #[.string b] 9 (0, 0) (heap_alloc_last w2 _)]
    simpa using hj
  · intro v' w' h1 h2 _
    refine h v' w' ⟨?_, (hG.2.alloc hle _).grown h2 (by omega) (fun k hk => (hG.1.lt k hk).1)⟩
    rw [List.length_append, List.map_append]
    simp only [List.map_cons, List.map_nil, enc_toList]
    exact h1

theorem sort_got {w wr : World} {g cp : Nat} {cur : Array Value} {xs : List (List UInt8)} (hG : Got w wr (.slice (some ⟨g, 0, none⟩) xs.length cp) xs) (hbase : w.heap.size ≤ g) (hb : wr.heap[g]? = some (.cells cur 9 (0, 0)))
    (h1 : xs.length ≤ cp) (h2 : cp ≤ maxLen) (h3 : cur.size = cp * 1) (h4 : cur.toList.take (xs.length * 1) = xs.map encStr) (hle : xs.length ≤ 4096) :
    Calls Try.prog 17 #[.slice (some ⟨g, 0, none⟩) xs.length cp] wr fun e w' => e = .returned (.tuple #[]) ∧ Got w w' (.slice (some ⟨g, 0, none⟩) xs.length cp) (srt xs) := by
  refine (Try.slices_Sort_string g 0 cp xs wr (holds_of_block hb (by simpa using h4)) (Array.getElem?_eq_some_iff.1 hb).1 (by omega)).mono ?_
  rintro e w' ⟨rfl, n, os, rfl⟩
  refine ⟨rfl, ?_, hG.2.grown (grownBy_sorted _) hG.2.size (fun k hk => by cases hk; exact hbase)⟩
  have := ownsRow_sorted (w := wr) (n := n) (os := os) (ss := xs) (ts := srt xs) (srt_length xs) hbase hb h1 h2 h3
  rw [srt_length]
  exact this

theorem join_got {w w2 : World} {g cp : Nat} {xs : List (List UInt8)} (hG : Got w w2 (.slice (some ⟨g, 0, none⟩) xs.length cp) (srt xs)) (hle : xs.length ≤ 4096) (hL : (Lib.join (srt xs) [44, 32]).length ≤ 2000000) :
    Calls Try.prog 18 #[.slice (some ⟨g, 0, none⟩) xs.length cp, .string ⟨#[44, 32]⟩] w2 fun e w' => e = .returned (.string ⟨(Lib.join (srt xs) [44, 32]).toArray⟩) ∧ Below w2.heap.size w2 w' := by
  have hs := srt_length xs
  rcases hG.1.2 with ⟨h0, _⟩ | ⟨g', cp', cur, hv, _, hb, h1, _, _, h4⟩
  · cases h0
  injection hv with e1 _ e3
  injection e1 with e1
  injection e1 with e1
  subst e1 e3
  have hm : ((srt xs).map (fun l => (⟨l.toArray⟩ : ByteArray))).map (·.data.toList) = srt xs := by
    rw [List.map_map]
    exact List.map_id'' (fun l => rfl) _
  have J := Try.strings_Join g 0 cp ((srt xs).map (fun l => (⟨l.toArray⟩ : ByteArray))) ⟨#[44, 32]⟩ w2 (fun j x hj => by
      rw [Nat.zero_add, cell_of_row _ _ j cur 9 (0, 0) hb, ← Array.getElem?_toList]
      have hjl : j < (srt xs).length := by have := (List.getElem?_eq_some_iff.1 hj).1; simpa using this
      rw [← List.getElem?_take_of_lt (show j < (srt xs).length * 1 by omega), h4]
      rw [List.getElem?_map] at hj ⊢
      cases hq : (srt xs)[j]? with
      | none => rw [hq] at hj; cases hj
      | some l => rw [hq] at hj; cases hj; rfl) (Array.getElem?_eq_some_iff.1 hb).1 (by rw [List.length_map]; omega) (by rw [List.length_map]; omega) (by rw [hm]; show (Lib.join (srt xs) [44, 32]).length ≤ _; omega)
  rw [List.length_map, hs, hm] at J
  exact J

set_option maxHeartbeats 1600000 in
set_option maxRecDepth 10000 in
theorem with_any {w : World} {p : Option Addr} {rs : List Rule} (hv : Lies w p rs) (cap : Nat) (t : Int) (B : Nat) (hc : w.cell? ⟨B, 0, none⟩ = some (.int .i64 t)) (hB : B < w.heap.size) (hl : rs.length ≤ 4096) (hy : bytesOf rs ≤ 1048576) :
    Calls Try.prog 13 #[.slice p rs.length cap, .func (.func 14) #[] #[.pointer (some ⟨B, 0, none⟩)]] w fun e w' => e = .returned (.string (listing t rs)) ∧ Below w.heap.size w w' := by
  go_enter Try.func13, Try.ntmps13
  go_wp2_with fail
  go_loopw [5, 10] (fun v i wr => ∃ k : Nat, k ≤ rs.length ∧ i = .int .i64 k ∧ Got w wr v (sel t (rs.take k))) (fun _ i _ => rs.length - (intOf i).toNat)
  case atStart => exact ⟨0, Nat.zero_le _, rfl, World.ownsRow_nil _ _ _ _, Below.refl _ _⟩
  case round =>
    obtain ⟨k, hk, rfl, hG⟩ := hrel
    by_cases hlt : k < rs.length
    · obtain ⟨g, rfl, hg, hr⟩ := (hv.below hG.2) k hlt
      have HR : Hid (wr.rangeAt g (k * 18) (rcells rs[k])) := hr
      have HT : Hid (sel t (rs.take (k + 1)) = sel t (rs.take k) ++ (if t < rs[k].2.2 then [rs[k].1.data.toList] else [])) := sel_take t rs k hlt
      have HB : Hid (wr.cell? ⟨B, 0, none⟩ = some (.int .i64 t) ∧ B < wr.heap.size) := ⟨by rw [hG.2.cell (p := ⟨B, 0, none⟩) hB]; exact hc, Nat.lt_of_lt_of_le hB hG.2.size⟩
      have hle : (sel t (rs.take k)).length ≤ 4096 := Nat.le_trans (sel_le _ _) (by rw [List.length_take]; omega)
      have HG : Hid (Got w wr _ (sel t (rs.take k))) := hG
      clear hr hG hc
      generalize rs[k] = r at *
      generalize sel t (rs.take k) = xs at *
      go_wp2_with (first | (refine wpList_load_mid rfl 40 (.tmp 12) rfl g (k * 18) rfl (rcells r) _ HR.out Try.underlying40 rfl info40 ?_) | (refine wpList_store_new rfl 40 (.tmp 7) (.tmp 13) rfl _ (rcells r).toArray rfl rfl info40 rfl (rcells_all _) ?_) | (refine wpList_load_mid rfl 40 (.tmp 7) rfl wr.heap.size 0 rfl (rcells r) _ (range_new wr r) Try.underlying40 rfl info40 ?_))
      refine (over_any r t B (wr.alloc (.cells (rcells r).toArray 40)) (by rw [World.cell?_alloc_lt _ _ _ HB.out.2]; exact HB.out.1) (by rw [size_al]; have := HB.out.2; omega)).mono ?_
      rintro e w2 ⟨rfl, hb2⟩
      have c1 : w2.cell? ⟨wr.heap.size, 1, none⟩ = some (.string r.1) := by
        rw [hb2.cell (p := ⟨wr.heap.size, 1, none⟩) (by rw [size_al]; exact Nat.lt_succ_self _)]
        exact cell_new wr r 1 _ rfl
      have HG2 : Hid (Got w w2 _ xs) := HG.out.below hb2
      have hw2 : Hid (wr.heap.size < w2.heap.size) := Nat.lt_of_lt_of_le (by rw [size_al]; exact Nat.lt_succ_self _) hb2.size
      clear hb2 HG HR HB
      by_cases ht : t < r.2.2
      · rw [if_pos ht] at HT
        go_wp2_with (at_builtin; refine wpList_pushStr rfl (.tmp 17) (.tmp 20) rfl _ xs r.1 rfl rfl HG2.out hle ?_)
        intro v' w3 R
        clear HG2 c1
        go_wp2
        go_roundw
        case rel => exact ⟨k + 1, by omega, by go_num, by rw [HT.out]; exact R⟩
        case measure => simp [intOf]; omega
      · rw [if_neg ht, List.append_nil] at HT
        go_wp2
        go_roundw
        case rel => exact ⟨k + 1, by omega, by go_num, by rw [HT.out]; exact HG2.out⟩
        case measure => simp [intOf]; omega
    · obtain rfl : k = rs.length := by omega
      rw [List.take_length] at hG
      have hle : (sel t rs).length ≤ 4096 := Nat.le_trans (sel_le _ _) hl
      have HL : Hid ((Lib.join (srt (sel t rs)) [44, 32]).length ≤ 2000000) := by
        have h1 := listing_size t rs
        have h2 := lenOf_le t rs hl hy
        have h3 : (listing t rs).size = (Lib.join (srt (sel t rs)) [44, 32]).length := List.size_toArray ..
        show _ ≤ _
        omega
      have HE : Hid (listing t rs = ⟨(Lib.join (srt (sel t rs)) [44, 32]).toArray⟩) := rfl
      generalize sel t rs = xs at *
      clear hc hB
      rcases hG.1.2 with ⟨rfl, h0⟩ | ⟨g, cp, cur, rfl, hbase, hb, h1, h2, h3, h4⟩
      · obtain rfl : xs = [] := List.eq_nil_of_length_eq_zero h0
        have HG : Hid (Below w.heap.size w wr) := hG.2
        have HE' : Hid (listing t rs = ⟨#[]⟩) := by
          show _ = _
          rw [HE.out]
          simp [srt, Lib.join, List.intercalate]
        clear hG HE hle HL
        go_wp2_with fail
        refine (Try.slices_Sort_string_none none 0 _).mono ?_
        rintro e w2 ⟨rfl, rfl⟩
        go_wp2_with fail
        refine (Try.strings_Join_none none 0 _ _).mono ?_
        rintro e w2 ⟨rfl, rfl⟩
        go_wp2
        go_ret
        exact ⟨by rw [HE'.out]; rfl, HG.out⟩
      · have S1 := sort_got hG hbase hb h1 h2 h3 h4 hle
        have hG' : Hid (Got w wr _ xs) := hG
        clear hG hbase hb h1 h2 h3 h4
        go_wp2_with fail
        refine S1.mono ?_
        clear S1
        rintro e w2 ⟨rfl, hG2⟩
        have J := join_got hG2 hle HL.out
        have HG2 : Hid (Got w w2 _ (srt xs)) := hG2
        clear hG2
        go_wp2_with fail
        refine J.mono ?_
        clear J
        rintro e w3 ⟨rfl, hb3⟩
        have HB3 : Hid (Below w2.heap.size w2 w3) := hb3
        clear hb3
        go_wp2
        go_ret
        exact ⟨by rw [HE.out]; rfl, HG2.out.2.trans (HB3.out.mono HG2.out.2.size)⟩

set_option maxHeartbeats 800000 in
theorem ticks_any {w : World} {base : Nat} {v : Value} {rs : List Rule} (hv : w.ownsRow base 40 18 v rs.length (cellsOf rs)) (t : Int) (hl : rs.length ≤ 4096) (hy : bytesOf rs ≤ 1048576) :
    Calls Try.prog 7 #[v, .int .i64 t] w fun e w' => e = .returned (.string (listing t rs)) ∧ Below w.heap.size w w' := by
  obtain ⟨p, cap, rfl, hL⟩ := lies_of hv
  have HL : Hid (Lies w p rs) := hL
  clear hv hL
  go_enter Try.func7, Try.ntmps7
  go_wp2_with fail
  refine (with_any (HL.out.below ((Below.refl _ _).alloc (Nat.le_refl _) _)) cap t w.heap.size (cell_of_row _ _ 0 _ 2 (0, 0) (heap_alloc_last w _)) (by rw [size_al]; omega) hl hy).mono ?_
  rintro e w2 ⟨rfl, hb⟩
  have HB : Hid (Below w.heap.size w w2) := ((Below.refl _ _).alloc (Nat.le_refl _) _).trans (hb.mono (by rw [size_al]; omega))
  clear hb HL
  go_wp2
  go_ret
  exact ⟨rfl, HB.out⟩
end Go.Proofs.Qxb6616119a.Law
