import Derived.Shelf.Strings.Builder1
import Derived.Shelf.Strings.Builder2
import Derived.Shelf.Strings.OnBuilder
import Derived.Shelf.Small.Bits
import Derived.Shelf.Strconv.Itoa0
import Derived.Shelf.Sort.Plain
import Derived.Shelf.Slices.In.SortNone
import Derived.Test.Qxb6616119aProg
namespace Go.Proofs
open Go.Shelf
def Try.lays169_ren : Go.Shelf.Ren := ⟨fun | 169 => 24 | n => n, fun | 70 => 52 | 9 => 9 | 0 => 0 | 72 => 54 | 37 => 48 | 127 => 73 | 3 => 3 | 5 => 5 | n => n, fun | n => n⟩
theorem Try.lays169 : Go.Proofs.Lays.n169 Try.prog Try.lays169_ren := {
  mixed := by kernel_rfl
  f169 := Try.func24.trans (congrArg some (by kernel_rfl))
  t0 := Try.underlying0
  a0 := Try.isAgg0
  z0 := Try.sizeOf0
  v0 := Try.zeroValue0
  t3 := Try.underlying3
  a3 := Try.isAgg3
  z3 := Try.sizeOf3
  v3 := Try.zeroValue3
  t9 := Try.underlying9
  a9 := Try.isAgg9
  z9 := Try.sizeOf9
  v9 := Try.zeroValue9
  t37 := Try.underlying48
  a37 := Try.isAgg48
  z37 := Try.sizeOf48
  v37 := Try.zeroValue48
  t70 := Try.underlying52
  a70 := Try.isAgg52
  z70 := Try.sizeOf52
  v70 := Try.zeroValue52
  t72 := Try.underlying54
  a72 := Try.isAgg54
  z72 := Try.sizeOf54
  v72 := Try.zeroValue54
  t127 := Try.underlying73
  a127 := Try.isAgg73
  z127 := Try.sizeOf73
  v127 := Try.zeroValue73 }
theorem Try.Builder_Extra_169 : Builder.Extra Try.prog Try.lays169_ren := {
  sizeBuilder := by kernel_rfl
  liesBuilder := by kernel_rfl
  t5 := Try.underlying5
  a5 := Try.isAgg5
  z5 := Try.sizeOf5
  v5 := Try.zeroValue5
  infoByte := by kernel_rfl
  cellsByte := by kernel_rfl
  sizeByte := by kernel_rfl
  neB5 := by decide }
open Go.RowKit in
theorem Try.Builder_String (B b : Nat) (l : List UInt8) (w : World) (h : Lib.IsBuilder 54 5 B b (Lib.byteCells l) w) (h0 : l ≠ []) :
    Calls Try.prog 24 #[.pointer (some ⟨b, 0, none⟩)] w fun e w' => e = .returned (.string ⟨l.toArray⟩) ∧ Below B w w' := Any.Builder_String Try.lays169 Try.Builder_Extra_169 B b l w h h0
open Go.RowKit in
theorem Try.Builder_String_empty (B b : Nat) (w : World) (h : Lib.IsBuilder 54 5 B b [] w) (hBw : B ≤ w.heap.size) :
    Calls Try.prog 24 #[.pointer (some ⟨b, 0, none⟩)] w fun e w' => e = .returned (.string ⟨#[]⟩) ∧ Below B w w' := Any.Builder_String_empty Try.lays169 Try.Builder_Extra_169 B b w h hBw
open Go.RowKit in
theorem Try.Builder_String_any (B b : Nat) (l : List UInt8) (w : World) (h : Lib.IsBuilder 54 5 B b (Lib.byteCells l) w) (hBw : B ≤ w.heap.size) :
    Calls Try.prog 24 #[.pointer (some ⟨b, 0, none⟩)] w fun e w' => e = .returned (.string ⟨l.toArray⟩) ∧ Below B w w' := Any.Builder_String_any Try.lays169 Try.Builder_Extra_169 B b l w h hBw
def Try.lays241_ren : Go.Shelf.Ren := ⟨fun | 241 => 37 | 277 => 45 | n => n, fun | 70 => 52 | 3 => 3 | 0 => 0 | 72 => 54 | 37 => 48 | 5 => 5 | n => n, fun | n => n⟩
theorem Try.lays241 : Go.Proofs.Lays.n241 Try.prog Try.lays241_ren := {
  mixed := by kernel_rfl
  f241 := Try.func37.trans (congrArg some (by kernel_rfl))
  f277 := Try.func45.trans (congrArg some (by kernel_rfl))
  t0 := Try.underlying0
  a0 := Try.isAgg0
  z0 := Try.sizeOf0
  v0 := Try.zeroValue0
  t3 := Try.underlying3
  a3 := Try.isAgg3
  z3 := Try.sizeOf3
  v3 := Try.zeroValue3
  t37 := Try.underlying48
  a37 := Try.isAgg48
  z37 := Try.sizeOf48
  v37 := Try.zeroValue48
  t70 := Try.underlying52
  a70 := Try.isAgg52
  z70 := Try.sizeOf52
  v70 := Try.zeroValue52
  t72 := Try.underlying54
  a72 := Try.isAgg54
  z72 := Try.sizeOf54
  v72 := Try.zeroValue54 }
theorem Try.Builder_Extra_241 : Builder.Extra Try.prog Try.lays241_ren := {
  sizeBuilder := by kernel_rfl
  liesBuilder := by kernel_rfl
  t5 := Try.underlying5
  a5 := Try.isAgg5
  z5 := Try.sizeOf5
  v5 := Try.zeroValue5
  infoByte := by kernel_rfl
  cellsByte := by kernel_rfl
  sizeByte := by kernel_rfl
  neB5 := by decide }
open Go.RowKit in
theorem Try.Builder_grow_fresh (B b n : Nat) (w : World) (hB : B ≤ b) (hbk : w.heap[b]? = some (.cells #[.pointer (some ⟨b, 0, none⟩), .slice none 0 0] 54 (0, 0))) (hBw : B ≤ w.heap.size) (hn : n ≤ 281474976710656) :
    Calls Try.prog 37 #[.pointer (some ⟨b, 0, none⟩), .int .i64 n] w fun e w' => e = .returned (.tuple #[]) ∧ (Lib.BuilderAt 54 5 B b (.pointer (some ⟨b, 0, none⟩)) [] w' ∧ Below B w w') := Any.Builder_grow_fresh Try.lays241 Try.Builder_Extra_241 B b n w hB hbk hBw hn
def Try.lays165_ren : Go.Shelf.Ren := ⟨fun | 165 => 22 | 240 => 36 | 241 => 37 | 276 => 44 | 277 => 45 | n => n, fun | 70 => 52 | 3 => 3 | 0 => 0 | 4 => 4 | 9 => 9 | 20 => 20 | 72 => 54 | 37 => 48 | 164 => 81 | 5 => 5 | n => n, fun | n => n⟩
theorem Try.lays165 : Go.Proofs.Lays.n165 Try.prog Try.lays165_ren := {
  mixed := by kernel_rfl
  f165 := Try.func22.trans (congrArg some (by kernel_rfl))
  f240 := Try.func36.trans (congrArg some (by kernel_rfl))
  f241 := Try.func37.trans (congrArg some (by kernel_rfl))
  f276 := Try.func44.trans (congrArg some (by kernel_rfl))
  f277 := Try.func45.trans (congrArg some (by kernel_rfl))
  t0 := Try.underlying0
  a0 := Try.isAgg0
  z0 := Try.sizeOf0
  v0 := Try.zeroValue0
  t3 := Try.underlying3
  a3 := Try.isAgg3
  z3 := Try.sizeOf3
  v3 := Try.zeroValue3
  t4 := Try.underlying4
  a4 := Try.isAgg4
  z4 := Try.sizeOf4
  v4 := Try.zeroValue4
  t9 := Try.underlying9
  a9 := Try.isAgg9
  z9 := Try.sizeOf9
  v9 := Try.zeroValue9
  t20 := Try.underlying20
  a20 := Try.isAgg20
  z20 := Try.sizeOf20
  v20 := Try.zeroValue20
  t37 := Try.underlying48
  a37 := Try.isAgg48
  z37 := Try.sizeOf48
  v37 := Try.zeroValue48
  t70 := Try.underlying52
  a70 := Try.isAgg52
  z70 := Try.sizeOf52
  v70 := Try.zeroValue52
  t72 := Try.underlying54
  a72 := Try.isAgg54
  z72 := Try.sizeOf54
  v72 := Try.zeroValue54
  t164 := Try.underlying81
  a164 := Try.isAgg81
  z164 := Try.sizeOf81
  v164 := Try.zeroValue81 }
theorem Try.Builder_Extra_165 : Builder.Extra Try.prog Try.lays165_ren := {
  sizeBuilder := by kernel_rfl
  liesBuilder := by kernel_rfl
  t5 := Try.underlying5
  a5 := Try.isAgg5
  z5 := Try.sizeOf5
  v5 := Try.zeroValue5
  infoByte := by kernel_rfl
  cellsByte := by kernel_rfl
  sizeByte := by kernel_rfl
  neB5 := by decide }
open Go.RowKit in
theorem Try.Builder_Grow_fresh (B b n : Nat) (w : World) (hB : B ≤ b) (hbk : w.heap[b]? = some (.cells #[.pointer none, .slice none 0 0] 54 (0, 0))) (hBw : B ≤ w.heap.size) (hn : n ≤ 281474976710656) :
    Calls Try.prog 22 #[.pointer (some ⟨b, 0, none⟩), .int .i64 n] w fun e w' => e = .returned (.tuple #[]) ∧ (Lib.BuilderAt 54 5 B b (.pointer (some ⟨b, 0, none⟩)) [] w' ∧ Below B w w') := Any.Builder_Grow_fresh Try.lays165 Try.Builder_Extra_165 B b n w hB hbk hBw hn
def Try.lays156_ren : Go.Shelf.Ren := ⟨fun | 156 => 18 | 165 => 22 | 166 => 23 | 169 => 24 | 240 => 36 | 241 => 37 | 276 => 44 | 277 => 45 | n => n, fun | 31 => 43 | 9 => 9 | 3 => 3 | 4 => 4 | 0 => 0 | 20 => 20 | 72 => 54 | 76 => 58 | 70 => 52 | 37 => 48 | 75 => 57 | 127 => 73 | 164 => 81 | 5 => 5 | 80 => 60 | n => n, fun | n => n⟩
theorem Try.lays156 : Go.Proofs.Lays.n156 Try.prog Try.lays156_ren := {
  mixed := by kernel_rfl
  f156 := Try.func18.trans (congrArg some (by kernel_rfl))
  f165 := Try.func22.trans (congrArg some (by kernel_rfl))
  f166 := Try.func23.trans (congrArg some (by kernel_rfl))
  f169 := Try.func24.trans (congrArg some (by kernel_rfl))
  f240 := Try.func36.trans (congrArg some (by kernel_rfl))
  f241 := Try.func37.trans (congrArg some (by kernel_rfl))
  f276 := Try.func44.trans (congrArg some (by kernel_rfl))
  f277 := Try.func45.trans (congrArg some (by kernel_rfl))
  t0 := Try.underlying0
  a0 := Try.isAgg0
  z0 := Try.sizeOf0
  v0 := Try.zeroValue0
  t3 := Try.underlying3
  a3 := Try.isAgg3
  z3 := Try.sizeOf3
  v3 := Try.zeroValue3
  t4 := Try.underlying4
  a4 := Try.isAgg4
  z4 := Try.sizeOf4
  v4 := Try.zeroValue4
  t9 := Try.underlying9
  a9 := Try.isAgg9
  z9 := Try.sizeOf9
  v9 := Try.zeroValue9
  t20 := Try.underlying20
  a20 := Try.isAgg20
  z20 := Try.sizeOf20
  v20 := Try.zeroValue20
  t31 := Try.underlying43
  a31 := Try.isAgg43
  z31 := Try.sizeOf43
  v31 := Try.zeroValue43
  t37 := Try.underlying48
  a37 := Try.isAgg48
  z37 := Try.sizeOf48
  v37 := Try.zeroValue48
  t70 := Try.underlying52
  a70 := Try.isAgg52
  z70 := Try.sizeOf52
  v70 := Try.zeroValue52
  t72 := Try.underlying54
  a72 := Try.isAgg54
  z72 := Try.sizeOf54
  v72 := Try.zeroValue54
  t75 := Try.underlying57
  a75 := Try.isAgg57
  z75 := Try.sizeOf57
  v75 := Try.zeroValue57
  t76 := Try.underlying58
  a76 := Try.isAgg58
  z76 := Try.sizeOf58
  v76 := Try.zeroValue58
  t127 := Try.underlying73
  a127 := Try.isAgg73
  z127 := Try.sizeOf73
  v127 := Try.zeroValue73
  t164 := Try.underlying81
  a164 := Try.isAgg81
  z164 := Try.sizeOf81
  v164 := Try.zeroValue81 }
theorem Try.Builder_Extra_156 : Builder.Extra Try.prog Try.lays156_ren := {
  sizeBuilder := by kernel_rfl
  liesBuilder := by kernel_rfl
  t5 := Try.underlying5
  a5 := Try.isAgg5
  z5 := Try.sizeOf5
  v5 := Try.zeroValue5
  infoByte := by kernel_rfl
  cellsByte := by kernel_rfl
  sizeByte := by kernel_rfl
  neB5 := by decide }
open Go.RowKit in
theorem Try.strings_Join_none (a : Option Addr) (c : Nat) (sep : ByteArray) (w : World) :
    Calls Try.prog 18 #[.slice a 0 c, .string sep] w fun e w' => e = .returned (.string ⟨#[]⟩) ∧ w' = w := Any.strings_Join_none Try.lays156 Try.Builder_Extra_156 a c sep w
open Go.RowKit in
theorem Try.strings_Join (bk o c : Nat) (xs : List ByteArray) (sep : ByteArray) (w : World) (hcells : ∀ (j : Nat) x, xs[j]? = some x → w.cell? ⟨bk, o + j, none⟩ = some (.string x)) (hbk : bk < w.heap.size) (hN : xs.length ≤ 140737488355328) (hcap : xs.length ≤ c) (hlen : (Lib.join (xs.map (·.data.toList)) sep.data.toList).length ≤ 140737488355328) :
    Calls Try.prog 18 #[.slice (some ⟨bk, o, none⟩) xs.length c, .string sep] w fun e w' => e = .returned (.string ⟨(Lib.join (xs.map (·.data.toList)) sep.data.toList).toArray⟩) ∧ Below w.heap.size w w' := Any.strings_Join Try.lays156 Try.Builder_Extra_156 bk o c xs sep w hcells hbk hN hcap hlen
def Try.lays128_ren : Go.Shelf.Ren := ⟨fun | 128 => 34 | n => n, fun | 51 => 30 | 3 => 3 | 4 => 4 | 46 => 51 | 5 => 5 | 9 => 9 | n => n, fun | n => n⟩
theorem Try.lays128 : Go.Proofs.Lays.n128 Try.prog Try.lays128_ren := {
  mixed := by kernel_rfl
  f128 := Try.func34.trans (congrArg some (by kernel_rfl))
  t3 := Try.underlying3
  a3 := Try.isAgg3
  z3 := Try.sizeOf3
  v3 := Try.zeroValue3
  t4 := Try.underlying4
  a4 := Try.isAgg4
  z4 := Try.sizeOf4
  v4 := Try.zeroValue4
  t5 := Try.underlying5
  a5 := Try.isAgg5
  z5 := Try.sizeOf5
  v5 := Try.zeroValue5
  t9 := Try.underlying9
  a9 := Try.isAgg9
  z9 := Try.sizeOf9
  v9 := Try.zeroValue9
  t46 := Try.underlying51
  a46 := Try.isAgg51
  z46 := Try.sizeOf51
  v46 := Try.zeroValue51
  t51 := Try.underlying30
  a51 := Try.isAgg30
  z51 := Try.sizeOf30
  v51 := Try.zeroValue30 }
theorem Try.bits_Len32 (x : Int) (w : World) (h0 : 0 ≤ x) (h1 : x ≤ 4294967295) :
    Calls Try.prog 34 #[.int .u32 x] w fun e w' => e = .returned (.int .i64 (Lib.bitLen x.toNat)) ∧ w' = w := Any.bits_Len32 Try.lays128 x w h0 h1
def Try.lays125_ren : Go.Shelf.Ren := ⟨fun | 125 => 21 | 128 => 34 | 129 => 35 | n => n, fun | 46 => 51 | 3 => 3 | 51 => 30 | 53 => 72 | 4 => 4 | 5 => 5 | 9 => 9 | n => n, fun | n => n⟩
theorem Try.lays125 : Go.Proofs.Lays.n125 Try.prog Try.lays125_ren := {
  mixed := by kernel_rfl
  f125 := Try.func21.trans (congrArg some (by kernel_rfl))
  f128 := Try.func34.trans (congrArg some (by kernel_rfl))
  f129 := Try.func35.trans (congrArg some (by kernel_rfl))
  t3 := Try.underlying3
  a3 := Try.isAgg3
  z3 := Try.sizeOf3
  v3 := Try.zeroValue3
  t4 := Try.underlying4
  a4 := Try.isAgg4
  z4 := Try.sizeOf4
  v4 := Try.zeroValue4
  t5 := Try.underlying5
  a5 := Try.isAgg5
  z5 := Try.sizeOf5
  v5 := Try.zeroValue5
  t9 := Try.underlying9
  a9 := Try.isAgg9
  z9 := Try.sizeOf9
  v9 := Try.zeroValue9
  t46 := Try.underlying51
  a46 := Try.isAgg51
  z46 := Try.sizeOf51
  v46 := Try.zeroValue51
  t51 := Try.underlying30
  a51 := Try.isAgg30
  z51 := Try.sizeOf30
  v51 := Try.zeroValue30
  t53 := Try.underlying72
  a53 := Try.isAgg72
  z53 := Try.sizeOf72
  v53 := Try.zeroValue72 }
theorem Try.bits_Len (x : Int) (w : World) (h0 : 0 ≤ x) (h1 : x ≤ 18446744073709551615) :
    Calls Try.prog 21 #[.int .u64 x] w fun e w' => e = .returned (.int .i64 (Lib.bitLen x.toNat)) ∧ w' = w := Any.bits_Len Try.lays125 x w h0 h1
def Try.lays129_ren : Go.Shelf.Ren := ⟨fun | 129 => 35 | n => n, fun | 53 => 72 | 3 => 3 | 4 => 4 | 46 => 51 | 5 => 5 | 9 => 9 | n => n, fun | n => n⟩
theorem Try.lays129 : Go.Proofs.Lays.n129 Try.prog Try.lays129_ren := {
  mixed := by kernel_rfl
  f129 := Try.func35.trans (congrArg some (by kernel_rfl))
  t3 := Try.underlying3
  a3 := Try.isAgg3
  z3 := Try.sizeOf3
  v3 := Try.zeroValue3
  t4 := Try.underlying4
  a4 := Try.isAgg4
  z4 := Try.sizeOf4
  v4 := Try.zeroValue4
  t5 := Try.underlying5
  a5 := Try.isAgg5
  z5 := Try.sizeOf5
  v5 := Try.zeroValue5
  t9 := Try.underlying9
  a9 := Try.isAgg9
  z9 := Try.sizeOf9
  v9 := Try.zeroValue9
  t46 := Try.underlying51
  a46 := Try.isAgg51
  z46 := Try.sizeOf51
  v46 := Try.zeroValue51
  t53 := Try.underlying72
  a53 := Try.isAgg72
  z53 := Try.sizeOf72
  v53 := Try.zeroValue72 }
theorem Try.bits_Len64 (x : Int) (w : World) (h0 : 0 ≤ x) (h1 : x ≤ 18446744073709551615) :
    Calls Try.prog 35 #[.int .u64 x] w fun e w' => e = .returned (.int .i64 (Lib.bitLen x.toNat)) ∧ w' = w := Any.bits_Len64 Try.lays129 x w h0 h1
def Try.lays190_ren : Go.Shelf.Ren := ⟨fun | 190 => 17 | 125 => 21 | 258 => 20 | 128 => 34 | 129 => 35 | 302 => 25 | 303 => 26 | 304 => 27 | 305 => 28 | 306 => 29 | 307 => 30 | 308 => 31 | 309 => 32 | 310 => 33 | 333 => 38 | 329 => 39 | 330 => 40 | 334 => 41 | 335 => 42 | 336 => 43 | 344 => 46 | n => n, fun | 31 => 43 | 9 => 9 | 3 => 3 | 46 => 51 | 0 => 0 | 51 => 30 | 53 => 72 | 4 => 4 | 183 => 63 | 182 => 62 | 131 => 68 | 5 => 5 | 218 => 74 | 222 => 78 | 228 => 84 | 229 => 85 | n => n, fun | n => n⟩
theorem Try.lays190 : Go.Proofs.Lays.n190 Try.prog Try.lays190_ren := {
  mixed := by kernel_rfl
  f125 := Try.func21.trans (congrArg some (by kernel_rfl))
  f128 := Try.func34.trans (congrArg some (by kernel_rfl))
  f129 := Try.func35.trans (congrArg some (by kernel_rfl))
  f190 := Try.func17.trans (congrArg some (by kernel_rfl))
  f258 := Try.func20.trans (congrArg some (by kernel_rfl))
  f302 := Try.func25.trans (congrArg some (by kernel_rfl))
  f303 := Try.func26.trans (congrArg some (by kernel_rfl))
  f304 := Try.func27.trans (congrArg some (by kernel_rfl))
  f305 := Try.func28.trans (congrArg some (by kernel_rfl))
  f306 := Try.func29.trans (congrArg some (by kernel_rfl))
  f307 := Try.func30.trans (congrArg some (by kernel_rfl))
  f308 := Try.func31.trans (congrArg some (by kernel_rfl))
  f309 := Try.func32.trans (congrArg some (by kernel_rfl))
  f310 := Try.func33.trans (congrArg some (by kernel_rfl))
  f329 := Try.func39.trans (congrArg some (by kernel_rfl))
  f330 := Try.func40.trans (congrArg some (by kernel_rfl))
  f333 := Try.func38.trans (congrArg some (by kernel_rfl))
  f334 := Try.func41.trans (congrArg some (by kernel_rfl))
  f335 := Try.func42.trans (congrArg some (by kernel_rfl))
  f336 := Try.func43.trans (congrArg some (by kernel_rfl))
  f344 := Try.func46.trans (congrArg some (by kernel_rfl))
  t0 := Try.underlying0
  a0 := Try.isAgg0
  z0 := Try.sizeOf0
  v0 := Try.zeroValue0
  t3 := Try.underlying3
  a3 := Try.isAgg3
  z3 := Try.sizeOf3
  v3 := Try.zeroValue3
  t4 := Try.underlying4
  a4 := Try.isAgg4
  z4 := Try.sizeOf4
  v4 := Try.zeroValue4
  t5 := Try.underlying5
  a5 := Try.isAgg5
  z5 := Try.sizeOf5
  v5 := Try.zeroValue5
  t9 := Try.underlying9
  a9 := Try.isAgg9
  z9 := Try.sizeOf9
  v9 := Try.zeroValue9
  t31 := Try.underlying43
  a31 := Try.isAgg43
  z31 := Try.sizeOf43
  v31 := Try.zeroValue43
  t46 := Try.underlying51
  a46 := Try.isAgg51
  z46 := Try.sizeOf51
  v46 := Try.zeroValue51
  t51 := Try.underlying30
  a51 := Try.isAgg30
  z51 := Try.sizeOf30
  v51 := Try.zeroValue30
  t53 := Try.underlying72
  a53 := Try.isAgg72
  z53 := Try.sizeOf72
  v53 := Try.zeroValue72
  t131 := Try.underlying68
  a131 := Try.isAgg68
  z131 := Try.sizeOf68
  v131 := Try.zeroValue68
  t182 := Try.underlying62
  a182 := Try.isAgg62
  z182 := Try.sizeOf62
  v182 := Try.zeroValue62
  t183 := Try.underlying63
  a183 := Try.isAgg63
  z183 := Try.sizeOf63
  v183 := Try.zeroValue63
  t218 := Try.underlying74
  a218 := Try.isAgg74
  z218 := Try.sizeOf74
  v218 := Try.zeroValue74
  t222 := Try.underlying78
  a222 := Try.isAgg78
  z222 := Try.sizeOf78
  v222 := Try.zeroValue78
  t228 := Try.underlying84
  a228 := Try.isAgg84
  z228 := Try.sizeOf84
  v228 := Try.zeroValue84
  t229 := Try.underlying85
  a229 := Try.isAgg85
  z229 := Try.sizeOf85
  v229 := Try.zeroValue85 }
open Go.Sort Go.RowKit in
theorem Try.slices_Sort_string (blk off cap : Nat) (ss : List (List UInt8)) (w : World) (hH : Holds encStr w blk off ss.toArray) (hblk : blk < w.heap.size) (hsz : ss.length < 4611686018427387904) :
    Calls Try.prog 17 #[.slice (some ⟨blk, off, none⟩) ss.length cap] w fun e w' =>
      e = .returned (.tuple #[]) ∧ ∃ n os, w' = grow (putRow encStr (Sort.ahead w n) blk off (ss.mergeSort fun x y => decide (x ≤ y)).toArray) os := Any.slices_Sort_string Try.lays190 blk off cap ss w hH hblk hsz
open Go.RowKit Go.Sort in
theorem Try.slices_Sort_string_none (p : Option Addr) (cap : Nat) (w : World) :
    Calls Try.prog 17 #[.slice p 0 cap] w fun e w' => e = .returned (.tuple #[]) ∧ w' = w := Any.slices_Sort_string_none Try.lays190 p cap w
end Go.Proofs
