
import Derived.Shelf.Strings.Builder1
import Derived.Shelf.Strings.Builder2
import Derived.Shelf.Strings.OnBuilder
import Derived.Shelf.Small.Bits
import Derived.Shelf.Strconv.Itoa0
import Derived.Shelf.Sort.Plain
import Derived.Shelf.Slices.In.SortNone
import Derived.Shelf.Slices.In.SortNone2
import Derived.Test.YbulkcxswFmtProg
namespace Go.Proofs
open Go.Shelf
def Ybaf.lays169_ren : Go.Shelf.Ren := ⟨fun | 169 => 21 | n => n, fun | 70 => 78 | 9 => 9 | 0 => 0 | 72 => 80 | 37 => 23 | 127 => 93 | 3 => 3 | 5 => 5 | n => n, fun | n => n⟩
theorem Ybaf.lays169 : Go.Proofs.Lays.n169 Ybaf.prog Ybaf.lays169_ren := {
  mixed := by kernel_rfl
  f169 := Ybaf.func21.trans (congrArg some (by kernel_rfl))
  t0 := Ybaf.underlying0
  a0 := Ybaf.isAgg0
  z0 := Ybaf.sizeOf0
  v0 := Ybaf.zeroValue0
  t3 := Ybaf.underlying3
  a3 := Ybaf.isAgg3
  z3 := Ybaf.sizeOf3
  v3 := Ybaf.zeroValue3
  t9 := Ybaf.underlying9
  a9 := Ybaf.isAgg9
  z9 := Ybaf.sizeOf9
  v9 := Ybaf.zeroValue9
  t37 := Ybaf.underlying23
  a37 := Ybaf.isAgg23
  z37 := Ybaf.sizeOf23
  v37 := Ybaf.zeroValue23
  t70 := Ybaf.underlying78
  a70 := Ybaf.isAgg78
  z70 := Ybaf.sizeOf78
  v70 := Ybaf.zeroValue78
  t72 := Ybaf.underlying80
  a72 := Ybaf.isAgg80
  z72 := Ybaf.sizeOf80
  v72 := Ybaf.zeroValue80
  t127 := Ybaf.underlying93
  a127 := Ybaf.isAgg93
  z127 := Ybaf.sizeOf93
  v127 := Ybaf.zeroValue93 }
theorem Ybaf.Builder_Extra_169 : Builder.Extra Ybaf.prog Ybaf.lays169_ren := {
  sizeBuilder := by kernel_rfl
  liesBuilder := by kernel_rfl
  t5 := Ybaf.underlying5
  a5 := Ybaf.isAgg5
  z5 := Ybaf.sizeOf5
  v5 := Ybaf.zeroValue5
  infoByte := by kernel_rfl
  cellsByte := by kernel_rfl
  sizeByte := by kernel_rfl
  neB5 := by decide }
open Go.RowKit in

theorem Ybaf.Builder_String (B b : Nat) (l : List UInt8) (w : World) (h : Lib.IsBuilder 80 5 B b (Lib.byteCells l) w) (h0 : l ≠ []) :
    Calls Ybaf.prog 21 #[.pointer (some ⟨b, 0, none⟩)] w fun e w' => e = .returned (.string ⟨l.toArray⟩) ∧ Below B w w' := Any.Builder_String Ybaf.lays169 Ybaf.Builder_Extra_169 B b l w h h0
open Go.RowKit in

theorem Ybaf.Builder_String_empty (B b : Nat) (w : World) (h : Lib.IsBuilder 80 5 B b [] w) (hBw : B ≤ w.heap.size) :
    Calls Ybaf.prog 21 #[.pointer (some ⟨b, 0, none⟩)] w fun e w' => e = .returned (.string ⟨#[]⟩) ∧ Below B w w' := Any.Builder_String_empty Ybaf.lays169 Ybaf.Builder_Extra_169 B b w h hBw
open Go.RowKit in

theorem Ybaf.Builder_String_any (B b : Nat) (l : List UInt8) (w : World) (h : Lib.IsBuilder 80 5 B b (Lib.byteCells l) w) (hBw : B ≤ w.heap.size) :
    Calls Ybaf.prog 21 #[.pointer (some ⟨b, 0, none⟩)] w fun e w' => e = .returned (.string ⟨l.toArray⟩) ∧ Below B w w' := Any.Builder_String_any Ybaf.lays169 Ybaf.Builder_Extra_169 B b l w h hBw
def Ybaf.lays241_ren : Go.Shelf.Ren := ⟨fun | 241 => 25 | 277 => 38 | n => n, fun | 70 => 78 | 3 => 3 | 0 => 0 | 72 => 80 | 37 => 23 | 5 => 5 | n => n, fun | n => n⟩
theorem Ybaf.lays241 : Go.Proofs.Lays.n241 Ybaf.prog Ybaf.lays241_ren := {
  mixed := by kernel_rfl
  f241 := Ybaf.func25.trans (congrArg some (by kernel_rfl))
  f277 := Ybaf.func38.trans (congrArg some (by kernel_rfl))
  t0 := Ybaf.underlying0
  a0 := Ybaf.isAgg0
  z0 := Ybaf.sizeOf0
  v0 := Ybaf.zeroValue0
  t3 := Ybaf.underlying3
  a3 := Ybaf.isAgg3
  z3 := Ybaf.sizeOf3
  v3 := Ybaf.zeroValue3
  t37 := Ybaf.underlying23
  a37 := Ybaf.isAgg23
  z37 := Ybaf.sizeOf23
  v37 := Ybaf.zeroValue23
  t70 := Ybaf.underlying78
  a70 := Ybaf.isAgg78
  z70 := Ybaf.sizeOf78
  v70 := Ybaf.zeroValue78
  t72 := Ybaf.underlying80
  a72 := Ybaf.isAgg80
  z72 := Ybaf.sizeOf80
  v72 := Ybaf.zeroValue80 }
theorem Ybaf.Builder_Extra_241 : Builder.Extra Ybaf.prog Ybaf.lays241_ren := {
  sizeBuilder := by kernel_rfl
  liesBuilder := by kernel_rfl
  t5 := Ybaf.underlying5
  a5 := Ybaf.isAgg5
  z5 := Ybaf.sizeOf5
  v5 := Ybaf.zeroValue5
  infoByte := by kernel_rfl
  cellsByte := by kernel_rfl
  sizeByte := by kernel_rfl
  neB5 := by decide }
open Go.RowKit in

theorem Ybaf.Builder_grow_fresh (B b n : Nat) (w : World) (hB : B ≤ b) (hbk : w.heap[b]? = some (.cells #[.pointer (some ⟨b, 0, none⟩), .slice none 0 0] 80 (0, 0))) (hBw : B ≤ w.heap.size) (hn : n ≤ 281474976710656) :
    Calls Ybaf.prog 25 #[.pointer (some ⟨b, 0, none⟩), .int .i64 n] w fun e w' => e = .returned (.tuple #[]) ∧ (Lib.BuilderAt 80 5 B b (.pointer (some ⟨b, 0, none⟩)) [] w' ∧ Below B w w') := Any.Builder_grow_fresh Ybaf.lays241 Ybaf.Builder_Extra_241 B b n w hB hbk hBw hn
def Ybaf.lays165_ren : Go.Shelf.Ren := ⟨fun | 165 => 19 | 240 => 24 | 241 => 25 | 276 => 37 | 277 => 38 | n => n, fun | 70 => 78 | 3 => 3 | 0 => 0 | 4 => 4 | 9 => 9 | 20 => 20 | 72 => 80 | 37 => 23 | 164 => 106 | 5 => 5 | n => n, fun | n => n⟩
theorem Ybaf.lays165 : Go.Proofs.Lays.n165 Ybaf.prog Ybaf.lays165_ren := {
  mixed := by kernel_rfl
  f165 := Ybaf.func19.trans (congrArg some (by kernel_rfl))
  f240 := Ybaf.func24.trans (congrArg some (by kernel_rfl))
  f241 := Ybaf.func25.trans (congrArg some (by kernel_rfl))
  f276 := Ybaf.func37.trans (congrArg some (by kernel_rfl))
  f277 := Ybaf.func38.trans (congrArg some (by kernel_rfl))
  t0 := Ybaf.underlying0
  a0 := Ybaf.isAgg0
  z0 := Ybaf.sizeOf0
  v0 := Ybaf.zeroValue0
  t3 := Ybaf.underlying3
  a3 := Ybaf.isAgg3
  z3 := Ybaf.sizeOf3
  v3 := Ybaf.zeroValue3
  t4 := Ybaf.underlying4
  a4 := Ybaf.isAgg4
  z4 := Ybaf.sizeOf4
  v4 := Ybaf.zeroValue4
  t9 := Ybaf.underlying9
  a9 := Ybaf.isAgg9
  z9 := Ybaf.sizeOf9
  v9 := Ybaf.zeroValue9
  t20 := Ybaf.underlying20
  a20 := Ybaf.isAgg20
  z20 := Ybaf.sizeOf20
  v20 := Ybaf.zeroValue20
  t37 := Ybaf.underlying23
  a37 := Ybaf.isAgg23
  z37 := Ybaf.sizeOf23
  v37 := Ybaf.zeroValue23
  t70 := Ybaf.underlying78
  a70 := Ybaf.isAgg78
  z70 := Ybaf.sizeOf78
  v70 := Ybaf.zeroValue78
  t72 := Ybaf.underlying80
  a72 := Ybaf.isAgg80
  z72 := Ybaf.sizeOf80
  v72 := Ybaf.zeroValue80
  t164 := Ybaf.underlying106
  a164 := Ybaf.isAgg106
  z164 := Ybaf.sizeOf106
  v164 := Ybaf.zeroValue106 }
theorem Ybaf.Builder_Extra_165 : Builder.Extra Ybaf.prog Ybaf.lays165_ren := {
  sizeBuilder := by kernel_rfl
  liesBuilder := by kernel_rfl
  t5 := Ybaf.underlying5
  a5 := Ybaf.isAgg5
  z5 := Ybaf.sizeOf5
  v5 := Ybaf.zeroValue5
  infoByte := by kernel_rfl
  cellsByte := by kernel_rfl
  sizeByte := by kernel_rfl
  neB5 := by decide }
open Go.RowKit in

theorem Ybaf.Builder_Grow_fresh (B b n : Nat) (w : World) (hB : B ≤ b) (hbk : w.heap[b]? = some (.cells #[.pointer none, .slice none 0 0] 80 (0, 0))) (hBw : B ≤ w.heap.size) (hn : n ≤ 281474976710656) :
    Calls Ybaf.prog 19 #[.pointer (some ⟨b, 0, none⟩), .int .i64 n] w fun e w' => e = .returned (.tuple #[]) ∧ (Lib.BuilderAt 80 5 B b (.pointer (some ⟨b, 0, none⟩)) [] w' ∧ Below B w w') := Any.Builder_Grow_fresh Ybaf.lays165 Ybaf.Builder_Extra_165 B b n w hB hbk hBw hn
def Ybaf.lays156_ren : Go.Shelf.Ren := ⟨fun | 156 => 14 | 165 => 19 | 166 => 20 | 169 => 21 | 240 => 24 | 241 => 25 | 276 => 37 | 277 => 38 | n => n, fun | 31 => 34 | 9 => 9 | 3 => 3 | 4 => 4 | 0 => 0 | 20 => 20 | 72 => 80 | 76 => 82 | 70 => 78 | 37 => 23 | 75 => 42 | 127 => 93 | 164 => 106 | 5 => 5 | 80 => 84 | n => n, fun | n => n⟩
theorem Ybaf.lays156 : Go.Proofs.Lays.n156 Ybaf.prog Ybaf.lays156_ren := {
  mixed := by kernel_rfl
  f156 := Ybaf.func14.trans (congrArg some (by kernel_rfl))
  f165 := Ybaf.func19.trans (congrArg some (by kernel_rfl))
  f166 := Ybaf.func20.trans (congrArg some (by kernel_rfl))
  f169 := Ybaf.func21.trans (congrArg some (by kernel_rfl))
  f240 := Ybaf.func24.trans (congrArg some (by kernel_rfl))
  f241 := Ybaf.func25.trans (congrArg some (by kernel_rfl))
  f276 := Ybaf.func37.trans (congrArg some (by kernel_rfl))
  f277 := Ybaf.func38.trans (congrArg some (by kernel_rfl))
  t0 := Ybaf.underlying0
  a0 := Ybaf.isAgg0
  z0 := Ybaf.sizeOf0
  v0 := Ybaf.zeroValue0
  t3 := Ybaf.underlying3
  a3 := Ybaf.isAgg3
  z3 := Ybaf.sizeOf3
  v3 := Ybaf.zeroValue3
  t4 := Ybaf.underlying4
  a4 := Ybaf.isAgg4
  z4 := Ybaf.sizeOf4
  v4 := Ybaf.zeroValue4
  t9 := Ybaf.underlying9
  a9 := Ybaf.isAgg9
  z9 := Ybaf.sizeOf9
  v9 := Ybaf.zeroValue9
  t20 := Ybaf.underlying20
  a20 := Ybaf.isAgg20
  z20 := Ybaf.sizeOf20
  v20 := Ybaf.zeroValue20
  t31 := Ybaf.underlying34
  a31 := Ybaf.isAgg34
  z31 := Ybaf.sizeOf34
  v31 := Ybaf.zeroValue34
  t37 := Ybaf.underlying23
  a37 := Ybaf.isAgg23
  z37 := Ybaf.sizeOf23
  v37 := Ybaf.zeroValue23
  t70 := Ybaf.underlying78
  a70 := Ybaf.isAgg78
  z70 := Ybaf.sizeOf78
  v70 := Ybaf.zeroValue78
  t72 := Ybaf.underlying80
  a72 := Ybaf.isAgg80
  z72 := Ybaf.sizeOf80
  v72 := Ybaf.zeroValue80
  t75 := Ybaf.underlying42
  a75 := Ybaf.isAgg42
  z75 := Ybaf.sizeOf42
  v75 := Ybaf.zeroValue42
  t76 := Ybaf.underlying82
  a76 := Ybaf.isAgg82
  z76 := Ybaf.sizeOf82
  v76 := Ybaf.zeroValue82
  t127 := Ybaf.underlying93
  a127 := Ybaf.isAgg93
  z127 := Ybaf.sizeOf93
  v127 := Ybaf.zeroValue93
  t164 := Ybaf.underlying106
  a164 := Ybaf.isAgg106
  z164 := Ybaf.sizeOf106
  v164 := Ybaf.zeroValue106 }
theorem Ybaf.Builder_Extra_156 : Builder.Extra Ybaf.prog Ybaf.lays156_ren := {
  sizeBuilder := by kernel_rfl
  liesBuilder := by kernel_rfl
  t5 := Ybaf.underlying5
  a5 := Ybaf.isAgg5
  z5 := Ybaf.sizeOf5
  v5 := Ybaf.zeroValue5
  infoByte := by kernel_rfl
  cellsByte := by kernel_rfl
  sizeByte := by kernel_rfl
  neB5 := by decide }
open Go.RowKit in

theorem Ybaf.strings_Join_none (a : Option Addr) (c : Nat) (sep : ByteArray) (w : World) :
    Calls Ybaf.prog 14 #[.slice a 0 c, .string sep] w fun e w' => e = .returned (.string ⟨#[]⟩) ∧ w' = w := Any.strings_Join_none Ybaf.lays156 Ybaf.Builder_Extra_156 a c sep w
open Go.RowKit in

theorem Ybaf.strings_Join (bk o c : Nat) (xs : List ByteArray) (sep : ByteArray) (w : World) (hcells : ∀ (j : Nat) x, xs[j]? = some x → w.cell? ⟨bk, o + j, none⟩ = some (.string x)) (hbk : bk < w.heap.size) (hN : xs.length ≤ 140737488355328) (hcap : xs.length ≤ c) (hlen : (Lib.join (xs.map (·.data.toList)) sep.data.toList).length ≤ 140737488355328) :
    Calls Ybaf.prog 14 #[.slice (some ⟨bk, o, none⟩) xs.length c, .string sep] w fun e w' => e = .returned (.string ⟨(Lib.join (xs.map (·.data.toList)) sep.data.toList).toArray⟩) ∧ Below w.heap.size w w' := Any.strings_Join Ybaf.lays156 Ybaf.Builder_Extra_156 bk o c xs sep w hcells hbk hN hcap hlen
def Ybaf.lays128_ren : Go.Shelf.Ren := ⟨fun | 128 => 35 | n => n, fun | 51 => 103 | 3 => 3 | 4 => 4 | 46 => 89 | 5 => 5 | 9 => 9 | n => n, fun | n => n⟩
theorem Ybaf.lays128 : Go.Proofs.Lays.n128 Ybaf.prog Ybaf.lays128_ren := {
  mixed := by kernel_rfl
  f128 := Ybaf.func35.trans (congrArg some (by kernel_rfl))
  t3 := Ybaf.underlying3
  a3 := Ybaf.isAgg3
  z3 := Ybaf.sizeOf3
  v3 := Ybaf.zeroValue3
  t4 := Ybaf.underlying4
  a4 := Ybaf.isAgg4
  z4 := Ybaf.sizeOf4
  v4 := Ybaf.zeroValue4
  t5 := Ybaf.underlying5
  a5 := Ybaf.isAgg5
  z5 := Ybaf.sizeOf5
  v5 := Ybaf.zeroValue5
  t9 := Ybaf.underlying9
  a9 := Ybaf.isAgg9
  z9 := Ybaf.sizeOf9
  v9 := Ybaf.zeroValue9
  t46 := Ybaf.underlying89
  a46 := Ybaf.isAgg89
  z46 := Ybaf.sizeOf89
  v46 := Ybaf.zeroValue89
  t51 := Ybaf.underlying103
  a51 := Ybaf.isAgg103
  z51 := Ybaf.sizeOf103
  v51 := Ybaf.zeroValue103 }

theorem Ybaf.bits_Len32 (x : Int) (w : World) (h0 : 0 ≤ x) (h1 : x ≤ 4294967295) :
    Calls Ybaf.prog 35 #[.int .u32 x] w fun e w' => e = .returned (.int .i64 (Lib.bitLen x.toNat)) ∧ w' = w := Any.bits_Len32 Ybaf.lays128 x w h0 h1
def Ybaf.lays125_ren : Go.Shelf.Ren := ⟨fun | 125 => 23 | 128 => 35 | 129 => 36 | n => n, fun | 46 => 89 | 3 => 3 | 51 => 103 | 53 => 105 | 4 => 4 | 5 => 5 | 9 => 9 | n => n, fun | n => n⟩
theorem Ybaf.lays125 : Go.Proofs.Lays.n125 Ybaf.prog Ybaf.lays125_ren := {
  mixed := by kernel_rfl
  f125 := Ybaf.func23.trans (congrArg some (by kernel_rfl))
  f128 := Ybaf.func35.trans (congrArg some (by kernel_rfl))
  f129 := Ybaf.func36.trans (congrArg some (by kernel_rfl))
  t3 := Ybaf.underlying3
  a3 := Ybaf.isAgg3
  z3 := Ybaf.sizeOf3
  v3 := Ybaf.zeroValue3
  t4 := Ybaf.underlying4
  a4 := Ybaf.isAgg4
  z4 := Ybaf.sizeOf4
  v4 := Ybaf.zeroValue4
  t5 := Ybaf.underlying5
  a5 := Ybaf.isAgg5
  z5 := Ybaf.sizeOf5
  v5 := Ybaf.zeroValue5
  t9 := Ybaf.underlying9
  a9 := Ybaf.isAgg9
  z9 := Ybaf.sizeOf9
  v9 := Ybaf.zeroValue9
  t46 := Ybaf.underlying89
  a46 := Ybaf.isAgg89
  z46 := Ybaf.sizeOf89
  v46 := Ybaf.zeroValue89
  t51 := Ybaf.underlying103
  a51 := Ybaf.isAgg103
  z51 := Ybaf.sizeOf103
  v51 := Ybaf.zeroValue103
  t53 := Ybaf.underlying105
  a53 := Ybaf.isAgg105
  z53 := Ybaf.sizeOf105
  v53 := Ybaf.zeroValue105 }

theorem Ybaf.bits_Len (x : Int) (w : World) (h0 : 0 ≤ x) (h1 : x ≤ 18446744073709551615) :
    Calls Ybaf.prog 23 #[.int .u64 x] w fun e w' => e = .returned (.int .i64 (Lib.bitLen x.toNat)) ∧ w' = w := Any.bits_Len Ybaf.lays125 x w h0 h1
def Ybaf.lays129_ren : Go.Shelf.Ren := ⟨fun | 129 => 36 | n => n, fun | 53 => 105 | 3 => 3 | 4 => 4 | 46 => 89 | 5 => 5 | 9 => 9 | n => n, fun | n => n⟩
theorem Ybaf.lays129 : Go.Proofs.Lays.n129 Ybaf.prog Ybaf.lays129_ren := {
  mixed := by kernel_rfl
  f129 := Ybaf.func36.trans (congrArg some (by kernel_rfl))
  t3 := Ybaf.underlying3
  a3 := Ybaf.isAgg3
  z3 := Ybaf.sizeOf3
  v3 := Ybaf.zeroValue3
  t4 := Ybaf.underlying4
  a4 := Ybaf.isAgg4
  z4 := Ybaf.sizeOf4
  v4 := Ybaf.zeroValue4
  t5 := Ybaf.underlying5
  a5 := Ybaf.isAgg5
  z5 := Ybaf.sizeOf5
  v5 := Ybaf.zeroValue5
  t9 := Ybaf.underlying9
  a9 := Ybaf.isAgg9
  z9 := Ybaf.sizeOf9
  v9 := Ybaf.zeroValue9
  t46 := Ybaf.underlying89
  a46 := Ybaf.isAgg89
  z46 := Ybaf.sizeOf89
  v46 := Ybaf.zeroValue89
  t53 := Ybaf.underlying105
  a53 := Ybaf.isAgg105
  z53 := Ybaf.sizeOf105
  v53 := Ybaf.zeroValue105 }

theorem Ybaf.bits_Len64 (x : Int) (w : World) (h0 : 0 ≤ x) (h1 : x ≤ 18446744073709551615) :
    Calls Ybaf.prog 36 #[.int .u64 x] w fun e w' => e = .returned (.int .i64 (Lib.bitLen x.toNat)) ∧ w' = w := Any.bits_Len64 Ybaf.lays129 x w h0 h1
def Ybaf.lays190_ren : Go.Shelf.Ren := ⟨fun | 190 => 16 | 125 => 23 | 258 => 22 | 128 => 35 | 129 => 36 | 302 => 26 | 303 => 27 | 304 => 28 | 305 => 29 | 306 => 30 | 307 => 31 | 308 => 32 | 309 => 33 | 310 => 34 | 333 => 39 | 329 => 40 | 330 => 41 | 334 => 42 | 335 => 43 | 336 => 44 | 344 => 45 | n => n, fun | 31 => 34 | 9 => 9 | 3 => 3 | 46 => 89 | 0 => 0 | 51 => 103 | 53 => 105 | 4 => 4 | 183 => 96 | 182 => 95 | 131 => 86 | 5 => 5 | 218 => 109 | 222 => 113 | 228 => 116 | 229 => 117 | n => n, fun | n => n⟩
theorem Ybaf.lays190 : Go.Proofs.Lays.n190 Ybaf.prog Ybaf.lays190_ren := {
  mixed := by kernel_rfl
  f125 := Ybaf.func23.trans (congrArg some (by kernel_rfl))
  f128 := Ybaf.func35.trans (congrArg some (by kernel_rfl))
  f129 := Ybaf.func36.trans (congrArg some (by kernel_rfl))
  f190 := Ybaf.func16.trans (congrArg some (by kernel_rfl))
  f258 := Ybaf.func22.trans (congrArg some (by kernel_rfl))
  f302 := Ybaf.func26.trans (congrArg some (by kernel_rfl))
  f303 := Ybaf.func27.trans (congrArg some (by kernel_rfl))
  f304 := Ybaf.func28.trans (congrArg some (by kernel_rfl))
  f305 := Ybaf.func29.trans (congrArg some (by kernel_rfl))
  f306 := Ybaf.func30.trans (congrArg some (by kernel_rfl))
  f307 := Ybaf.func31.trans (congrArg some (by kernel_rfl))
  f308 := Ybaf.func32.trans (congrArg some (by kernel_rfl))
  f309 := Ybaf.func33.trans (congrArg some (by kernel_rfl))
  f310 := Ybaf.func34.trans (congrArg some (by kernel_rfl))
  f329 := Ybaf.func40.trans (congrArg some (by kernel_rfl))
  f330 := Ybaf.func41.trans (congrArg some (by kernel_rfl))
  f333 := Ybaf.func39.trans (congrArg some (by kernel_rfl))
  f334 := Ybaf.func42.trans (congrArg some (by kernel_rfl))
  f335 := Ybaf.func43.trans (congrArg some (by kernel_rfl))
  f336 := Ybaf.func44.trans (congrArg some (by kernel_rfl))
  f344 := Ybaf.func45.trans (congrArg some (by kernel_rfl))
  t0 := Ybaf.underlying0
  a0 := Ybaf.isAgg0
  z0 := Ybaf.sizeOf0
  v0 := Ybaf.zeroValue0
  t3 := Ybaf.underlying3
  a3 := Ybaf.isAgg3
  z3 := Ybaf.sizeOf3
  v3 := Ybaf.zeroValue3
  t4 := Ybaf.underlying4
  a4 := Ybaf.isAgg4
  z4 := Ybaf.sizeOf4
  v4 := Ybaf.zeroValue4
  t5 := Ybaf.underlying5
  a5 := Ybaf.isAgg5
  z5 := Ybaf.sizeOf5
  v5 := Ybaf.zeroValue5
  t9 := Ybaf.underlying9
  a9 := Ybaf.isAgg9
  z9 := Ybaf.sizeOf9
  v9 := Ybaf.zeroValue9
  t31 := Ybaf.underlying34
  a31 := Ybaf.isAgg34
  z31 := Ybaf.sizeOf34
  v31 := Ybaf.zeroValue34
  t46 := Ybaf.underlying89
  a46 := Ybaf.isAgg89
  z46 := Ybaf.sizeOf89
  v46 := Ybaf.zeroValue89
  t51 := Ybaf.underlying103
  a51 := Ybaf.isAgg103
  z51 := Ybaf.sizeOf103
  v51 := Ybaf.zeroValue103
  t53 := Ybaf.underlying105
  a53 := Ybaf.isAgg105
  z53 := Ybaf.sizeOf105
  v53 := Ybaf.zeroValue105
  t131 := Ybaf.underlying86
  a131 := Ybaf.isAgg86
  z131 := Ybaf.sizeOf86
  v131 := Ybaf.zeroValue86
  t182 := Ybaf.underlying95
  a182 := Ybaf.isAgg95
  z182 := Ybaf.sizeOf95
  v182 := Ybaf.zeroValue95
  t183 := Ybaf.underlying96
  a183 := Ybaf.isAgg96
  z183 := Ybaf.sizeOf96
  v183 := Ybaf.zeroValue96
  t218 := Ybaf.underlying109
  a218 := Ybaf.isAgg109
  z218 := Ybaf.sizeOf109
  v218 := Ybaf.zeroValue109
  t222 := Ybaf.underlying113
  a222 := Ybaf.isAgg113
  z222 := Ybaf.sizeOf113
  v222 := Ybaf.zeroValue113
  t228 := Ybaf.underlying116
  a228 := Ybaf.isAgg116
  z228 := Ybaf.sizeOf116
  v228 := Ybaf.zeroValue116
  t229 := Ybaf.underlying117
  a229 := Ybaf.isAgg117
  z229 := Ybaf.sizeOf117
  v229 := Ybaf.zeroValue117 }
open Go.Sort Go.RowKit in
theorem Ybaf.slices_Sort_string (blk off cap : Nat) (ss : List (List UInt8)) (w : World) (hH : Holds encStr w blk off ss.toArray) (hblk : blk < w.heap.size) (hsz : ss.length < 4611686018427387904) :
    Calls Ybaf.prog 16 #[.slice (some ⟨blk, off, none⟩) ss.length cap] w fun e w' =>
      e = .returned (.tuple #[]) ∧ ∃ n os, w' = grow (putRow encStr (Sort.ahead w n) blk off (ss.mergeSort fun x y => decide (x ≤ y)).toArray) os := Any.slices_Sort_string Ybaf.lays190 blk off cap ss w hH hblk hsz
def Ybaf.lays192_ren : Go.Shelf.Ren := ⟨fun | 192 => 11 | 190 => 16 | 125 => 23 | 258 => 22 | 128 => 35 | 129 => 36 | 302 => 26 | 303 => 27 | 304 => 28 | 305 => 29 | 306 => 30 | 307 => 31 | 308 => 32 | 309 => 33 | 310 => 34 | 333 => 39 | 329 => 40 | 330 => 41 | 334 => 42 | 335 => 43 | 336 => 44 | 344 => 45 | n => n, fun | 31 => 34 | 0 => 0 | 9 => 9 | 3 => 3 | 46 => 89 | 51 => 103 | 53 => 105 | 4 => 4 | 183 => 96 | 182 => 95 | 131 => 86 | 5 => 5 | 218 => 109 | 222 => 113 | 228 => 116 | 229 => 117 | n => n, fun | n => n⟩
theorem Ybaf.lays192 : Go.Proofs.Lays.n192 Ybaf.prog Ybaf.lays192_ren := {
  mixed := by kernel_rfl
  f125 := Ybaf.func23.trans (congrArg some (by kernel_rfl))
  f128 := Ybaf.func35.trans (congrArg some (by kernel_rfl))
  f129 := Ybaf.func36.trans (congrArg some (by kernel_rfl))
  f190 := Ybaf.func16.trans (congrArg some (by kernel_rfl))
  f192 := Ybaf.func11.trans (congrArg some (by kernel_rfl))
  f258 := Ybaf.func22.trans (congrArg some (by kernel_rfl))
  f302 := Ybaf.func26.trans (congrArg some (by kernel_rfl))
  f303 := Ybaf.func27.trans (congrArg some (by kernel_rfl))
  f304 := Ybaf.func28.trans (congrArg some (by kernel_rfl))
  f305 := Ybaf.func29.trans (congrArg some (by kernel_rfl))
  f306 := Ybaf.func30.trans (congrArg some (by kernel_rfl))
  f307 := Ybaf.func31.trans (congrArg some (by kernel_rfl))
  f308 := Ybaf.func32.trans (congrArg some (by kernel_rfl))
  f309 := Ybaf.func33.trans (congrArg some (by kernel_rfl))
  f310 := Ybaf.func34.trans (congrArg some (by kernel_rfl))
  f329 := Ybaf.func40.trans (congrArg some (by kernel_rfl))
  f330 := Ybaf.func41.trans (congrArg some (by kernel_rfl))
  f333 := Ybaf.func39.trans (congrArg some (by kernel_rfl))
  f334 := Ybaf.func42.trans (congrArg some (by kernel_rfl))
  f335 := Ybaf.func43.trans (congrArg some (by kernel_rfl))
  f336 := Ybaf.func44.trans (congrArg some (by kernel_rfl))
  f344 := Ybaf.func45.trans (congrArg some (by kernel_rfl))
  t0 := Ybaf.underlying0
  a0 := Ybaf.isAgg0
  z0 := Ybaf.sizeOf0
  v0 := Ybaf.zeroValue0
  t3 := Ybaf.underlying3
  a3 := Ybaf.isAgg3
  z3 := Ybaf.sizeOf3
  v3 := Ybaf.zeroValue3
  t4 := Ybaf.underlying4
  a4 := Ybaf.isAgg4
  z4 := Ybaf.sizeOf4
  v4 := Ybaf.zeroValue4
  t5 := Ybaf.underlying5
  a5 := Ybaf.isAgg5
  z5 := Ybaf.sizeOf5
  v5 := Ybaf.zeroValue5
  t9 := Ybaf.underlying9
  a9 := Ybaf.isAgg9
  z9 := Ybaf.sizeOf9
  v9 := Ybaf.zeroValue9
  t31 := Ybaf.underlying34
  a31 := Ybaf.isAgg34
  z31 := Ybaf.sizeOf34
  v31 := Ybaf.zeroValue34
  t46 := Ybaf.underlying89
  a46 := Ybaf.isAgg89
  z46 := Ybaf.sizeOf89
  v46 := Ybaf.zeroValue89
  t51 := Ybaf.underlying103
  a51 := Ybaf.isAgg103
  z51 := Ybaf.sizeOf103
  v51 := Ybaf.zeroValue103
  t53 := Ybaf.underlying105
  a53 := Ybaf.isAgg105
  z53 := Ybaf.sizeOf105
  v53 := Ybaf.zeroValue105
  t131 := Ybaf.underlying86
  a131 := Ybaf.isAgg86
  z131 := Ybaf.sizeOf86
  v131 := Ybaf.zeroValue86
  t182 := Ybaf.underlying95
  a182 := Ybaf.isAgg95
  z182 := Ybaf.sizeOf95
  v182 := Ybaf.zeroValue95
  t183 := Ybaf.underlying96
  a183 := Ybaf.isAgg96
  z183 := Ybaf.sizeOf96
  v183 := Ybaf.zeroValue96
  t218 := Ybaf.underlying109
  a218 := Ybaf.isAgg109
  z218 := Ybaf.sizeOf109
  v218 := Ybaf.zeroValue109
  t222 := Ybaf.underlying113
  a222 := Ybaf.isAgg113
  z222 := Ybaf.sizeOf113
  v222 := Ybaf.zeroValue113
  t228 := Ybaf.underlying116
  a228 := Ybaf.isAgg116
  z228 := Ybaf.sizeOf116
  v228 := Ybaf.zeroValue116
  t229 := Ybaf.underlying117
  a229 := Ybaf.isAgg117
  z229 := Ybaf.sizeOf117
  v229 := Ybaf.zeroValue117 }
open Go.Sort Go.RowKit in
theorem Ybaf.sort_Strings (blk off cap : Nat) (ss : List (List UInt8)) (w : World) (hH : Holds encStr w blk off ss.toArray) (hblk : blk < w.heap.size) (hsz : ss.length < 4611686018427387904) :
    Calls Ybaf.prog 11 #[.slice (some ⟨blk, off, none⟩) ss.length cap] w fun e w' =>
      e = .returned (.tuple #[]) ∧ ∃ n os, w' = grow (putRow encStr (Sort.ahead w n) blk off (ss.mergeSort fun x y => decide (x ≤ y)).toArray) os := Any.sort_Strings Ybaf.lays192 blk off cap ss w hH hblk hsz
open Go.RowKit Go.Sort in

theorem Ybaf.slices_Sort_string_none (p : Option Addr) (cap : Nat) (w : World) :
    Calls Ybaf.prog 16 #[.slice p 0 cap] w fun e w' => e = .returned (.tuple #[]) ∧ w' = w := Any.slices_Sort_string_none Ybaf.lays190 p cap w
open Go.RowKit Go.Sort in

theorem Ybaf.sort_Strings_none (p : Option Addr) (cap : Nat) (w : World) :
    Calls Ybaf.prog 11 #[.slice p 0 cap] w fun e w' => e = .returned (.tuple #[]) ∧ w' = w := Any.sort_Strings_none Ybaf.lays192 p cap w
end Go.Proofs
