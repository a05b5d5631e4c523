/-
  DERIVED: THE SHELF's CONTRACTS AT THIS DUMP, IN PLAIN WORDS (tools/lay-plain.mjs out of 'TryzShelf.lean', which tools/lay-shelf.mjs wrote): THE SAME DECLARATIONS UNDER THE SAME NAMES: 'import', 'namespace', 'open', 'def', 'theorem' AND NOTHING ELSE: no command of the shelf's: FOR A HAND-IN. Each laying: the table of numbers ('.._ren') and one theorem, a field a fact of the dump's own or the kernel's comparison; each contract: ONE APPLICATION.
-/
import Derived.Shelf.Strings.Builder1
import Derived.Shelf.Strings.Builder2
import Derived.Shelf.Small.Bits
import Derived.Shelf.Small.Wraps
import Derived.Shelf.Strings.BuilderF
import Derived.Shelf.Strings.BuilderK
import Derived.Shelf.Strings.Builder2Cap
import Derived.Shelf.Strconv.Itoa0
import Derived.Shelf.LaysM
import Derived.Shelf.Bytes.Len
import Derived.Shelf.Bytes.TryGrow
import Derived.Shelf.Bytes.GrowSliceCatch
import Derived.Shelf.Bytes.GrowSlice
import Derived.Shelf.Bytes.String
import Derived.Ground.MnProg
import Derived.Shelf.Bin.LEUint32
import Derived.Shelf.Bin.LEPutUint32
import Derived.Shelf.Bin.LEUint64
import Derived.Shelf.Bin.LEPutUint64
import Derived.Shelf.Bin.PutUvarint
import Derived.Shelf.Sort.Plain
import Derived.Ground.GgsProg
import Derived.Shelf.GgSortFunc.Insertion
import Derived.Shelf.Bin.ReadersZ
import Derived.Shelf.GgSortFunc.Small
import Derived.Shelf.Bytes.GrowRow0Own
import Derived.Shelf.GgSortFunc.InsertionK
import Derived.Shelf.Bytes.GrowRowOwn
import Derived.Shelf.GgSortFunc.SmallK
import Derived.Shelf.Bytes.GrowNilOwn
import Derived.Shelf.GgSortFunc.Tiny
import Derived.Shelf.Bytes.GrowOwn
import Derived.Shelf.GgSortFunc.Compose
import Derived.Shelf.Bytes.WriteAny
import Derived.Shelf.GgSortFunc.LotD
import Derived.Shelf.GgSortFunc.Pivot
import Derived.Shelf.GgSortFunc.Partition
import Derived.Shelf.GgSortFunc.Pdq
import Derived.Shelf.GgSortFunc.Whole
import Derived.Ground.GgtProg
import Derived.Shelf.GgSortMore.Stable
import Derived.Shelf.Bytes.StringAt
import Derived.Shelf.Strings.BuilderCap
import Derived.Shelf.Slices.In.SortNone
import Derived.Shelf.Slices.In.SortNone2
import Derived.Shelf.SlSortFunc.Xorshift
import Derived.Shelf.SlSortFuncK.ComposeK
import Derived.Shelf.SlSortFunc.SiftDown
import Derived.Shelf.SlSortFunc.HeapSort
import Derived.Shelf.SlSortFunc.PartialInsertion
import Derived.Shelf.Bytes.SlEqualAll
import Derived.Shelf.Bytes.Small
import Derived.Test.YtobdjcnojbnegaaGreatDoorProg
namespace Go.Proofs
open Go.Shelf
def Tryz.lays170_ren : Go.Shelf.Ren := ⟨fun | 170 => 281 | n => n, fun | 70 => 174 | 3 => 3 | 0 => 0 | 72 => 176 | 37 => 65 | 5 => 5 | n => n, fun | n => n⟩
theorem Tryz.lays170 : Go.Proofs.Lays.n170 Tryz.prog Tryz.lays170_ren := {
  mixed := by kernel_rfl
  f170 := Tryz.func281.trans (congrArg some (by kernel_rfl))
  t0 := Tryz.underlying0
  a0 := Tryz.isAgg0
  z0 := Tryz.sizeOf0
  v0 := Tryz.zeroValue0
  t3 := Tryz.underlying3
  a3 := Tryz.isAgg3
  z3 := Tryz.sizeOf3
  v3 := Tryz.zeroValue3
  t37 := Tryz.underlying65
  a37 := Tryz.isAgg65
  z37 := Tryz.sizeOf65
  v37 := Tryz.zeroValue65
  t70 := Tryz.underlying174
  a70 := Tryz.isAgg174
  z70 := Tryz.sizeOf174
  v70 := Tryz.zeroValue174
  t72 := Tryz.underlying176
  a72 := Tryz.isAgg176
  z72 := Tryz.sizeOf176
  v72 := Tryz.zeroValue176 }
open Go.RowKit in
/-- (*strings.Builder).Len: "Len returns the number of accumulated bytes; b.Len() == len(b.String()).": the world is as it was. (LAID: no walk: one application.) -/
theorem Tryz.Builder_Len (B b : Nat) (bs : List Value) (w : World) (h : Lib.IsBuilder 176 5 B b bs w) :
    Calls Tryz.prog 281 #[.pointer (some ⟨b, 0, none⟩)] w fun e w' => e = .returned (.int .i64 bs.length) ∧ w' = w := Any.Builder_Len Tryz.lays170 B b bs w h
def Tryz.lays169_ren : Go.Shelf.Ren := ⟨fun | 169 => 98 | n => n, fun | 70 => 174 | 9 => 9 | 0 => 0 | 72 => 176 | 37 => 65 | 127 => 217 | 3 => 3 | 5 => 5 | n => n, fun | n => n⟩
theorem Tryz.lays169 : Go.Proofs.Lays.n169 Tryz.prog Tryz.lays169_ren := {
  mixed := by kernel_rfl
  f169 := Tryz.func98.trans (congrArg some (by kernel_rfl))
  t0 := Tryz.underlying0
  a0 := Tryz.isAgg0
  z0 := Tryz.sizeOf0
  v0 := Tryz.zeroValue0
  t3 := Tryz.underlying3
  a3 := Tryz.isAgg3
  z3 := Tryz.sizeOf3
  v3 := Tryz.zeroValue3
  t9 := Tryz.underlying9
  a9 := Tryz.isAgg9
  z9 := Tryz.sizeOf9
  v9 := Tryz.zeroValue9
  t37 := Tryz.underlying65
  a37 := Tryz.isAgg65
  z37 := Tryz.sizeOf65
  v37 := Tryz.zeroValue65
  t70 := Tryz.underlying174
  a70 := Tryz.isAgg174
  z70 := Tryz.sizeOf174
  v70 := Tryz.zeroValue174
  t72 := Tryz.underlying176
  a72 := Tryz.isAgg176
  z72 := Tryz.sizeOf176
  v72 := Tryz.zeroValue176
  t127 := Tryz.underlying217
  a127 := Tryz.isAgg217
  z127 := Tryz.sizeOf217
  v127 := Tryz.zeroValue217 }
theorem Tryz.Builder_Extra_169 : Builder.Extra Tryz.prog Tryz.lays169_ren := {
  sizeBuilder := by kernel_rfl
  liesBuilder := by kernel_rfl
  t5 := Tryz.underlying5
  a5 := Tryz.isAgg5
  z5 := Tryz.sizeOf5
  v5 := Tryz.zeroValue5
  infoByte := by kernel_rfl
  cellsByte := by kernel_rfl
  sizeByte := by kernel_rfl
  neB5 := by decide }
open Go.RowKit in
/-- (*strings.Builder).String: "String returns the accumulated string.": OF A BUILDER THAT HOLDS AT LEAST ONE BYTE. ✋ THE MODEL FREEZES THOSE BYTES IN THE BUFFER (unsafe.String): a later write INTO them ends the model's run without an answer; a later append BEHIND them goes on. The statement's order of evaluation is drawn: one draw. (LAID: no walk: one application.) -/
theorem Tryz.Builder_String (B b : Nat) (l : List UInt8) (w : World) (h : Lib.IsBuilder 176 5 B b (Lib.byteCells l) w) (h0 : l ≠ []) :
    Calls Tryz.prog 98 #[.pointer (some ⟨b, 0, none⟩)] w fun e w' => e = .returned (.string ⟨l.toArray⟩) ∧ Below B w w' := Any.Builder_String Tryz.lays169 Tryz.Builder_Extra_169 B b l w h h0
open Go.RowKit in
/-- (*strings.Builder).String OF A BUILDER THAT HOLDS NO BYTE: the empty string. (Its buffer is nil, or a row of which it has taken nothing yet; where that row has NO capacity the model lays one new block for unsafe.SliceData's 'some address'.) One draw. (LAID: no walk: one application.) -/
theorem Tryz.Builder_String_empty (B b : Nat) (w : World) (h : Lib.IsBuilder 176 5 B b [] w) (hBw : B ≤ w.heap.size) :
    Calls Tryz.prog 98 #[.pointer (some ⟨b, 0, none⟩)] w fun e w' => e = .returned (.string ⟨#[]⟩) ∧ Below B w w' := Any.Builder_String_empty Tryz.lays169 Tryz.Builder_Extra_169 B b w h hBw
open Go.RowKit in
/-- (*strings.Builder).String: "String returns the accumulated string.": WHATEVER THE BUILDER HOLDS. (LAID: no walk: one application.) -/
theorem Tryz.Builder_String_any (B b : Nat) (l : List UInt8) (w : World) (h : Lib.IsBuilder 176 5 B b (Lib.byteCells l) w) (hBw : B ≤ w.heap.size) :
    Calls Tryz.prog 98 #[.pointer (some ⟨b, 0, none⟩)] w fun e w' => e = .returned (.string ⟨l.toArray⟩) ∧ Below B w w' := Any.Builder_String_any Tryz.lays169 Tryz.Builder_Extra_169 B b l w h hBw
def Tryz.lays241_ren : Go.Shelf.Ren := ⟨fun | 241 => 115 | 277 => 125 | n => n, fun | 70 => 174 | 3 => 3 | 0 => 0 | 72 => 176 | 37 => 65 | 5 => 5 | n => n, fun | n => n⟩
theorem Tryz.lays241 : Go.Proofs.Lays.n241 Tryz.prog Tryz.lays241_ren := {
  mixed := by kernel_rfl
  f241 := Tryz.func115.trans (congrArg some (by kernel_rfl))
  f277 := Tryz.func125.trans (congrArg some (by kernel_rfl))
  t0 := Tryz.underlying0
  a0 := Tryz.isAgg0
  z0 := Tryz.sizeOf0
  v0 := Tryz.zeroValue0
  t3 := Tryz.underlying3
  a3 := Tryz.isAgg3
  z3 := Tryz.sizeOf3
  v3 := Tryz.zeroValue3
  t37 := Tryz.underlying65
  a37 := Tryz.isAgg65
  z37 := Tryz.sizeOf65
  v37 := Tryz.zeroValue65
  t70 := Tryz.underlying174
  a70 := Tryz.isAgg174
  z70 := Tryz.sizeOf174
  v70 := Tryz.zeroValue174
  t72 := Tryz.underlying176
  a72 := Tryz.isAgg176
  z72 := Tryz.sizeOf176
  v72 := Tryz.zeroValue176 }
theorem Tryz.Builder_Extra_241 : Builder.Extra Tryz.prog Tryz.lays241_ren := {
  sizeBuilder := by kernel_rfl
  liesBuilder := by kernel_rfl
  t5 := Tryz.underlying5
  a5 := Tryz.isAgg5
  z5 := Tryz.sizeOf5
  v5 := Tryz.zeroValue5
  infoByte := by kernel_rfl
  cellsByte := by kernel_rfl
  sizeByte := by kernel_rfl
  neB5 := by decide }
open Go.RowKit in
/-- (*strings.Builder).grow (no doc but "grow copies the buffer to a new, larger buffer so that there are at least n bytes of capacity beyond len(b.buf)."): AT A BUILDER WITHOUT A BUFFER: a new row of whatever bytes for its buffer, none of them its own yet. Three draws. (LAID: no walk: one application.) -/
theorem Tryz.Builder_grow_fresh (B b n : Nat) (w : World) (hB : B ≤ b) (hbk : w.heap[b]? = some (.cells #[.pointer (some ⟨b, 0, none⟩), .slice none 0 0] 176 (0, 0))) (hBw : B ≤ w.heap.size) (hn : n ≤ 281474976710656) :
    Calls Tryz.prog 115 #[.pointer (some ⟨b, 0, none⟩), .int .i64 n] w fun e w' => e = .returned (.tuple #[]) ∧ (Lib.BuilderAt 176 5 B b (.pointer (some ⟨b, 0, none⟩)) [] w' ∧ Below B w w') := Any.Builder_grow_fresh Tryz.lays241 Tryz.Builder_Extra_241 B b n w hB hbk hBw hn
def Tryz.lays165_ren : Go.Shelf.Ren := ⟨fun | 165 => 95 | 240 => 114 | 241 => 115 | 276 => 124 | 277 => 125 | n => n, fun | 70 => 174 | 3 => 3 | 0 => 0 | 4 => 4 | 9 => 9 | 20 => 20 | 72 => 176 | 37 => 65 | 164 => 94 | 5 => 5 | n => n, fun | n => n⟩
theorem Tryz.lays165 : Go.Proofs.Lays.n165 Tryz.prog Tryz.lays165_ren := {
  mixed := by kernel_rfl
  f165 := Tryz.func95.trans (congrArg some (by kernel_rfl))
  f240 := Tryz.func114.trans (congrArg some (by kernel_rfl))
  f241 := Tryz.func115.trans (congrArg some (by kernel_rfl))
  f276 := Tryz.func124.trans (congrArg some (by kernel_rfl))
  f277 := Tryz.func125.trans (congrArg some (by kernel_rfl))
  t0 := Tryz.underlying0
  a0 := Tryz.isAgg0
  z0 := Tryz.sizeOf0
  v0 := Tryz.zeroValue0
  t3 := Tryz.underlying3
  a3 := Tryz.isAgg3
  z3 := Tryz.sizeOf3
  v3 := Tryz.zeroValue3
  t4 := Tryz.underlying4
  a4 := Tryz.isAgg4
  z4 := Tryz.sizeOf4
  v4 := Tryz.zeroValue4
  t9 := Tryz.underlying9
  a9 := Tryz.isAgg9
  z9 := Tryz.sizeOf9
  v9 := Tryz.zeroValue9
  t20 := Tryz.underlying20
  a20 := Tryz.isAgg20
  z20 := Tryz.sizeOf20
  v20 := Tryz.zeroValue20
  t37 := Tryz.underlying65
  a37 := Tryz.isAgg65
  z37 := Tryz.sizeOf65
  v37 := Tryz.zeroValue65
  t70 := Tryz.underlying174
  a70 := Tryz.isAgg174
  z70 := Tryz.sizeOf174
  v70 := Tryz.zeroValue174
  t72 := Tryz.underlying176
  a72 := Tryz.isAgg176
  z72 := Tryz.sizeOf176
  v72 := Tryz.zeroValue176
  t164 := Tryz.underlying94
  a164 := Tryz.isAgg94
  z164 := Tryz.sizeOf94
  v164 := Tryz.zeroValue94 }
theorem Tryz.Builder_Extra_165 : Builder.Extra Tryz.prog Tryz.lays165_ren := {
  sizeBuilder := by kernel_rfl
  liesBuilder := by kernel_rfl
  t5 := Tryz.underlying5
  a5 := Tryz.isAgg5
  z5 := Tryz.sizeOf5
  v5 := Tryz.zeroValue5
  infoByte := by kernel_rfl
  cellsByte := by kernel_rfl
  sizeByte := by kernel_rfl
  neB5 := by decide }
open Go.RowKit in
/-- (*strings.Builder).Grow AT A BUILDER THAT HAS NOT BEEN WRITTEN ('var b strings.Builder; b.Grow(n)'): "Grow grows b's capacity, if necessary, to guarantee space for another n bytes.": it holds no byte behind it as before it. (LAID: no walk: one application.) -/
theorem Tryz.Builder_Grow_fresh (B b n : Nat) (w : World) (hB : B ≤ b) (hbk : w.heap[b]? = some (.cells #[.pointer none, .slice none 0 0] 176 (0, 0))) (hBw : B ≤ w.heap.size) (hn : n ≤ 281474976710656) :
    Calls Tryz.prog 95 #[.pointer (some ⟨b, 0, none⟩), .int .i64 n] w fun e w' => e = .returned (.tuple #[]) ∧ (Lib.BuilderAt 176 5 B b (.pointer (some ⟨b, 0, none⟩)) [] w' ∧ Below B w w') := Any.Builder_Grow_fresh Tryz.lays165 Tryz.Builder_Extra_165 B b n w hB hbk hBw hn
def Tryz.lays128_ren : Go.Shelf.Ren := ⟨fun | 128 => 68 | n => n, fun | 51 => 138 | 3 => 3 | 4 => 4 | 46 => 102 | 5 => 5 | 9 => 9 | n => n, fun | n => n⟩
theorem Tryz.lays128 : Go.Proofs.Lays.n128 Tryz.prog Tryz.lays128_ren := {
  mixed := by kernel_rfl
  f128 := Tryz.func68.trans (congrArg some (by kernel_rfl))
  t3 := Tryz.underlying3
  a3 := Tryz.isAgg3
  z3 := Tryz.sizeOf3
  v3 := Tryz.zeroValue3
  t4 := Tryz.underlying4
  a4 := Tryz.isAgg4
  z4 := Tryz.sizeOf4
  v4 := Tryz.zeroValue4
  t5 := Tryz.underlying5
  a5 := Tryz.isAgg5
  z5 := Tryz.sizeOf5
  v5 := Tryz.zeroValue5
  t9 := Tryz.underlying9
  a9 := Tryz.isAgg9
  z9 := Tryz.sizeOf9
  v9 := Tryz.zeroValue9
  t46 := Tryz.underlying102
  a46 := Tryz.isAgg102
  z46 := Tryz.sizeOf102
  v46 := Tryz.zeroValue102
  t51 := Tryz.underlying138
  a51 := Tryz.isAgg138
  z51 := Tryz.sizeOf138
  v51 := Tryz.zeroValue138 }
/-- bits.Len32: "Len32 returns the minimum number of bits required to represent x; the result is 0 for x == 0.": IT RETURNS 'Lib.bitLen x'; the world is as it was. ('h0', 'h1': x is a uint32.) (LAID: no walk: one application.) -/
theorem Tryz.bits_Len32 (x : Int) (w : World) (h0 : 0 ≤ x) (h1 : x ≤ 4294967295) :
    Calls Tryz.prog 68 #[.int .u32 x] w fun e w' => e = .returned (.int .i64 (Lib.bitLen x.toNat)) ∧ w' = w := Any.bits_Len32 Tryz.lays128 x w h0 h1
def Tryz.lays125_ren : Go.Shelf.Ren := ⟨fun | 125 => 44 | 128 => 68 | 129 => 69 | n => n, fun | 46 => 102 | 3 => 3 | 51 => 138 | 53 => 23 | 4 => 4 | 5 => 5 | 9 => 9 | n => n, fun | n => n⟩
theorem Tryz.lays125 : Go.Proofs.Lays.n125 Tryz.prog Tryz.lays125_ren := {
  mixed := by kernel_rfl
  f125 := Tryz.func44.trans (congrArg some (by kernel_rfl))
  f128 := Tryz.func68.trans (congrArg some (by kernel_rfl))
  f129 := Tryz.func69.trans (congrArg some (by kernel_rfl))
  t3 := Tryz.underlying3
  a3 := Tryz.isAgg3
  z3 := Tryz.sizeOf3
  v3 := Tryz.zeroValue3
  t4 := Tryz.underlying4
  a4 := Tryz.isAgg4
  z4 := Tryz.sizeOf4
  v4 := Tryz.zeroValue4
  t5 := Tryz.underlying5
  a5 := Tryz.isAgg5
  z5 := Tryz.sizeOf5
  v5 := Tryz.zeroValue5
  t9 := Tryz.underlying9
  a9 := Tryz.isAgg9
  z9 := Tryz.sizeOf9
  v9 := Tryz.zeroValue9
  t46 := Tryz.underlying102
  a46 := Tryz.isAgg102
  z46 := Tryz.sizeOf102
  v46 := Tryz.zeroValue102
  t51 := Tryz.underlying138
  a51 := Tryz.isAgg138
  z51 := Tryz.sizeOf138
  v51 := Tryz.zeroValue138
  t53 := Tryz.underlying23
  a53 := Tryz.isAgg23
  z53 := Tryz.sizeOf23
  v53 := Tryz.zeroValue23 }
/-- bits.Len: "Len returns the minimum number of bits required to represent x; the result is 0 for x == 0.": IT RETURNS 'Lib.bitLen x'; the world is as it was. (A uint has 64 bits in the model.) ITS CALLEE bits.Len64 IS MET BY ITS OWN CONTRACT OFF THE SHELF (lay that first). (LAID: no walk: one application.) -/
theorem Tryz.bits_Len (x : Int) (w : World) (h0 : 0 ≤ x) (h1 : x ≤ 18446744073709551615) :
    Calls Tryz.prog 44 #[.int .u64 x] w fun e w' => e = .returned (.int .i64 (Lib.bitLen x.toNat)) ∧ w' = w := Any.bits_Len Tryz.lays125 x w h0 h1
def Tryz.lays215_ren : Go.Shelf.Ren := ⟨fun | 215 => 158 | n => n, fun | 3 => 3 | 4 => 4 | n => n, fun | n => n⟩
theorem Tryz.lays215 : Go.Proofs.Lays.n215 Tryz.prog Tryz.lays215_ren := {
  mixed := by kernel_rfl
  f215 := Tryz.func158.trans (congrArg some (by kernel_rfl))
  t3 := Tryz.underlying3
  a3 := Tryz.isAgg3
  z3 := Tryz.sizeOf3
  v3 := Tryz.zeroValue3
  t4 := Tryz.underlying4
  a4 := Tryz.isAgg4
  z4 := Tryz.sizeOf4
  v4 := Tryz.zeroValue4 }
open Go.RowKit in
/-- cmp.isNaN at int: 'x != x': false. (LAID: no walk: one application.) -/
theorem Tryz.cmp_isNaN_int (x : Int) (w : World) :
    Calls Tryz.prog 158 #[.int .i64 x] w fun e w' => e = .returned (.bool false) ∧ w' = w := Any.cmp_isNaN_int Tryz.lays215 x w
open Go.RowKit in
/-- (*strings.Builder).Len: "Len returns the number of accumulated bytes; b.Len() == len(b.String()).": the world is as it was. (THE FORM '_f': 'Lib.IsBuilderF'.) (LAID: no walk: one application.) -/
theorem Tryz.Builder_Len_f (B b : Nat) (bs : List Value) (w : World) (h : Lib.IsBuilderF 176 5 B b bs w) :
    Calls Tryz.prog 281 #[.pointer (some ⟨b, 0, none⟩)] w fun e w' => e = .returned (.int .i64 bs.length) ∧ w' = w := Any.Builder_Len_f Tryz.lays170 B b bs w h
open Go.RowKit in
/-- (*strings.Builder).String: "String returns the accumulated string.": OF A BUILDER THAT HOLDS AT LEAST ONE BYTE. ✋ THE MODEL FREEZES THOSE BYTES IN THE BUFFER (unsafe.String): a later write INTO them ends the model's run without an answer; a later append BEHIND them goes on. The statement's order of evaluation is drawn: one draw. THE FORM '_f': IT SAYS BESIDES THAT THE BUILDER IS A BUILDER STILL ('Lib.IsBuilderF', the same bytes): SO IT CAN BE WRITTEN ON: 'b.WriteString(b.String()[:k])'. (LAID: no walk: one application.) -/
theorem Tryz.Builder_String_f (B b : Nat) (l : List UInt8) (w : World) (h : Lib.IsBuilderF 176 5 B b (Lib.byteCells l) w) (h0 : l ≠ []) :
    Calls Tryz.prog 98 #[.pointer (some ⟨b, 0, none⟩)] w fun e w' => e = .returned (.string ⟨l.toArray⟩) ∧ (Lib.IsBuilderF 176 5 B b (Lib.byteCells l) w' ∧ Below B w w') := Any.Builder_String_f Tryz.lays169 Tryz.Builder_Extra_169 B b l w h h0
open Go.RowKit in
/-- (*strings.Builder).String OF A BUILDER THAT HOLDS NO BYTE: the empty string; THE FORM '_f': a builder still. (LAID: no walk: one application.) -/
theorem Tryz.Builder_String_empty_f (B b : Nat) (w : World) (h : Lib.IsBuilderF 176 5 B b [] w) (hBw : B ≤ w.heap.size) :
    Calls Tryz.prog 98 #[.pointer (some ⟨b, 0, none⟩)] w fun e w' => e = .returned (.string ⟨#[]⟩) ∧ (Lib.IsBuilderF 176 5 B b [] w' ∧ Below B w w') := Any.Builder_String_empty_f Tryz.lays169 Tryz.Builder_Extra_169 B b w h hBw
open Go.RowKit in
/-- (*strings.Builder).String: "String returns the accumulated string.": WHATEVER THE BUILDER HOLDS; THE FORM '_f': OF A BUILDER THAT MAY HAVE BEEN READ BEFORE; AND IT IS A BUILDER STILL, holding the same bytes: it can be written on. (LAID: no walk: one application.) -/
theorem Tryz.Builder_String_any_f (B b : Nat) (l : List UInt8) (w : World) (h : Lib.IsBuilderF 176 5 B b (Lib.byteCells l) w) (hBw : B ≤ w.heap.size) :
    Calls Tryz.prog 98 #[.pointer (some ⟨b, 0, none⟩)] w fun e w' => e = .returned (.string ⟨l.toArray⟩) ∧ (Lib.IsBuilderF 176 5 B b (Lib.byteCells l) w' ∧ Below B w w') := Any.Builder_String_any_f Tryz.lays169 Tryz.Builder_Extra_169 B b l w h hBw
open Go.RowKit in
/-- (*strings.Builder).String: "String returns the accumulated string.": OF A BUILDER THAT HOLDS AT LEAST ONE BYTE. ✋ THE MODEL FREEZES THOSE BYTES IN THE BUFFER (unsafe.String): a later write INTO them ends the model's run without an answer; a later append BEHIND them goes on. The statement's order of evaluation is drawn: one draw. THE FORM '_k': OVER 'Lib.IsBuilderF' (a builder that 'String()' may have read), AND WITH THE FRAME THAT REACHES ABOVE THE BUILDER: 'Lib.OthersKept': every block that is not b and is no row of uint8's stands as it stood: the iterator of a range among them. (LAID: no walk: one application.) -/
theorem Tryz.Builder_String_k (B b : Nat) (l : List UInt8) (w : World) (h : Lib.IsBuilderF 176 5 B b (Lib.byteCells l) w) (h0 : l ≠ []) :
    Calls Tryz.prog 98 #[.pointer (some ⟨b, 0, none⟩)] w fun e w' => e = .returned (.string ⟨l.toArray⟩) ∧ (Lib.IsBuilderF 176 5 B b (Lib.byteCells l) w' ∧ Below B w w' ∧ Lib.OthersKept 5 (some b) w w') := Any.Builder_String_k Tryz.lays169 Tryz.Builder_Extra_169 B b l w h h0
open Go.RowKit in
/-- (*strings.Builder).String OF A BUILDER THAT HOLDS NO BYTE: the empty string; THE FORM '_k': OVER 'Lib.IsBuilderF' (a builder that 'String()' may have read), AND WITH THE FRAME THAT REACHES ABOVE THE BUILDER: 'Lib.OthersKept': every block that is not b and is no row of uint8's stands as it stood: the iterator of a range among them. (LAID: no walk: one application.) -/
theorem Tryz.Builder_String_empty_k (B b : Nat) (w : World) (h : Lib.IsBuilderF 176 5 B b [] w) (hBw : B ≤ w.heap.size) :
    Calls Tryz.prog 98 #[.pointer (some ⟨b, 0, none⟩)] w fun e w' => e = .returned (.string ⟨#[]⟩) ∧ (Lib.IsBuilderF 176 5 B b [] w' ∧ Below B w w' ∧ Lib.OthersKept 5 (some b) w w') := Any.Builder_String_empty_k Tryz.lays169 Tryz.Builder_Extra_169 B b w h hBw
open Go.RowKit in
/-- (*strings.Builder).String: "String returns the accumulated string.": WHATEVER THE BUILDER HOLDS; THE FORM '_k': OVER 'Lib.IsBuilderF' (a builder that 'String()' may have read), AND WITH THE FRAME THAT REACHES ABOVE THE BUILDER: 'Lib.OthersKept': every block that is not b and is no row of uint8's stands as it stood: the iterator of a range among them. (LAID: no walk: one application.) -/
theorem Tryz.Builder_String_any_k (B b : Nat) (l : List UInt8) (w : World) (h : Lib.IsBuilderF 176 5 B b (Lib.byteCells l) w) (hBw : B ≤ w.heap.size) :
    Calls Tryz.prog 98 #[.pointer (some ⟨b, 0, none⟩)] w fun e w' => e = .returned (.string ⟨l.toArray⟩) ∧ (Lib.IsBuilderF 176 5 B b (Lib.byteCells l) w' ∧ Below B w w' ∧ Lib.OthersKept 5 (some b) w w') := Any.Builder_String_any_k Tryz.lays169 Tryz.Builder_Extra_169 B b l w h hBw
open Go.RowKit in
/-- (*strings.Builder).grow (no doc but "grow copies the buffer to a new, larger buffer so that there are at least n bytes of capacity beyond len(b.buf)."): AT A BUILDER WITHOUT A BUFFER: a new row of whatever bytes for its buffer, none of them its own yet. Three draws. (LAID: no walk: one application.) -/
theorem Tryz.Builder_grow_fresh_cap (B b n : Nat) (w : World) (hB : B ≤ b) (hbk : w.heap[b]? = some (.cells #[.pointer (some ⟨b, 0, none⟩), .slice none 0 0] 176 (0, 0))) (hBw : B ≤ w.heap.size) (hn : n ≤ 281474976710656) :
    Calls Tryz.prog 115 #[.pointer (some ⟨b, 0, none⟩), .int .i64 n] w fun e w' => e = .returned (.tuple #[]) ∧ (Lib.BuilderAt 176 5 B b (.pointer (some ⟨b, 0, none⟩)) [] w' ∧ Below B w w') ∧ ∃ p cap, w'.cell? ⟨b, 1, none⟩ = some (.slice p 0 cap) ∧ n ≤ cap := Any.Builder_grow_fresh_cap Tryz.lays241 Tryz.Builder_Extra_241 B b n w hB hbk hBw hn
open Go.RowKit in
/-- (*strings.Builder).Grow AT A BUILDER THAT HAS NOT BEEN WRITTEN ('var b strings.Builder; b.Grow(n)'): "Grow grows b's capacity, if necessary, to guarantee space for another n bytes.": it holds no byte behind it as before it. (LAID: no walk: one application.) -/
theorem Tryz.Builder_Grow_fresh_cap (B b n : Nat) (w : World) (hB : B ≤ b) (hbk : w.heap[b]? = some (.cells #[.pointer none, .slice none 0 0] 176 (0, 0))) (hBw : B ≤ w.heap.size) (hn : n ≤ 281474976710656) :
    Calls Tryz.prog 95 #[.pointer (some ⟨b, 0, none⟩), .int .i64 n] w fun e w' => e = .returned (.tuple #[]) ∧ (Lib.BuilderAt 176 5 B b (.pointer (some ⟨b, 0, none⟩)) [] w' ∧ Below B w w') ∧ ∃ p cap, w'.cell? ⟨b, 1, none⟩ = some (.slice p 0 cap) ∧ n ≤ cap := Any.Builder_Grow_fresh_cap Tryz.lays165 Tryz.Builder_Extra_165 B b n w hB hbk hBw hn
def Tryz.lays129_ren : Go.Shelf.Ren := ⟨fun | 129 => 69 | n => n, fun | 53 => 23 | 3 => 3 | 4 => 4 | 46 => 102 | 5 => 5 | 9 => 9 | n => n, fun | n => n⟩
theorem Tryz.lays129 : Go.Proofs.Lays.n129 Tryz.prog Tryz.lays129_ren := {
  mixed := by kernel_rfl
  f129 := Tryz.func69.trans (congrArg some (by kernel_rfl))
  t3 := Tryz.underlying3
  a3 := Tryz.isAgg3
  z3 := Tryz.sizeOf3
  v3 := Tryz.zeroValue3
  t4 := Tryz.underlying4
  a4 := Tryz.isAgg4
  z4 := Tryz.sizeOf4
  v4 := Tryz.zeroValue4
  t5 := Tryz.underlying5
  a5 := Tryz.isAgg5
  z5 := Tryz.sizeOf5
  v5 := Tryz.zeroValue5
  t9 := Tryz.underlying9
  a9 := Tryz.isAgg9
  z9 := Tryz.sizeOf9
  v9 := Tryz.zeroValue9
  t46 := Tryz.underlying102
  a46 := Tryz.isAgg102
  z46 := Tryz.sizeOf102
  v46 := Tryz.zeroValue102
  t53 := Tryz.underlying23
  a53 := Tryz.isAgg23
  z53 := Tryz.sizeOf23
  v53 := Tryz.zeroValue23 }
/-- bits.Len64: "Len64 returns the minimum number of bits required to represent x; the result is 0 for x == 0.": IT RETURNS 'Lib.bitLen x'; the world is as it was. ('h0', 'h1': x is a uint64.) (LAID: no walk: one application.) -/
theorem Tryz.bits_Len64 (x : Int) (w : World) (h0 : 0 ≤ x) (h1 : x ≤ 18446744073709551615) :
    Calls Tryz.prog 69 #[.int .u64 x] w fun e w' => e = .returned (.int .i64 (Lib.bitLen x.toNat)) ∧ w' = w := Any.bits_Len64 Tryz.lays129 x w h0 h1
def Tryz.laysM181_ren : Go.Shelf.Ren := ⟨fun | 181 => 183 | n => n, fun | 130 => 78 | 3 => 3 | 0 => 0 | 93 => 75 | 37 => 65 | 91 => 73 | 5 => 5 | n => n, fun | n => n⟩
theorem Tryz.laysM181 : Go.Proofs.LaysM.n181 Tryz.prog Tryz.laysM181_ren := {
  mixed := by kernel_rfl
  f181 := Tryz.func183.trans (congrArg some (by kernel_rfl))
  t0 := Tryz.underlying0
  a0 := Tryz.isAgg0
  z0 := Tryz.sizeOf0
  v0 := Tryz.zeroValue0
  t3 := Tryz.underlying3
  a3 := Tryz.isAgg3
  z3 := Tryz.sizeOf3
  v3 := Tryz.zeroValue3
  t37 := Tryz.underlying65
  a37 := Tryz.isAgg65
  z37 := Tryz.sizeOf65
  v37 := Tryz.zeroValue65
  t93 := Tryz.underlying75
  a93 := Tryz.isAgg75
  z93 := Tryz.sizeOf75
  v93 := Tryz.zeroValue75
  t130 := Tryz.underlying78
  a130 := Tryz.isAgg78
  z130 := Tryz.sizeOf78
  v130 := Tryz.zeroValue78
  t5 := Tryz.underlying5
  a5 := Tryz.isAgg5
  z5 := Tryz.sizeOf5
  v5 := Tryz.zeroValue5
  t91 := Tryz.underlying73
  a91 := Tryz.isAgg73
  z91 := Tryz.sizeOf73
  v91 := Tryz.zeroValue73
  i0 := by kernel_rfl
  i3 := by kernel_rfl
  i5 := by kernel_rfl
  i37 := by kernel_rfl
  i91 := by kernel_rfl
  i93 := by kernel_rfl
  i130 := by kernel_rfl }
open Go.RowKit in
/-- (*bytes.Buffer).Len: "Len returns the number of bytes of the unread portion of the buffer; b.Len() == len(b.Bytes()).": the world is as it was but for the count of draws (the statement has two reads: its order is drawn). (LAID: no walk: one application.) -/
theorem Tryz.Buffer_Len (B b : Nat) (bs : List Value) (w : World) (h : Lib.IsBuffer 75 5 B b bs w) :
    Calls Tryz.prog 183 #[.pointer (some ⟨b, 0, none⟩)] w fun e w' => e = .returned (.int .i64 bs.length) ∧ ∃ n, w' = w.drewN n := Any.Buffer_Len Tryz.laysM181 B b bs w h
def Tryz.laysM251_ren : Go.Shelf.Ren := ⟨fun | 251 => 181 | n => n, fun | 130 => 78 | 3 => 3 | 4 => 4 | 0 => 0 | 93 => 75 | 37 => 65 | 91 => 73 | 5 => 5 | n => n, fun | n => n⟩
theorem Tryz.laysM251 : Go.Proofs.LaysM.n251 Tryz.prog Tryz.laysM251_ren := {
  mixed := by kernel_rfl
  f251 := Tryz.func181.trans (congrArg some (by kernel_rfl))
  t0 := Tryz.underlying0
  a0 := Tryz.isAgg0
  z0 := Tryz.sizeOf0
  v0 := Tryz.zeroValue0
  t3 := Tryz.underlying3
  a3 := Tryz.isAgg3
  z3 := Tryz.sizeOf3
  v3 := Tryz.zeroValue3
  t4 := Tryz.underlying4
  a4 := Tryz.isAgg4
  z4 := Tryz.sizeOf4
  v4 := Tryz.zeroValue4
  t37 := Tryz.underlying65
  a37 := Tryz.isAgg65
  z37 := Tryz.sizeOf65
  v37 := Tryz.zeroValue65
  t93 := Tryz.underlying75
  a93 := Tryz.isAgg75
  z93 := Tryz.sizeOf75
  v93 := Tryz.zeroValue75
  t130 := Tryz.underlying78
  a130 := Tryz.isAgg78
  z130 := Tryz.sizeOf78
  v130 := Tryz.zeroValue78
  t5 := Tryz.underlying5
  a5 := Tryz.isAgg5
  z5 := Tryz.sizeOf5
  v5 := Tryz.zeroValue5
  t91 := Tryz.underlying73
  a91 := Tryz.isAgg73
  z91 := Tryz.sizeOf73
  v91 := Tryz.zeroValue73
  i0 := by kernel_rfl
  i3 := by kernel_rfl
  i4 := by kernel_rfl
  i5 := by kernel_rfl
  i37 := by kernel_rfl
  i91 := by kernel_rfl
  i93 := by kernel_rfl
  i130 := by kernel_rfl }
open Go.RowKit in
/-- (*bytes.Buffer).tryGrowByReslice: "tryGrowByReslice is an inlineable version of grow for the fast-case where the internal buffer only needs to be resliced. It returns the index where bytes should be written and whether it succeeded.": THERE IS ROOM: 'buf' is resliced to l + n. (LAID: no walk: one application.) -/
theorem Tryz.Buffer_tryGrow_room (b : Nat) (ao : Option Addr) (l cap n : Nat) (w : World) (c0 : w.cell? ⟨b, 0, none⟩ = some (.slice ao l cap)) (f0 : w.frozen? ⟨b, 0, none⟩ = false) (hlc : l ≤ cap) (hcap : cap ≤ maxLen) (hn : n ≤ cap - l) :
    Calls Tryz.prog 181 #[.pointer (some ⟨b, 0, none⟩), .int .i64 n] w fun e w' => e = .returned (.tuple #[.int .i64 l, .bool true]) ∧ w' = w.setCell ⟨b, 0, none⟩ (.slice ao (l + n) cap) := Any.Buffer_tryGrow_room Tryz.laysM251 b ao l cap n w c0 f0 hlc hcap hn
open Go.RowKit in
/-- .. THERE IS NONE: nothing turns. (LAID: no walk: one application.) -/
theorem Tryz.Buffer_tryGrow_none (b : Nat) (ao : Option Addr) (l cap n : Nat) (w : World) (c0 : w.cell? ⟨b, 0, none⟩ = some (.slice ao l cap)) (hlc : l ≤ cap) (hcap : cap ≤ maxLen) (hn : cap - l < n) :
    Calls Tryz.prog 181 #[.pointer (some ⟨b, 0, none⟩), .int .i64 n] w fun e w' => e = .returned (.tuple #[.int .i64 0, .bool false]) ∧ w' = w := Any.Buffer_tryGrow_none Tryz.laysM251 b ao l cap n w c0 hlc hcap hn
def Tryz.laysM324_ren : Go.Shelf.Ren := ⟨fun | 324 => 185 | n => n, fun | 20 => 20 | 4 => 4 | 75 => 69 | 0 => 0 | 80 => 80 | 9 => 9 | n => n, fun | 14 => 12 | n => n⟩
theorem Tryz.laysM324 : Go.Proofs.LaysM.n324 Tryz.prog Tryz.laysM324_ren := {
  mixed := by kernel_rfl
  f324 := Tryz.func185.trans (congrArg some (by kernel_rfl))
  t0 := Tryz.underlying0
  a0 := Tryz.isAgg0
  z0 := Tryz.sizeOf0
  v0 := Tryz.zeroValue0
  t4 := Tryz.underlying4
  a4 := Tryz.isAgg4
  z4 := Tryz.sizeOf4
  v4 := Tryz.zeroValue4
  t20 := Tryz.underlying20
  a20 := Tryz.isAgg20
  z20 := Tryz.sizeOf20
  v20 := Tryz.zeroValue20
  t75 := Tryz.underlying69
  a75 := Tryz.isAgg69
  z75 := Tryz.sizeOf69
  v75 := Tryz.zeroValue69
  g14 := by kernel_rfl
  t9 := Tryz.underlying9
  a9 := Tryz.isAgg9
  z9 := Tryz.sizeOf9
  v9 := Tryz.zeroValue9
  t80 := Tryz.underlying80
  a80 := Tryz.isAgg80
  z80 := Tryz.sizeOf80
  v80 := Tryz.zeroValue80
  i0 := by kernel_rfl
  i4 := by kernel_rfl
  i9 := by kernel_rfl
  i20 := by kernel_rfl
  i75 := by kernel_rfl
  i80 := by kernel_rfl
  m14 := by kernel_rfl }
theorem Tryz.growSlice_catch_idle (w : World) :
    CallsD Tryz.prog 185 #[] .returning w fun e u' w' => e = .returned (.tuple #[]) ∧ u' = .returning ∧ w' = w := Any.growSlice_catch_idle Tryz.laysM324 w
def Tryz.laysM290_ren : Go.Shelf.Ren := ⟨fun | 290 => 184 | 324 => 185 | n => n, fun | 37 => 65 | 3 => 3 | 0 => 0 | 4 => 4 | 20 => 20 | 75 => 69 | 5 => 5 | 80 => 80 | 9 => 9 | n => n, fun | 14 => 12 | n => n⟩
theorem Tryz.laysM290 : Go.Proofs.LaysM.n290 Tryz.prog Tryz.laysM290_ren := {
  mixed := by kernel_rfl
  f290 := Tryz.func184.trans (congrArg some (by kernel_rfl))
  f324 := Tryz.func185.trans (congrArg some (by kernel_rfl))
  t0 := Tryz.underlying0
  a0 := Tryz.isAgg0
  z0 := Tryz.sizeOf0
  v0 := Tryz.zeroValue0
  t3 := Tryz.underlying3
  a3 := Tryz.isAgg3
  z3 := Tryz.sizeOf3
  v3 := Tryz.zeroValue3
  t4 := Tryz.underlying4
  a4 := Tryz.isAgg4
  z4 := Tryz.sizeOf4
  v4 := Tryz.zeroValue4
  t20 := Tryz.underlying20
  a20 := Tryz.isAgg20
  z20 := Tryz.sizeOf20
  v20 := Tryz.zeroValue20
  t37 := Tryz.underlying65
  a37 := Tryz.isAgg65
  z37 := Tryz.sizeOf65
  v37 := Tryz.zeroValue65
  t75 := Tryz.underlying69
  a75 := Tryz.isAgg69
  z75 := Tryz.sizeOf69
  v75 := Tryz.zeroValue69
  g14 := by kernel_rfl
  t5 := Tryz.underlying5
  a5 := Tryz.isAgg5
  z5 := Tryz.sizeOf5
  v5 := Tryz.zeroValue5
  t9 := Tryz.underlying9
  a9 := Tryz.isAgg9
  z9 := Tryz.sizeOf9
  v9 := Tryz.zeroValue9
  t80 := Tryz.underlying80
  a80 := Tryz.isAgg80
  z80 := Tryz.sizeOf80
  v80 := Tryz.zeroValue80
  i0 := by kernel_rfl
  i3 := by kernel_rfl
  i4 := by kernel_rfl
  i5 := by kernel_rfl
  i9 := by kernel_rfl
  i20 := by kernel_rfl
  i37 := by kernel_rfl
  i75 := by kernel_rfl
  i80 := by kernel_rfl
  m14 := by kernel_rfl }
open Go.RowKit in
/-- bytes.growSlice: "growSlice grows b by n, preserving the original content of b.": OF A SLICE THAT LIES AT THE HEAD OF A ROW: a new row, number 'w.heap.size': it begins with b's l cells; its capacity has room for n more; whatever lay below is as it was. (LAID: no walk: one application.) -/
theorem Tryz.bytes_growSlice_row (g l c n : Nat) (cur : Array Value) (w : World) (hg : w.heap[g]? = some (.cells cur 5 (0, 0))) (hcs : cur.size = c) (hlc : l ≤ c) (hn : 1 ≤ n) (hlim : l + n ≤ 140737488355328) (hc2 : c ≤ 140737488355328) (h1 : ∀ v ∈ cur.toList.take l, v.oneCell' = true) :
    Calls Tryz.prog 184 #[.slice (some ⟨g, 0, none⟩) l c, .int .i64 n] w fun e w' => ∃ cap2 cells, e = .returned (.slice (some ⟨w.heap.size, 0, none⟩) l cap2) ∧ w'.heap[w.heap.size]? = some (.cells cells 5 (0, 0)) ∧
      cells.size = cap2 ∧ cells.toList.take l = cur.toList.take l ∧ l + n ≤ cap2 ∧ cap2 ≤ maxLen ∧ Below w.heap.size w w' := Any.bytes_growSlice_row Tryz.laysM290 g l c n cur w hg hcs hlc hn hlim hc2 h1
open Go.RowKit in
/-- .. OF THE NIL SLICE: a new row with room for n. (LAID: no walk: one application.) -/
theorem Tryz.bytes_growSlice_nil (n : Nat) (w : World) (hn : 1 ≤ n) (hlim : n ≤ 140737488355328) :
    Calls Tryz.prog 184 #[.slice none 0 0, .int .i64 n] w fun e w' => ∃ cap2 cells, e = .returned (.slice (some ⟨w.heap.size, 0, none⟩) 0 cap2) ∧ w'.heap[w.heap.size]? = some (.cells cells 5 (0, 0)) ∧
      cells.size = cap2 ∧ n ≤ cap2 ∧ cap2 ≤ maxLen ∧ Below w.heap.size w w' := Any.bytes_growSlice_nil Tryz.laysM290 n w hn hlim
def Tryz.laysM182_ren : Go.Shelf.Ren := ⟨fun | 182 => 35 | n => n, fun | 130 => 78 | 9 => 9 | 4 => 4 | 0 => 0 | 93 => 75 | 37 => 65 | 3 => 3 | 91 => 73 | 5 => 5 | n => n, fun | n => n⟩
theorem Tryz.laysM182 : Go.Proofs.LaysM.n182 Tryz.prog Tryz.laysM182_ren := {
  mixed := by kernel_rfl
  f182 := Tryz.func35.trans (congrArg some (by kernel_rfl))
  t0 := Tryz.underlying0
  a0 := Tryz.isAgg0
  z0 := Tryz.sizeOf0
  v0 := Tryz.zeroValue0
  t3 := Tryz.underlying3
  a3 := Tryz.isAgg3
  z3 := Tryz.sizeOf3
  v3 := Tryz.zeroValue3
  t4 := Tryz.underlying4
  a4 := Tryz.isAgg4
  z4 := Tryz.sizeOf4
  v4 := Tryz.zeroValue4
  t9 := Tryz.underlying9
  a9 := Tryz.isAgg9
  z9 := Tryz.sizeOf9
  v9 := Tryz.zeroValue9
  t37 := Tryz.underlying65
  a37 := Tryz.isAgg65
  z37 := Tryz.sizeOf65
  v37 := Tryz.zeroValue65
  t93 := Tryz.underlying75
  a93 := Tryz.isAgg75
  z93 := Tryz.sizeOf75
  v93 := Tryz.zeroValue75
  t130 := Tryz.underlying78
  a130 := Tryz.isAgg78
  z130 := Tryz.sizeOf78
  v130 := Tryz.zeroValue78
  t5 := Tryz.underlying5
  a5 := Tryz.isAgg5
  z5 := Tryz.sizeOf5
  v5 := Tryz.zeroValue5
  t91 := Tryz.underlying73
  a91 := Tryz.isAgg73
  z91 := Tryz.sizeOf73
  v91 := Tryz.zeroValue73
  i0 := by kernel_rfl
  i3 := by kernel_rfl
  i4 := by kernel_rfl
  i5 := by kernel_rfl
  i9 := by kernel_rfl
  i37 := by kernel_rfl
  i91 := by kernel_rfl
  i93 := by kernel_rfl
  i130 := by kernel_rfl }
open Go.RowKit in
/-- (*bytes.Buffer).String: "String returns the contents of the unread portion of the buffer as a string.": THE BYTES THAT WERE WRITTEN. The world is as it was but for the count of draws (the statement has two reads: its order is drawn). (LAID: no walk: one application.) -/
theorem Tryz.Buffer_String (B b : Nat) (l : List UInt8) (w : World) (h : Lib.IsBuffer 75 5 B b (Lib.byteCells l) w) :
    Calls Tryz.prog 35 #[.pointer (some ⟨b, 0, none⟩)] w fun e w' => e = .returned (.string ⟨l.toArray⟩) ∧ ∃ n, w' = w.drewN n := Any.Buffer_String Tryz.laysM182 B b l w h
def Tryz.laysBin30_ren : Go.Shelf.Ren := ⟨fun | 30 => 215 | n => n, fun | 25 => 307 | 22 => 65 | 29 => 138 | 0 => 0 | 5 => 5 | 45 => 102 | n => n, fun | n => n⟩
theorem Tryz.laysBin30 : Go.Proofs.LaysBin.n30 Tryz.prog Tryz.laysBin30_ren := {
  mixed := by kernel_rfl
  f30 := Tryz.func215.trans (congrArg some (by kernel_rfl))
  t0 := Tryz.underlying0
  a0 := Tryz.isAgg0
  z0 := Tryz.sizeOf0
  v0 := Tryz.zeroValue0
  i0 := by kernel_rfl
  t5 := Tryz.underlying5
  a5 := Tryz.isAgg5
  z5 := Tryz.sizeOf5
  v5 := Tryz.zeroValue5
  i5 := by kernel_rfl
  t22 := Tryz.underlying65
  a22 := Tryz.isAgg65
  z22 := Tryz.sizeOf65
  v22 := Tryz.zeroValue65
  i22 := by kernel_rfl
  t25 := Tryz.underlying307
  a25 := Tryz.isAgg307
  z25 := Tryz.sizeOf307
  v25 := Tryz.zeroValue307
  i25 := by kernel_rfl
  t29 := Tryz.underlying138
  a29 := Tryz.isAgg138
  z29 := Tryz.sizeOf138
  v29 := Tryz.zeroValue138
  i29 := by kernel_rfl
  t45 := Tryz.underlying102
  a45 := Tryz.isAgg102
  z45 := Tryz.sizeOf102
  v45 := Tryz.zeroValue102
  i45 := by kernel_rfl }
open Go.RowKit in
/-- binary.LittleEndian.Uint32: "Uint32 returns the uint32 representation of b[0:4].": THE NUMBER THAT THE FIRST 4 BYTES SPELL, the least byte first ('Lib.leNat'). Of what was there nothing has turned (the receiver, an empty struct, is laid in a new block without cells; the statement's order is drawn). (LAID: no walk: one application.) -/
theorem Tryz.binary_LE_Uint32 (g o n c : Nat) (b0 b1 b2 b3 : UInt8) (w : World) (hn : 4 ≤ n) (c0 : w.cell? ⟨g, o, none⟩ = some (.int .u8 b0.toNat)) (c1 : w.cell? ⟨g, o + 1, none⟩ = some (.int .u8 b1.toNat)) (c2 : w.cell? ⟨g, o + 2, none⟩ = some (.int .u8 b2.toNat)) (c3 : w.cell? ⟨g, o + 3, none⟩ = some (.int .u8 b3.toNat)) :
    Calls Tryz.prog 215 #[.agg #[], .slice (some ⟨g, o, none⟩) n c] w fun e w' => e = .returned (.int .u32 (Lib.leNat [b0, b1, b2, b3])) ∧ Below w.heap.size w w' := Any.binary_LE_Uint32 Tryz.laysBin30 g o n c b0 b1 b2 b3 w hn c0 c1 c2 c3
def Tryz.laysBin31_ren : Go.Shelf.Ren := ⟨fun | 31 => 210 | n => n, fun | 25 => 307 | 22 => 65 | 29 => 138 | 0 => 0 | 5 => 5 | 45 => 102 | n => n, fun | n => n⟩
theorem Tryz.laysBin31 : Go.Proofs.LaysBin.n31 Tryz.prog Tryz.laysBin31_ren := {
  mixed := by kernel_rfl
  f31 := Tryz.func210.trans (congrArg some (by kernel_rfl))
  t0 := Tryz.underlying0
  a0 := Tryz.isAgg0
  z0 := Tryz.sizeOf0
  v0 := Tryz.zeroValue0
  i0 := by kernel_rfl
  t5 := Tryz.underlying5
  a5 := Tryz.isAgg5
  z5 := Tryz.sizeOf5
  v5 := Tryz.zeroValue5
  i5 := by kernel_rfl
  t22 := Tryz.underlying65
  a22 := Tryz.isAgg65
  z22 := Tryz.sizeOf65
  v22 := Tryz.zeroValue65
  i22 := by kernel_rfl
  t25 := Tryz.underlying307
  a25 := Tryz.isAgg307
  z25 := Tryz.sizeOf307
  v25 := Tryz.zeroValue307
  i25 := by kernel_rfl
  t29 := Tryz.underlying138
  a29 := Tryz.isAgg138
  z29 := Tryz.sizeOf138
  v29 := Tryz.zeroValue138
  i29 := by kernel_rfl
  t45 := Tryz.underlying102
  a45 := Tryz.isAgg102
  z45 := Tryz.sizeOf102
  v45 := Tryz.zeroValue102
  i45 := by kernel_rfl }
open Go.RowKit in
/-- binary.LittleEndian.PutUint32: "PutUint32 stores v into b[0:4].": v's 4 BYTES, the least first ('Lib.leBytes 4 v'), ARE LAID IN THE SLICE's FIRST 4 CELLS ('World.setCells'); nothing else turns (the receiver, an empty struct, is laid in a new block without cells). (LAID: no walk: one application.) -/
theorem Tryz.binary_LE_PutUint32 (g o n c v : Nat) (hv : v < 4294967296) (x0 x1 x2 x3 : Value) (w : World) (hn : 4 ≤ n) (c0 : w.cell? ⟨g, o, none⟩ = some x0) (c1 : w.cell? ⟨g, o + 1, none⟩ = some x1) (c2 : w.cell? ⟨g, o + 2, none⟩ = some x2) (c3 : w.cell? ⟨g, o + 3, none⟩ = some x3) (f0 : w.frozen? ⟨g, o, none⟩ = false) (f1 : w.frozen? ⟨g, o + 1, none⟩ = false) (f2 : w.frozen? ⟨g, o + 2, none⟩ = false) (f3 : w.frozen? ⟨g, o + 3, none⟩ = false) :
    Calls Tryz.prog 210 #[.agg #[], .slice (some ⟨g, o, none⟩) n c, .int .u32 v] w fun e w' => e = .returned (.tuple #[]) ∧ w' = (w.alloc (.cells #[] 307)).setCells g o (Lib.byteCells (Lib.leBytes 4 v)) := Any.binary_LE_PutUint32 Tryz.laysBin31 g o n c v hv x0 x1 x2 x3 w hn c0 c1 c2 c3 f0 f1 f2 f3
def Tryz.laysBin33_ren : Go.Shelf.Ren := ⟨fun | 33 => 223 | n => n, fun | 25 => 307 | 22 => 65 | 33 => 23 | 0 => 0 | 5 => 5 | 45 => 102 | n => n, fun | n => n⟩
theorem Tryz.laysBin33 : Go.Proofs.LaysBin.n33 Tryz.prog Tryz.laysBin33_ren := {
  mixed := by kernel_rfl
  f33 := Tryz.func223.trans (congrArg some (by kernel_rfl))
  t0 := Tryz.underlying0
  a0 := Tryz.isAgg0
  z0 := Tryz.sizeOf0
  v0 := Tryz.zeroValue0
  i0 := by kernel_rfl
  t5 := Tryz.underlying5
  a5 := Tryz.isAgg5
  z5 := Tryz.sizeOf5
  v5 := Tryz.zeroValue5
  i5 := by kernel_rfl
  t22 := Tryz.underlying65
  a22 := Tryz.isAgg65
  z22 := Tryz.sizeOf65
  v22 := Tryz.zeroValue65
  i22 := by kernel_rfl
  t25 := Tryz.underlying307
  a25 := Tryz.isAgg307
  z25 := Tryz.sizeOf307
  v25 := Tryz.zeroValue307
  i25 := by kernel_rfl
  t33 := Tryz.underlying23
  a33 := Tryz.isAgg23
  z33 := Tryz.sizeOf23
  v33 := Tryz.zeroValue23
  i33 := by kernel_rfl
  t45 := Tryz.underlying102
  a45 := Tryz.isAgg102
  z45 := Tryz.sizeOf102
  v45 := Tryz.zeroValue102
  i45 := by kernel_rfl }
open Go.RowKit in
/-- binary.LittleEndian.Uint64: "Uint64 returns the uint64 representation of b[0:8].": THE NUMBER THAT THE FIRST 8 BYTES SPELL, the least byte first ('Lib.leNat'). Of what was there nothing has turned (the receiver, an empty struct, is laid in a new block without cells; the statement's order is drawn). (LAID: no walk: one application.) -/
theorem Tryz.binary_LE_Uint64 (g o n c : Nat) (b0 b1 b2 b3 b4 b5 b6 b7 : UInt8) (w : World) (hn : 8 ≤ n) (c0 : w.cell? ⟨g, o, none⟩ = some (.int .u8 b0.toNat)) (c1 : w.cell? ⟨g, o + 1, none⟩ = some (.int .u8 b1.toNat)) (c2 : w.cell? ⟨g, o + 2, none⟩ = some (.int .u8 b2.toNat)) (c3 : w.cell? ⟨g, o + 3, none⟩ = some (.int .u8 b3.toNat)) (c4 : w.cell? ⟨g, o + 4, none⟩ = some (.int .u8 b4.toNat)) (c5 : w.cell? ⟨g, o + 5, none⟩ = some (.int .u8 b5.toNat)) (c6 : w.cell? ⟨g, o + 6, none⟩ = some (.int .u8 b6.toNat)) (c7 : w.cell? ⟨g, o + 7, none⟩ = some (.int .u8 b7.toNat)) :
    Calls Tryz.prog 223 #[.agg #[], .slice (some ⟨g, o, none⟩) n c] w fun e w' => e = .returned (.int .u64 (Lib.leNat [b0, b1, b2, b3, b4, b5, b6, b7])) ∧ Below w.heap.size w w' := Any.binary_LE_Uint64 Tryz.laysBin33 g o n c b0 b1 b2 b3 b4 b5 b6 b7 w hn c0 c1 c2 c3 c4 c5 c6 c7
def Tryz.laysBin34_ren : Go.Shelf.Ren := ⟨fun | 34 => 225 | n => n, fun | 25 => 307 | 22 => 65 | 33 => 23 | 0 => 0 | 5 => 5 | 45 => 102 | n => n, fun | n => n⟩
theorem Tryz.laysBin34 : Go.Proofs.LaysBin.n34 Tryz.prog Tryz.laysBin34_ren := {
  mixed := by kernel_rfl
  f34 := Tryz.func225.trans (congrArg some (by kernel_rfl))
  t0 := Tryz.underlying0
  a0 := Tryz.isAgg0
  z0 := Tryz.sizeOf0
  v0 := Tryz.zeroValue0
  i0 := by kernel_rfl
  t5 := Tryz.underlying5
  a5 := Tryz.isAgg5
  z5 := Tryz.sizeOf5
  v5 := Tryz.zeroValue5
  i5 := by kernel_rfl
  t22 := Tryz.underlying65
  a22 := Tryz.isAgg65
  z22 := Tryz.sizeOf65
  v22 := Tryz.zeroValue65
  i22 := by kernel_rfl
  t25 := Tryz.underlying307
  a25 := Tryz.isAgg307
  z25 := Tryz.sizeOf307
  v25 := Tryz.zeroValue307
  i25 := by kernel_rfl
  t33 := Tryz.underlying23
  a33 := Tryz.isAgg23
  z33 := Tryz.sizeOf23
  v33 := Tryz.zeroValue23
  i33 := by kernel_rfl
  t45 := Tryz.underlying102
  a45 := Tryz.isAgg102
  z45 := Tryz.sizeOf102
  v45 := Tryz.zeroValue102
  i45 := by kernel_rfl }
open Go.RowKit in
/-- binary.LittleEndian.PutUint64: "PutUint64 stores v into b[0:8].": v's 8 BYTES, the least first ('Lib.leBytes 8 v'), ARE LAID IN THE SLICE's FIRST 8 CELLS ('World.setCells'); nothing else turns (the receiver, an empty struct, is laid in a new block without cells). (LAID: no walk: one application.) -/
theorem Tryz.binary_LE_PutUint64 (g o n c v : Nat) (hv : v < 18446744073709551616) (x0 x1 x2 x3 x4 x5 x6 x7 : Value) (w : World) (hn : 8 ≤ n) (c0 : w.cell? ⟨g, o, none⟩ = some x0) (c1 : w.cell? ⟨g, o + 1, none⟩ = some x1) (c2 : w.cell? ⟨g, o + 2, none⟩ = some x2) (c3 : w.cell? ⟨g, o + 3, none⟩ = some x3) (c4 : w.cell? ⟨g, o + 4, none⟩ = some x4) (c5 : w.cell? ⟨g, o + 5, none⟩ = some x5) (c6 : w.cell? ⟨g, o + 6, none⟩ = some x6) (c7 : w.cell? ⟨g, o + 7, none⟩ = some x7) (f0 : w.frozen? ⟨g, o, none⟩ = false) (f1 : w.frozen? ⟨g, o + 1, none⟩ = false) (f2 : w.frozen? ⟨g, o + 2, none⟩ = false) (f3 : w.frozen? ⟨g, o + 3, none⟩ = false) (f4 : w.frozen? ⟨g, o + 4, none⟩ = false) (f5 : w.frozen? ⟨g, o + 5, none⟩ = false) (f6 : w.frozen? ⟨g, o + 6, none⟩ = false) (f7 : w.frozen? ⟨g, o + 7, none⟩ = false) :
    Calls Tryz.prog 225 #[.agg #[], .slice (some ⟨g, o, none⟩) n c, .int .u64 v] w fun e w' => e = .returned (.tuple #[]) ∧ w' = (w.alloc (.cells #[] 307)).setCells g o (Lib.byteCells (Lib.leBytes 8 v)) := Any.binary_LE_PutUint64 Tryz.laysBin34 g o n c v hv x0 x1 x2 x3 x4 x5 x6 x7 w hn c0 c1 c2 c3 c4 c5 c6 c7 f0 f1 f2 f3 f4 f5 f6 f7
def Tryz.laysBin46_ren : Go.Shelf.Ren := ⟨fun | 46 => 92 | n => n, fun | 22 => 65 | 33 => 23 | 3 => 3 | 4 => 4 | 5 => 5 | 0 => 0 | 45 => 102 | n => n, fun | n => n⟩
theorem Tryz.laysBin46 : Go.Proofs.LaysBin.n46 Tryz.prog Tryz.laysBin46_ren := {
  mixed := by kernel_rfl
  f46 := Tryz.func92.trans (congrArg some (by kernel_rfl))
  t0 := Tryz.underlying0
  a0 := Tryz.isAgg0
  z0 := Tryz.sizeOf0
  v0 := Tryz.zeroValue0
  i0 := by kernel_rfl
  t3 := Tryz.underlying3
  a3 := Tryz.isAgg3
  z3 := Tryz.sizeOf3
  v3 := Tryz.zeroValue3
  i3 := by kernel_rfl
  t4 := Tryz.underlying4
  a4 := Tryz.isAgg4
  z4 := Tryz.sizeOf4
  v4 := Tryz.zeroValue4
  i4 := by kernel_rfl
  t5 := Tryz.underlying5
  a5 := Tryz.isAgg5
  z5 := Tryz.sizeOf5
  v5 := Tryz.zeroValue5
  i5 := by kernel_rfl
  t22 := Tryz.underlying65
  a22 := Tryz.isAgg65
  z22 := Tryz.sizeOf65
  v22 := Tryz.zeroValue65
  i22 := by kernel_rfl
  t33 := Tryz.underlying23
  a33 := Tryz.isAgg23
  z33 := Tryz.sizeOf23
  v33 := Tryz.zeroValue23
  i33 := by kernel_rfl
  t45 := Tryz.underlying102
  a45 := Tryz.isAgg102
  z45 := Tryz.sizeOf102
  v45 := Tryz.zeroValue102
  i45 := by kernel_rfl }
open Go.RowKit in
/-- binary.PutUvarint: "PutUvarint encodes a uint64 into buf and returns the number of bytes written. If the buffer is too small, PutUvarint will panic.": WHERE buf HAS ROOM: x's VARINT ('Lib.uvarint x') IS LAID IN buf's FIRST CELLS ('World.setCells'); its length comes back; nothing else turns. (LAID: no walk: one application.) -/
theorem Tryz.binary_PutUvarint (g o n c x : Nat) (hx : x < 18446744073709551616) (w : World) (hn : (Lib.uvarint x).length ≤ n) (hcell : ∀ j, j < (Lib.uvarint x).length → (w.cell? ⟨g, o + j, none⟩).isSome = true ∧ w.frozen? ⟨g, o + j, none⟩ = false) :
    Calls Tryz.prog 92 #[.slice (some ⟨g, o, none⟩) n c, .int .u64 x] w fun e w' => e = .returned (.int .i64 (Lib.uvarint x).length) ∧ w' = w.setCells g o (Lib.byteCells (Lib.uvarint x)) := Any.binary_PutUvarint Tryz.laysBin46 g o n c x hx w hn hcell
def Tryz.lays189_ren : Go.Shelf.Ren := ⟨fun | 189 => 129 | 125 => 44 | 257 => 135 | 128 => 68 | 129 => 69 | 294 => 142 | 295 => 143 | 296 => 144 | 297 => 145 | 298 => 146 | 299 => 147 | 216 => 148 | 300 => 149 | 301 => 150 | 328 => 153 | 329 => 154 | 330 => 155 | 331 => 156 | 332 => 157 | 215 => 158 | 343 => 160 | n => n, fun | 28 => 200 | 3 => 3 | 46 => 102 | 0 => 0 | 51 => 138 | 53 => 23 | 4 => 4 | 183 => 244 | 182 => 243 | 131 => 146 | 5 => 5 | 9 => 9 | 218 => 251 | 222 => 184 | 228 => 255 | 229 => 219 | n => n, fun | n => n⟩
theorem Tryz.lays189 : Go.Proofs.Lays.n189 Tryz.prog Tryz.lays189_ren := {
  mixed := by kernel_rfl
  f125 := Tryz.func44.trans (congrArg some (by kernel_rfl))
  f128 := Tryz.func68.trans (congrArg some (by kernel_rfl))
  f129 := Tryz.func69.trans (congrArg some (by kernel_rfl))
  f189 := Tryz.func129.trans (congrArg some (by kernel_rfl))
  f215 := Tryz.func158.trans (congrArg some (by kernel_rfl))
  f216 := Tryz.func148.trans (congrArg some (by kernel_rfl))
  f257 := Tryz.func135.trans (congrArg some (by kernel_rfl))
  f294 := Tryz.func142.trans (congrArg some (by kernel_rfl))
  f295 := Tryz.func143.trans (congrArg some (by kernel_rfl))
  f296 := Tryz.func144.trans (congrArg some (by kernel_rfl))
  f297 := Tryz.func145.trans (congrArg some (by kernel_rfl))
  f298 := Tryz.func146.trans (congrArg some (by kernel_rfl))
  f299 := Tryz.func147.trans (congrArg some (by kernel_rfl))
  f300 := Tryz.func149.trans (congrArg some (by kernel_rfl))
  f301 := Tryz.func150.trans (congrArg some (by kernel_rfl))
  f328 := Tryz.func153.trans (congrArg some (by kernel_rfl))
  f329 := Tryz.func154.trans (congrArg some (by kernel_rfl))
  f330 := Tryz.func155.trans (congrArg some (by kernel_rfl))
  f331 := Tryz.func156.trans (congrArg some (by kernel_rfl))
  f332 := Tryz.func157.trans (congrArg some (by kernel_rfl))
  f343 := Tryz.func160.trans (congrArg some (by kernel_rfl))
  t0 := Tryz.underlying0
  a0 := Tryz.isAgg0
  z0 := Tryz.sizeOf0
  v0 := Tryz.zeroValue0
  t3 := Tryz.underlying3
  a3 := Tryz.isAgg3
  z3 := Tryz.sizeOf3
  v3 := Tryz.zeroValue3
  t4 := Tryz.underlying4
  a4 := Tryz.isAgg4
  z4 := Tryz.sizeOf4
  v4 := Tryz.zeroValue4
  t5 := Tryz.underlying5
  a5 := Tryz.isAgg5
  z5 := Tryz.sizeOf5
  v5 := Tryz.zeroValue5
  t9 := Tryz.underlying9
  a9 := Tryz.isAgg9
  z9 := Tryz.sizeOf9
  v9 := Tryz.zeroValue9
  t28 := Tryz.underlying200
  a28 := Tryz.isAgg200
  z28 := Tryz.sizeOf200
  v28 := Tryz.zeroValue200
  t46 := Tryz.underlying102
  a46 := Tryz.isAgg102
  z46 := Tryz.sizeOf102
  v46 := Tryz.zeroValue102
  t51 := Tryz.underlying138
  a51 := Tryz.isAgg138
  z51 := Tryz.sizeOf138
  v51 := Tryz.zeroValue138
  t53 := Tryz.underlying23
  a53 := Tryz.isAgg23
  z53 := Tryz.sizeOf23
  v53 := Tryz.zeroValue23
  t131 := Tryz.underlying146
  a131 := Tryz.isAgg146
  z131 := Tryz.sizeOf146
  v131 := Tryz.zeroValue146
  t182 := Tryz.underlying243
  a182 := Tryz.isAgg243
  z182 := Tryz.sizeOf243
  v182 := Tryz.zeroValue243
  t183 := Tryz.underlying244
  a183 := Tryz.isAgg244
  z183 := Tryz.sizeOf244
  v183 := Tryz.zeroValue244
  t218 := Tryz.underlying251
  a218 := Tryz.isAgg251
  z218 := Tryz.sizeOf251
  v218 := Tryz.zeroValue251
  t222 := Tryz.underlying184
  a222 := Tryz.isAgg184
  z222 := Tryz.sizeOf184
  v222 := Tryz.zeroValue184
  t228 := Tryz.underlying255
  a228 := Tryz.isAgg255
  z228 := Tryz.sizeOf255
  v228 := Tryz.zeroValue255
  t229 := Tryz.underlying219
  a229 := Tryz.isAgg219
  z229 := Tryz.sizeOf219
  v229 := Tryz.zeroValue219 }
open Go.Sort Go.RowKit in
theorem Tryz.slices_Sort_int (blk off cap : Nat) (zs : List Int) (w : World) (hH : Holds (Value.int .i64) w blk off zs.toArray) (hblk : blk < w.heap.size) (hsz : zs.length < 4611686018427387904) :
    Calls Tryz.prog 129 #[.slice (some ⟨blk, off, none⟩) zs.length cap] w fun e w' =>
      e = .returned (.tuple #[]) ∧ ∃ n os, w' = grow (putRow (Value.int .i64) (Sort.ahead w n) blk off (zs.mergeSort fun x y => decide (x ≤ y)).toArray) os := Any.slices_Sort_int Tryz.lays189 blk off cap zs w hH hblk hsz
def Tryz.lays191_ren : Go.Shelf.Ren := ⟨fun | 191 => 120 | 189 => 129 | 125 => 44 | 257 => 135 | 128 => 68 | 129 => 69 | 294 => 142 | 295 => 143 | 296 => 144 | 297 => 145 | 298 => 146 | 299 => 147 | 216 => 148 | 300 => 149 | 301 => 150 | 328 => 153 | 329 => 154 | 330 => 155 | 331 => 156 | 332 => 157 | 215 => 158 | 343 => 160 | n => n, fun | 28 => 200 | 0 => 0 | 3 => 3 | 46 => 102 | 51 => 138 | 53 => 23 | 4 => 4 | 183 => 244 | 182 => 243 | 131 => 146 | 5 => 5 | 9 => 9 | 218 => 251 | 222 => 184 | 228 => 255 | 229 => 219 | n => n, fun | n => n⟩
theorem Tryz.lays191 : Go.Proofs.Lays.n191 Tryz.prog Tryz.lays191_ren := {
  mixed := by kernel_rfl
  f125 := Tryz.func44.trans (congrArg some (by kernel_rfl))
  f128 := Tryz.func68.trans (congrArg some (by kernel_rfl))
  f129 := Tryz.func69.trans (congrArg some (by kernel_rfl))
  f189 := Tryz.func129.trans (congrArg some (by kernel_rfl))
  f191 := Tryz.func120.trans (congrArg some (by kernel_rfl))
  f215 := Tryz.func158.trans (congrArg some (by kernel_rfl))
  f216 := Tryz.func148.trans (congrArg some (by kernel_rfl))
  f257 := Tryz.func135.trans (congrArg some (by kernel_rfl))
  f294 := Tryz.func142.trans (congrArg some (by kernel_rfl))
  f295 := Tryz.func143.trans (congrArg some (by kernel_rfl))
  f296 := Tryz.func144.trans (congrArg some (by kernel_rfl))
  f297 := Tryz.func145.trans (congrArg some (by kernel_rfl))
  f298 := Tryz.func146.trans (congrArg some (by kernel_rfl))
  f299 := Tryz.func147.trans (congrArg some (by kernel_rfl))
  f300 := Tryz.func149.trans (congrArg some (by kernel_rfl))
  f301 := Tryz.func150.trans (congrArg some (by kernel_rfl))
  f328 := Tryz.func153.trans (congrArg some (by kernel_rfl))
  f329 := Tryz.func154.trans (congrArg some (by kernel_rfl))
  f330 := Tryz.func155.trans (congrArg some (by kernel_rfl))
  f331 := Tryz.func156.trans (congrArg some (by kernel_rfl))
  f332 := Tryz.func157.trans (congrArg some (by kernel_rfl))
  f343 := Tryz.func160.trans (congrArg some (by kernel_rfl))
  t0 := Tryz.underlying0
  a0 := Tryz.isAgg0
  z0 := Tryz.sizeOf0
  v0 := Tryz.zeroValue0
  t3 := Tryz.underlying3
  a3 := Tryz.isAgg3
  z3 := Tryz.sizeOf3
  v3 := Tryz.zeroValue3
  t4 := Tryz.underlying4
  a4 := Tryz.isAgg4
  z4 := Tryz.sizeOf4
  v4 := Tryz.zeroValue4
  t5 := Tryz.underlying5
  a5 := Tryz.isAgg5
  z5 := Tryz.sizeOf5
  v5 := Tryz.zeroValue5
  t9 := Tryz.underlying9
  a9 := Tryz.isAgg9
  z9 := Tryz.sizeOf9
  v9 := Tryz.zeroValue9
  t28 := Tryz.underlying200
  a28 := Tryz.isAgg200
  z28 := Tryz.sizeOf200
  v28 := Tryz.zeroValue200
  t46 := Tryz.underlying102
  a46 := Tryz.isAgg102
  z46 := Tryz.sizeOf102
  v46 := Tryz.zeroValue102
  t51 := Tryz.underlying138
  a51 := Tryz.isAgg138
  z51 := Tryz.sizeOf138
  v51 := Tryz.zeroValue138
  t53 := Tryz.underlying23
  a53 := Tryz.isAgg23
  z53 := Tryz.sizeOf23
  v53 := Tryz.zeroValue23
  t131 := Tryz.underlying146
  a131 := Tryz.isAgg146
  z131 := Tryz.sizeOf146
  v131 := Tryz.zeroValue146
  t182 := Tryz.underlying243
  a182 := Tryz.isAgg243
  z182 := Tryz.sizeOf243
  v182 := Tryz.zeroValue243
  t183 := Tryz.underlying244
  a183 := Tryz.isAgg244
  z183 := Tryz.sizeOf244
  v183 := Tryz.zeroValue244
  t218 := Tryz.underlying251
  a218 := Tryz.isAgg251
  z218 := Tryz.sizeOf251
  v218 := Tryz.zeroValue251
  t222 := Tryz.underlying184
  a222 := Tryz.isAgg184
  z222 := Tryz.sizeOf184
  v222 := Tryz.zeroValue184
  t228 := Tryz.underlying255
  a228 := Tryz.isAgg255
  z228 := Tryz.sizeOf255
  v228 := Tryz.zeroValue255
  t229 := Tryz.underlying219
  a229 := Tryz.isAgg219
  z229 := Tryz.sizeOf219
  v229 := Tryz.zeroValue219 }
open Go.Sort Go.RowKit in
theorem Tryz.sort_Ints (blk off cap : Nat) (zs : List Int) (w : World) (hH : Holds (Value.int .i64) w blk off zs.toArray) (hblk : blk < w.heap.size) (hsz : zs.length < 4611686018427387904) :
    Calls Tryz.prog 120 #[.slice (some ⟨blk, off, none⟩) zs.length cap] w fun e w' =>
      e = .returned (.tuple #[]) ∧ ∃ n os, w' = grow (putRow (Value.int .i64) (Sort.ahead w n) blk off (zs.mergeSort fun x y => decide (x ≤ y)).toArray) os := Any.sort_Ints Tryz.lays191 blk off cap zs w hH hblk hsz
def Tryz.laysGg26_ren : Go.Shelf.Ren := ⟨fun | 26 => 70 | n => n, fun | 44 => 105 | 3 => 3 | 0 => 0 | 4 => 4 | 26 => 52 | 37 => 99 | n => n, fun | n => n⟩
theorem Tryz.laysGg26 : Go.Proofs.LaysGg.n26 Tryz.prog Tryz.laysGg26_ren := {
  mixed := by kernel_rfl
  f26 := Tryz.func70.trans (congrArg some (by kernel_rfl))
  t0 := Tryz.underlying0
  a0 := Tryz.isAgg0
  z0 := Tryz.sizeOf0
  v0 := Tryz.zeroValue0
  i0 := by kernel_rfl
  t3 := Tryz.underlying3
  a3 := Tryz.isAgg3
  z3 := Tryz.sizeOf3
  v3 := Tryz.zeroValue3
  i3 := by kernel_rfl
  t4 := Tryz.underlying4
  a4 := Tryz.isAgg4
  z4 := Tryz.sizeOf4
  v4 := Tryz.zeroValue4
  i4 := by kernel_rfl
  t26 := Tryz.underlying52
  a26 := Tryz.isAgg52
  z26 := Tryz.sizeOf52
  v26 := Tryz.zeroValue52
  i26 := by kernel_rfl
  t37 := Tryz.underlying99
  a37 := Tryz.isAgg99
  z37 := Tryz.sizeOf99
  v37 := Tryz.zeroValue99
  i37 := by kernel_rfl
  t44 := Tryz.underlying105
  a44 := Tryz.isAgg105
  z44 := Tryz.sizeOf105
  v44 := Tryz.zeroValue105
  i44 := by kernel_rfl }
open Go.RowKit Go.Lib Go.Sort in
theorem Tryz.insertionSort_func_one {α : Type} [Inhabited α] (enc : α → Value) (lt : α → α → Bool) (g : Nat) (lb : Array Value) (sf : Nat) (sb : Array Value) (blk off a b : Nat) (d : Array α) (w : World) (eg : ∀ args w, (callFunc g args).run Tryz.prog w = .ok (.enter g args) w) (hless : LessReads Tryz.prog g lb enc lt blk off d.size w) (hswap : SwapSwaps Tryz.prog sf sb enc blk off d.size) (hH : Holds enc w blk off d) (hblk : blk < w.heap.size) (hab : a ≤ b) (hb : b ≤ d.size) (hsz : d.size < 4611686018427387904) :
    Calls Tryz.prog 70 #[.agg #[.func (.func g) #[] lb, .func (.func sf) #[] sb], .int .i64 a, .int .i64 b] w fun e w' =>
      e = .returned (.tuple #[]) ∧ ∃ n, w' = putRow enc (Sort.ahead (w.alloc (.cells #[.func (.func g) #[] lb, .func (.func sf) #[] sb] 105)) n) blk off (Sort.insertionSort lt d a b) := Any.insertionSort_func_one Tryz.laysGg26 enc lt g lb sf sb blk off a b d w eg hless hswap hH hblk hab hb hsz
open Go.RowKit in
/-- binary.LittleEndian.Uint32, ITS PREMISES 'open_ints'' CONCLUSION TO THE LETTER: a slice at WHATEVER address a, the numbers zs that its cells hold: THE NUMBER THAT THE FIRST 4 SPELL ('Lib.leZ'). (LAID: no walk: one application.) -/
theorem Tryz.binary_LE_Uint32_z (a : Addr) (n c : Nat) (zs : List Int) (w : World) (hn : 4 ≤ n) (hl : 4 ≤ zs.length) (hcell : ∀ i, i < zs.length → w.cell? (a.add i) = some (.int .u8 (zs.getD i 0))) (hw : ∀ z ∈ zs, (Lit.int .u8 z).wf = true) :
    Calls Tryz.prog 215 #[.agg #[], .slice (some a) n c] w fun e w' => e = .returned (.int .u32 (Lib.leZ (zs.take 4))) ∧ Below w.heap.size w w' := Any.binary_LE_Uint32_z Tryz.laysBin30 a n c zs w hn hl hcell hw
open Go.RowKit in
/-- binary.LittleEndian.Uint64, ITS PREMISES 'open_ints'' CONCLUSION TO THE LETTER: a slice at WHATEVER address a, the numbers zs that its cells hold: THE NUMBER THAT THE FIRST 8 SPELL ('Lib.leZ'). (LAID: no walk: one application.) -/
theorem Tryz.binary_LE_Uint64_z (a : Addr) (n c : Nat) (zs : List Int) (w : World) (hn : 8 ≤ n) (hl : 8 ≤ zs.length) (hcell : ∀ i, i < zs.length → w.cell? (a.add i) = some (.int .u8 (zs.getD i 0))) (hw : ∀ z ∈ zs, (Lit.int .u8 z).wf = true) :
    Calls Tryz.prog 223 #[.agg #[], .slice (some a) n c] w fun e w' => e = .returned (.int .u64 (Lib.leZ (zs.take 8))) ∧ Below w.heap.size w w' := Any.binary_LE_Uint64_z Tryz.laysBin33 a n c zs w hn hl hcell hw
def Tryz.laysGg14_ren : Go.Shelf.Ren := ⟨fun | 14 => 45 | 26 => 70 | 27 => 71 | 28 => 72 | 29 => 73 | 30 => 74 | 31 => 75 | 32 => 76 | 33 => 77 | 34 => 99 | 35 => 100 | 36 => 101 | 37 => 102 | 38 => 103 | 13 => 44 | 39 => 116 | 24 => 68 | 25 => 69 | n => n, fun | 44 => 105 | 3 => 3 | 0 => 0 | 4 => 4 | 54 => 142 | 53 => 141 | 26 => 52 | 58 => 146 | 37 => 99 | 60 => 180 | 41 => 102 | 51 => 23 | 64 => 184 | 66 => 218 | 67 => 219 | 49 => 138 | 5 => 5 | 9 => 9 | n => n, fun | n => n⟩
theorem Tryz.laysGg14 : Go.Proofs.LaysGg.n14 Tryz.prog Tryz.laysGg14_ren := {
  mixed := by kernel_rfl
  f13 := Tryz.func44.trans (congrArg some (by kernel_rfl))
  f14 := Tryz.func45.trans (congrArg some (by kernel_rfl))
  f24 := Tryz.func68.trans (congrArg some (by kernel_rfl))
  f25 := Tryz.func69.trans (congrArg some (by kernel_rfl))
  f26 := Tryz.func70.trans (congrArg some (by kernel_rfl))
  f27 := Tryz.func71.trans (congrArg some (by kernel_rfl))
  f28 := Tryz.func72.trans (congrArg some (by kernel_rfl))
  f29 := Tryz.func73.trans (congrArg some (by kernel_rfl))
  f30 := Tryz.func74.trans (congrArg some (by kernel_rfl))
  f31 := Tryz.func75.trans (congrArg some (by kernel_rfl))
  f32 := Tryz.func76.trans (congrArg some (by kernel_rfl))
  f33 := Tryz.func77.trans (congrArg some (by kernel_rfl))
  f34 := Tryz.func99.trans (congrArg some (by kernel_rfl))
  f35 := Tryz.func100.trans (congrArg some (by kernel_rfl))
  f36 := Tryz.func101.trans (congrArg some (by kernel_rfl))
  f37 := Tryz.func102.trans (congrArg some (by kernel_rfl))
  f38 := Tryz.func103.trans (congrArg some (by kernel_rfl))
  f39 := Tryz.func116.trans (congrArg some (by kernel_rfl))
  t0 := Tryz.underlying0
  a0 := Tryz.isAgg0
  z0 := Tryz.sizeOf0
  v0 := Tryz.zeroValue0
  i0 := by kernel_rfl
  t3 := Tryz.underlying3
  a3 := Tryz.isAgg3
  z3 := Tryz.sizeOf3
  v3 := Tryz.zeroValue3
  i3 := by kernel_rfl
  t4 := Tryz.underlying4
  a4 := Tryz.isAgg4
  z4 := Tryz.sizeOf4
  v4 := Tryz.zeroValue4
  i4 := by kernel_rfl
  t5 := Tryz.underlying5
  a5 := Tryz.isAgg5
  z5 := Tryz.sizeOf5
  v5 := Tryz.zeroValue5
  i5 := by kernel_rfl
  t9 := Tryz.underlying9
  a9 := Tryz.isAgg9
  z9 := Tryz.sizeOf9
  v9 := Tryz.zeroValue9
  i9 := by kernel_rfl
  t26 := Tryz.underlying52
  a26 := Tryz.isAgg52
  z26 := Tryz.sizeOf52
  v26 := Tryz.zeroValue52
  i26 := by kernel_rfl
  t37 := Tryz.underlying99
  a37 := Tryz.isAgg99
  z37 := Tryz.sizeOf99
  v37 := Tryz.zeroValue99
  i37 := by kernel_rfl
  t41 := Tryz.underlying102
  a41 := Tryz.isAgg102
  z41 := Tryz.sizeOf102
  v41 := Tryz.zeroValue102
  i41 := by kernel_rfl
  t44 := Tryz.underlying105
  a44 := Tryz.isAgg105
  z44 := Tryz.sizeOf105
  v44 := Tryz.zeroValue105
  i44 := by kernel_rfl
  t49 := Tryz.underlying138
  a49 := Tryz.isAgg138
  z49 := Tryz.sizeOf138
  v49 := Tryz.zeroValue138
  i49 := by kernel_rfl
  t51 := Tryz.underlying23
  a51 := Tryz.isAgg23
  z51 := Tryz.sizeOf23
  v51 := Tryz.zeroValue23
  i51 := by kernel_rfl
  t53 := Tryz.underlying141
  a53 := Tryz.isAgg141
  z53 := Tryz.sizeOf141
  v53 := Tryz.zeroValue141
  i53 := by kernel_rfl
  t54 := Tryz.underlying142
  a54 := Tryz.isAgg142
  z54 := Tryz.sizeOf142
  v54 := Tryz.zeroValue142
  i54 := by kernel_rfl
  t58 := Tryz.underlying146
  a58 := Tryz.isAgg146
  z58 := Tryz.sizeOf146
  v58 := Tryz.zeroValue146
  i58 := by kernel_rfl
  t60 := Tryz.underlying180
  a60 := Tryz.isAgg180
  z60 := Tryz.sizeOf180
  v60 := Tryz.zeroValue180
  i60 := by kernel_rfl
  t64 := Tryz.underlying184
  a64 := Tryz.isAgg184
  z64 := Tryz.sizeOf184
  v64 := Tryz.zeroValue184
  i64 := by kernel_rfl
  t66 := Tryz.underlying218
  a66 := Tryz.isAgg218
  z66 := Tryz.sizeOf218
  v66 := Tryz.zeroValue218
  i66 := by kernel_rfl
  t67 := Tryz.underlying219
  a67 := Tryz.isAgg219
  z67 := Tryz.sizeOf219
  v67 := Tryz.zeroValue219
  i67 := by kernel_rfl }
open Go.RowKit Go.Lib Go.Sort in
/-- sort.pdqsort_func AT A RANGE OF AT MOST 12. (LAID: no walk: one application.) -/
theorem Tryz.pdqsort_func_small {α : Type} [Inhabited α] (enc : α → Value) (lt : α → α → Bool) (g : Nat) (lb : Array Value) (sf : Nat) (sb : Array Value) (blk off a b : Nat) (lim : Int) (d : Array α) (w : World) (eg : ∀ args w, (callFunc g args).run Tryz.prog w = .ok (.enter g args) w) (hless : LessReads Tryz.prog g lb enc lt blk off d.size w) (hswap : SwapSwaps Tryz.prog sf sb enc blk off d.size) (hH : Holds enc w blk off d) (hblk : blk < w.heap.size) (hab : a ≤ b) (hb : b ≤ d.size) (hsz : d.size < 4611686018427387904) (h12 : b - a ≤ 12) :
    Calls Tryz.prog 45 #[.agg #[.func (.func g) #[] lb, .func (.func sf) #[] sb], .int .i64 a, .int .i64 b, .int .i64 lim] w fun e w' =>
      e = .returned (.tuple #[]) ∧ ∃ n, w' = putRow enc (Sort.ahead ((w.alloc (.cells #[.func (.func g) #[] lb, .func (.func sf) #[] sb] 105)).alloc (.cells #[.func (.func g) #[] lb, .func (.func sf) #[] sb] 105)) n) blk off (Sort.insertionSort lt d a b) := Any.pdqsort_func_small Tryz.laysGg14 enc lt g lb sf sb blk off a b lim d w eg hless hswap hH hblk hab hb hsz h12
def Tryz.laysGg6_ren : Go.Shelf.Ren := ⟨fun | 6 => 22 | 10 => 41 | 11 => 42 | 12 => 43 | 13 => 44 | 14 => 45 | 24 => 68 | 25 => 69 | 26 => 70 | 27 => 71 | 28 => 72 | 29 => 73 | 30 => 74 | 31 => 75 | 32 => 76 | 33 => 77 | 34 => 99 | 35 => 100 | 36 => 101 | 37 => 102 | 38 => 103 | 39 => 116 | n => n, fun | 20 => 20 | 26 => 52 | 35 => 97 | 0 => 0 | 37 => 99 | 3 => 3 | 41 => 102 | 44 => 105 | 49 => 138 | 51 => 23 | 4 => 4 | 54 => 142 | 53 => 141 | 58 => 146 | 5 => 5 | 9 => 9 | 60 => 180 | 64 => 184 | 66 => 218 | 67 => 219 | 17 => 17 | 32 => 94 | 33 => 95 | 82 => 268 | 12 => 12 | 75 => 262 | 76 => 263 | 77 => 264 | 78 => 217 | 79 => 265 | 80 => 266 | n => n, fun | n => n⟩
theorem Tryz.laysGg6 : Go.Proofs.LaysGg.n6 Tryz.prog Tryz.laysGg6_ren := {
  mixed := by kernel_rfl
  f6 := Tryz.func22.trans (congrArg some (by kernel_rfl))
  f10 := Tryz.func41.trans (congrArg some (by kernel_rfl))
  f11 := Tryz.func42.trans (congrArg some (by kernel_rfl))
  f12 := Tryz.func43.trans (congrArg some (by kernel_rfl))
  f13 := Tryz.func44.trans (congrArg some (by kernel_rfl))
  f14 := Tryz.func45.trans (congrArg some (by kernel_rfl))
  f24 := Tryz.func68.trans (congrArg some (by kernel_rfl))
  f25 := Tryz.func69.trans (congrArg some (by kernel_rfl))
  f26 := Tryz.func70.trans (congrArg some (by kernel_rfl))
  f27 := Tryz.func71.trans (congrArg some (by kernel_rfl))
  f28 := Tryz.func72.trans (congrArg some (by kernel_rfl))
  f29 := Tryz.func73.trans (congrArg some (by kernel_rfl))
  f30 := Tryz.func74.trans (congrArg some (by kernel_rfl))
  f31 := Tryz.func75.trans (congrArg some (by kernel_rfl))
  f32 := Tryz.func76.trans (congrArg some (by kernel_rfl))
  f33 := Tryz.func77.trans (congrArg some (by kernel_rfl))
  f34 := Tryz.func99.trans (congrArg some (by kernel_rfl))
  f35 := Tryz.func100.trans (congrArg some (by kernel_rfl))
  f36 := Tryz.func101.trans (congrArg some (by kernel_rfl))
  f37 := Tryz.func102.trans (congrArg some (by kernel_rfl))
  f38 := Tryz.func103.trans (congrArg some (by kernel_rfl))
  f39 := Tryz.func116.trans (congrArg some (by kernel_rfl))
  t0 := Tryz.underlying0
  a0 := Tryz.isAgg0
  z0 := Tryz.sizeOf0
  v0 := Tryz.zeroValue0
  i0 := by kernel_rfl
  t3 := Tryz.underlying3
  a3 := Tryz.isAgg3
  z3 := Tryz.sizeOf3
  v3 := Tryz.zeroValue3
  i3 := by kernel_rfl
  t4 := Tryz.underlying4
  a4 := Tryz.isAgg4
  z4 := Tryz.sizeOf4
  v4 := Tryz.zeroValue4
  i4 := by kernel_rfl
  t5 := Tryz.underlying5
  a5 := Tryz.isAgg5
  z5 := Tryz.sizeOf5
  v5 := Tryz.zeroValue5
  i5 := by kernel_rfl
  t9 := Tryz.underlying9
  a9 := Tryz.isAgg9
  z9 := Tryz.sizeOf9
  v9 := Tryz.zeroValue9
  i9 := by kernel_rfl
  t12 := Tryz.underlying12
  a12 := Tryz.isAgg12
  z12 := Tryz.sizeOf12
  v12 := Tryz.zeroValue12
  i12 := by kernel_rfl
  t17 := Tryz.underlying17
  a17 := Tryz.isAgg17
  z17 := Tryz.sizeOf17
  v17 := Tryz.zeroValue17
  i17 := by kernel_rfl
  t20 := Tryz.underlying20
  a20 := Tryz.isAgg20
  z20 := Tryz.sizeOf20
  v20 := Tryz.zeroValue20
  i20 := by kernel_rfl
  t26 := Tryz.underlying52
  a26 := Tryz.isAgg52
  z26 := Tryz.sizeOf52
  v26 := Tryz.zeroValue52
  i26 := by kernel_rfl
  t32 := Tryz.underlying94
  a32 := Tryz.isAgg94
  z32 := Tryz.sizeOf94
  v32 := Tryz.zeroValue94
  i32 := by kernel_rfl
  t33 := Tryz.underlying95
  a33 := Tryz.isAgg95
  z33 := Tryz.sizeOf95
  v33 := Tryz.zeroValue95
  i33 := by kernel_rfl
  t35 := Tryz.underlying97
  a35 := Tryz.isAgg97
  z35 := Tryz.sizeOf97
  v35 := Tryz.zeroValue97
  i35 := by kernel_rfl
  t37 := Tryz.underlying99
  a37 := Tryz.isAgg99
  z37 := Tryz.sizeOf99
  v37 := Tryz.zeroValue99
  i37 := by kernel_rfl
  t41 := Tryz.underlying102
  a41 := Tryz.isAgg102
  z41 := Tryz.sizeOf102
  v41 := Tryz.zeroValue102
  i41 := by kernel_rfl
  t44 := Tryz.underlying105
  a44 := Tryz.isAgg105
  z44 := Tryz.sizeOf105
  v44 := Tryz.zeroValue105
  i44 := by kernel_rfl
  t49 := Tryz.underlying138
  a49 := Tryz.isAgg138
  z49 := Tryz.sizeOf138
  v49 := Tryz.zeroValue138
  i49 := by kernel_rfl
  t51 := Tryz.underlying23
  a51 := Tryz.isAgg23
  z51 := Tryz.sizeOf23
  v51 := Tryz.zeroValue23
  i51 := by kernel_rfl
  t53 := Tryz.underlying141
  a53 := Tryz.isAgg141
  z53 := Tryz.sizeOf141
  v53 := Tryz.zeroValue141
  i53 := by kernel_rfl
  t54 := Tryz.underlying142
  a54 := Tryz.isAgg142
  z54 := Tryz.sizeOf142
  v54 := Tryz.zeroValue142
  i54 := by kernel_rfl
  t58 := Tryz.underlying146
  a58 := Tryz.isAgg146
  z58 := Tryz.sizeOf146
  v58 := Tryz.zeroValue146
  i58 := by kernel_rfl
  t60 := Tryz.underlying180
  a60 := Tryz.isAgg180
  z60 := Tryz.sizeOf180
  v60 := Tryz.zeroValue180
  i60 := by kernel_rfl
  t64 := Tryz.underlying184
  a64 := Tryz.isAgg184
  z64 := Tryz.sizeOf184
  v64 := Tryz.zeroValue184
  i64 := by kernel_rfl
  t66 := Tryz.underlying218
  a66 := Tryz.isAgg218
  z66 := Tryz.sizeOf218
  v66 := Tryz.zeroValue218
  i66 := by kernel_rfl
  t67 := Tryz.underlying219
  a67 := Tryz.isAgg219
  z67 := Tryz.sizeOf219
  v67 := Tryz.zeroValue219
  i67 := by kernel_rfl
  t75 := Tryz.underlying262
  a75 := Tryz.isAgg262
  z75 := Tryz.sizeOf262
  v75 := Tryz.zeroValue262
  i75 := by kernel_rfl
  t76 := Tryz.underlying263
  a76 := Tryz.isAgg263
  z76 := Tryz.sizeOf263
  v76 := Tryz.zeroValue263
  i76 := by kernel_rfl
  t77 := Tryz.underlying264
  a77 := Tryz.isAgg264
  z77 := Tryz.sizeOf264
  v77 := Tryz.zeroValue264
  i77 := by kernel_rfl
  t78 := Tryz.underlying217
  a78 := Tryz.isAgg217
  z78 := Tryz.sizeOf217
  v78 := Tryz.zeroValue217
  i78 := by kernel_rfl
  t79 := Tryz.underlying265
  a79 := Tryz.isAgg265
  z79 := Tryz.sizeOf265
  v79 := Tryz.zeroValue265
  i79 := by kernel_rfl
  t80 := Tryz.underlying266
  a80 := Tryz.isAgg266
  z80 := Tryz.sizeOf266
  v80 := Tryz.zeroValue266
  i80 := by kernel_rfl
  t82 := Tryz.underlying268
  a82 := Tryz.isAgg268
  z82 := Tryz.sizeOf268
  v82 := Tryz.zeroValue268
  i82 := by kernel_rfl }
def Tryz.laysM252_ren : Go.Shelf.Ren := ⟨fun | 252 => 182 | 181 => 183 | 184 => 178 | 251 => 181 | 290 => 184 | 324 => 185 | n => n, fun | 130 => 78 | 3 => 3 | 4 => 4 | 0 => 0 | 93 => 75 | 131 => 146 | 37 => 65 | 75 => 69 | 91 => 73 | 20 => 20 | 5 => 5 | 80 => 80 | 9 => 9 | n => n, fun | 14 => 12 | n => n⟩
theorem Tryz.laysM252 : Go.Proofs.LaysM.n252 Tryz.prog Tryz.laysM252_ren := {
  mixed := by kernel_rfl
  f181 := Tryz.func183.trans (congrArg some (by kernel_rfl))
  f184 := Tryz.func178.trans (congrArg some (by kernel_rfl))
  f251 := Tryz.func181.trans (congrArg some (by kernel_rfl))
  f252 := Tryz.func182.trans (congrArg some (by kernel_rfl))
  f290 := Tryz.func184.trans (congrArg some (by kernel_rfl))
  f324 := Tryz.func185.trans (congrArg some (by kernel_rfl))
  t0 := Tryz.underlying0
  a0 := Tryz.isAgg0
  z0 := Tryz.sizeOf0
  v0 := Tryz.zeroValue0
  t3 := Tryz.underlying3
  a3 := Tryz.isAgg3
  z3 := Tryz.sizeOf3
  v3 := Tryz.zeroValue3
  t4 := Tryz.underlying4
  a4 := Tryz.isAgg4
  z4 := Tryz.sizeOf4
  v4 := Tryz.zeroValue4
  t20 := Tryz.underlying20
  a20 := Tryz.isAgg20
  z20 := Tryz.sizeOf20
  v20 := Tryz.zeroValue20
  t37 := Tryz.underlying65
  a37 := Tryz.isAgg65
  z37 := Tryz.sizeOf65
  v37 := Tryz.zeroValue65
  t75 := Tryz.underlying69
  a75 := Tryz.isAgg69
  z75 := Tryz.sizeOf69
  v75 := Tryz.zeroValue69
  t91 := Tryz.underlying73
  a91 := Tryz.isAgg73
  z91 := Tryz.sizeOf73
  v91 := Tryz.zeroValue73
  t93 := Tryz.underlying75
  a93 := Tryz.isAgg75
  z93 := Tryz.sizeOf75
  v93 := Tryz.zeroValue75
  t130 := Tryz.underlying78
  a130 := Tryz.isAgg78
  z130 := Tryz.sizeOf78
  v130 := Tryz.zeroValue78
  t131 := Tryz.underlying146
  a131 := Tryz.isAgg146
  z131 := Tryz.sizeOf146
  v131 := Tryz.zeroValue146
  g14 := by kernel_rfl
  t5 := Tryz.underlying5
  a5 := Tryz.isAgg5
  z5 := Tryz.sizeOf5
  v5 := Tryz.zeroValue5
  t9 := Tryz.underlying9
  a9 := Tryz.isAgg9
  z9 := Tryz.sizeOf9
  v9 := Tryz.zeroValue9
  t80 := Tryz.underlying80
  a80 := Tryz.isAgg80
  z80 := Tryz.sizeOf80
  v80 := Tryz.zeroValue80
  i0 := by kernel_rfl
  i3 := by kernel_rfl
  i4 := by kernel_rfl
  i5 := by kernel_rfl
  i9 := by kernel_rfl
  i20 := by kernel_rfl
  i37 := by kernel_rfl
  i75 := by kernel_rfl
  i80 := by kernel_rfl
  i91 := by kernel_rfl
  i93 := by kernel_rfl
  i130 := by kernel_rfl
  i131 := by kernel_rfl
  m14 := by kernel_rfl }
open Go.RowKit in
/-- grow, WHERE THE BUFFER HOLDS A ROW, NO BYTE IN IT (behind a Reset), AND THE ROW HAS NO ROOM: growSlice. (THE TEXT OF 'Buffer_grow_row' WITH 0 FOR l, BY PROGRAM: the walk parts on 'm == 0' and writes 0 for l throughout the goal: facts that still say l then do not strike: so l is laid in ahead of the walk.) (LAID: no walk: one application.) -/
theorem Tryz.Buffer_grow_row0_own (B b g cap n : Nat) (lr : Int) (cur : Array Value) (bs : List Value) (w : World) (hB : B ≤ b) (hBw : B ≤ w.heap.size) (hbk : w.heap[b]? = some (.cells #[.slice (some ⟨g, 0, none⟩) 0 cap, .int .i64 0, .int .i8 lr] 75 (0, 0))) (hl : bs.length = 0) (hBg : B ≤ g) (hg : w.heap[g]? = some (.cells cur 5 (0, 0))) (hlc : 0 ≤ cap) (hcm : cap ≤ maxLen) (hcs : cur.size = cap) (htake : cur.toList.take 0 = bs) (hgb : g ≠ b) (h1 : ∀ v ∈ bs, v.oneCell' = true) (hn : 1 ≤ n) (hroom : cap - 0 < n) (hlim : 0 + n ≤ 140737488355328) :
    Calls Tryz.prog 182 #[.pointer (some ⟨b, 0, none⟩), .int .i64 n] w fun e w' => e = .returned (.int .i64 0) ∧ ∃ xs, xs.length = n ∧ Lib.IsBuffer 75 5 B b (bs ++ xs) w' ∧ Below B w w' ∧ Lib.OthersKept 5 (some b) w w' ∧ w.grownBy w' (some b) := Any.Buffer_grow_row0_own Tryz.laysM252 B b g cap n lr cur bs w hB hBw hbk hl hBg hg hlc hcm hcs htake hgb h1 hn hroom hlim
open Go.RowKit Go.Lib Go.Sort in
theorem Tryz.insertionSort_func_cells {α : Type} [Inhabited α] (enc : α → List Value) (k : Nat) (hk : ∀ x, (enc x).length = k) (lt : α → α → Bool) (g : Nat) (lb : Array Value) (sf : Nat) (sb : Array Value) (blk off a b : Nat) (d : Array α) (w : World) (eg : ∀ args w, (callFunc g args).run Tryz.prog w = .ok (.enter g args) w) (hless : LessReadsK Tryz.prog g lb enc k lt blk off d.size w) (hswap : SwapSwapsK Tryz.prog sf sb enc k blk off d.size) (hH : HoldsK enc k w blk off d) (hblk : blk < w.heap.size) (hab : a ≤ b) (hb : b ≤ d.size) (hsz : d.size < 4611686018427387904) :
    Calls Tryz.prog 70 #[.agg #[.func (.func g) #[] lb, .func (.func sf) #[] sb], .int .i64 a, .int .i64 b] w fun e w' =>
      e = .returned (.tuple #[]) ∧ ∃ n, w' = putRowK enc k (Sort.ahead (w.alloc (.cells #[.func (.func g) #[] lb, .func (.func sf) #[] sb] 105)) n) blk off (Sort.insertionSort lt d a b) := Any.insertionSort_func_cells Tryz.laysGg26 enc k hk lt g lb sf sb blk off a b d w eg hless hswap hH hblk hab hb hsz
open Go.RowKit in
/-- grow, WHERE THE BUFFER HOLDS A ROW THAT HAS NO ROOM: growSlice. (LAID: no walk: one application.) -/
theorem Tryz.Buffer_grow_row_own (B b g l cap n : Nat) (lr : Int) (cur : Array Value) (bs : List Value) (w : World) (hB : B ≤ b) (hBw : B ≤ w.heap.size) (hbk : w.heap[b]? = some (.cells #[.slice (some ⟨g, 0, none⟩) l cap, .int .i64 0, .int .i8 lr] 75 (0, 0))) (hl : bs.length = l) (hBg : B ≤ g) (hg : w.heap[g]? = some (.cells cur 5 (0, 0))) (hlc : l ≤ cap) (hcm : cap ≤ maxLen) (hcs : cur.size = cap) (htake : cur.toList.take l = bs) (hgb : g ≠ b) (h1 : ∀ v ∈ bs, v.oneCell' = true) (hn : 1 ≤ n) (hroom : cap - l < n) (hlim : l + n ≤ 140737488355328) :
    Calls Tryz.prog 182 #[.pointer (some ⟨b, 0, none⟩), .int .i64 n] w fun e w' => e = .returned (.int .i64 l) ∧ ∃ xs, xs.length = n ∧ Lib.IsBuffer 75 5 B b (bs ++ xs) w' ∧ Below B w w' ∧ Lib.OthersKept 5 (some b) w w' ∧ w.grownBy w' (some b) := Any.Buffer_grow_row_own Tryz.laysM252 B b g l cap n lr cur bs w hB hBw hbk hl hBg hg hlc hcm hcs htake hgb h1 hn hroom hlim
open Go.RowKit Go.Lib Go.Sort in
/-- sort.pdqsort_func AT A RANGE OF AT MOST 12. (LAID: no walk: one application.) -/
theorem Tryz.pdqsort_func_small_cells {α : Type} [Inhabited α] (enc : α → List Value) (k : Nat) (hk : ∀ x, (enc x).length = k) (lt : α → α → Bool) (g : Nat) (lb : Array Value) (sf : Nat) (sb : Array Value) (blk off a b : Nat) (lim : Int) (d : Array α) (w : World) (eg : ∀ args w, (callFunc g args).run Tryz.prog w = .ok (.enter g args) w) (hless : LessReadsK Tryz.prog g lb enc k lt blk off d.size w) (hswap : SwapSwapsK Tryz.prog sf sb enc k blk off d.size) (hH : HoldsK enc k w blk off d) (hblk : blk < w.heap.size) (hab : a ≤ b) (hb : b ≤ d.size) (hsz : d.size < 4611686018427387904) (h12 : b - a ≤ 12) :
    Calls Tryz.prog 45 #[.agg #[.func (.func g) #[] lb, .func (.func sf) #[] sb], .int .i64 a, .int .i64 b, .int .i64 lim] w fun e w' =>
      e = .returned (.tuple #[]) ∧ ∃ n, w' = putRowK enc k (Sort.ahead ((w.alloc (.cells #[.func (.func g) #[] lb, .func (.func sf) #[] sb] 105)).alloc (.cells #[.func (.func g) #[] lb, .func (.func sf) #[] sb] 105)) n) blk off (Sort.insertionSort lt d a b) := Any.pdqsort_func_small_cells Tryz.laysGg14 enc k hk lt g lb sf sb blk off a b lim d w eg hless hswap hH hblk hab hb hsz h12
open Go.RowKit in
/-- grow, 'buf' nil, n AT MOST 64: 'b.buf = make([]byte, n, smallBufferSize)'. (LAID: no walk: one application.) -/
theorem Tryz.Buffer_grow_nil_small_own (B b n : Nat) (lr : Int) (w : World) (hB : B ≤ b) (hBw : B ≤ w.heap.size) (hbk : w.heap[b]? = some (.cells #[.slice none 0 0, .int .i64 0, .int .i8 lr] 75 (0, 0))) (hn : 1 ≤ n) (h64 : n ≤ 64) :
    Calls Tryz.prog 182 #[.pointer (some ⟨b, 0, none⟩), .int .i64 n] w fun e w' => e = .returned (.int .i64 0) ∧ ∃ xs, xs.length = n ∧ Lib.IsBuffer 75 5 B b xs w' ∧ Below B w w' ∧ Lib.OthersKept 5 (some b) w w' ∧ w.grownBy w' (some b) := Any.Buffer_grow_nil_small_own Tryz.laysM252 B b n lr w hB hBw hbk hn h64
open Go.RowKit in
/-- grow, 'buf' nil, n ABOVE 64: growSlice of the nil slice. (LAID: no walk: one application.) -/
theorem Tryz.Buffer_grow_nil_big_own (B b n : Nat) (lr : Int) (w : World) (hB : B ≤ b) (hBw : B ≤ w.heap.size) (hbk : w.heap[b]? = some (.cells #[.slice none 0 0, .int .i64 0, .int .i8 lr] 75 (0, 0))) (h64 : 64 < n) (hlim : n ≤ 140737488355328) :
    Calls Tryz.prog 182 #[.pointer (some ⟨b, 0, none⟩), .int .i64 n] w fun e w' => e = .returned (.int .i64 0) ∧ ∃ xs, xs.length = n ∧ Lib.IsBuffer 75 5 B b xs w' ∧ Below B w w' ∧ Lib.OthersKept 5 (some b) w w' ∧ w.grownBy w' (some b) := Any.Buffer_grow_nil_big_own Tryz.laysM252 B b n lr w hB hBw hbk h64 hlim
open Go.RowKit Go.Lib Go.Sort in
theorem Tryz.insertionSort_func_none (lf : Fn) (la lb : Array Value) (f : Nat) (sb : Array Value) (a b : Nat) (h : b ≤ a + 1) (ha : a < 4611686018427387904) (w : World) :
    Calls Tryz.prog 70 #[.agg #[.func lf la lb, .func (.func f) #[] sb], .int .i64 a, .int .i64 b] w fun e w' => e = .returned (.tuple #[]) ∧ w' = w.alloc (.cells #[.func lf la lb, .func (.func f) #[] sb] 105) := Any.insertionSort_func_none Tryz.laysGg26 lf la lb f sb a b h ha w
open Go.RowKit Go.Lib Go.Sort in
theorem Tryz.pdqsort_func_tiny (lf : Fn) (la lb : Array Value) (f : Nat) (sb : Array Value) (n : Nat) (h : n ≤ 1) (lim : Int) (w : World) :
    Calls Tryz.prog 45 #[.agg #[.func lf la lb, .func (.func f) #[] sb], .int .i64 0, .int .i64 n, .int .i64 lim] w fun e w' => e = .returned (.tuple #[]) ∧ w' = (w.alloc (.cells #[.func lf la lb, .func (.func f) #[] sb] 105)).alloc (.cells #[.func lf la lb, .func (.func f) #[] sb] 105) := Any.pdqsort_func_tiny Tryz.laysGg14 lf la lb f sb n h lim w
open Go.RowKit in
/-- tryGrowByReslice: EITHER there is room: the place to write at is the old length, and the buffer holds the old bytes and n more of whatever lay there; OR there is none: nothing turns, and 'Lib.NoRoom' is what grow asks. (LAID: no walk: one application.) -/
theorem Tryz.Buffer_tryGrow_own (B b n : Nat) (bs : List Value) (w : World) (h : Lib.IsBuffer 75 5 B b bs w) :
    Calls Tryz.prog 181 #[.pointer (some ⟨b, 0, none⟩), .int .i64 n] w fun e w' =>
      (e = .returned (.tuple #[.int .i64 bs.length, .bool true]) ∧ ∃ xs, xs.length = n ∧ Lib.IsBuffer 75 5 B b (bs ++ xs) w' ∧ Below B w w' ∧ Lib.OthersKept 5 (some b) w w' ∧ w.grownBy w' (some b)) ∨
      (e = .returned (.tuple #[.int .i64 0, .bool false]) ∧ w' = w ∧ Lib.NoRoom b n w) := Any.Buffer_tryGrow_own Tryz.laysM251 B b n bs w h
open Go.RowKit in
/-- (*bytes.Buffer).grow: "grow grows the buffer to guarantee space for n more bytes. It returns the index where bytes should be written.": WHERE THERE IS NO ROOM; UNDER Go's OWN LIMIT (the new length takes at most 2^47 bytes): the old length; the buffer holds the old bytes and n more of whatever. (LAID: no walk: one application.) -/
theorem Tryz.Buffer_grow_own (B b n : Nat) (bs : List Value) (w : World) (h : Lib.IsBuffer 75 5 B b bs w) (hnr : Lib.NoRoom b n w) (hBw : B ≤ w.heap.size) (h1 : ∀ v ∈ bs, v.oneCell' = true) (hlim : bs.length + n ≤ 140737488355328) :
    Calls Tryz.prog 182 #[.pointer (some ⟨b, 0, none⟩), .int .i64 n] w fun e w' => e = .returned (.int .i64 bs.length) ∧ ∃ xs, xs.length = n ∧ Lib.IsBuffer 75 5 B b (bs ++ xs) w' ∧ Below B w w' ∧ Lib.OthersKept 5 (some b) w w' ∧ w.grownBy w' (some b) := Any.Buffer_grow_own Tryz.laysM252 B b n bs w h hnr hBw h1 hlim
open Go.RowKit Go.Lib Go.Sort in
/-- sort.insertionSort_func, from a world to a 'sortWorld' of it. (LAID: no walk: one application.) -/
theorem Tryz.insertionSort_func_w {α : Type} [Inhabited α] (enc : α → Value) (lt : α → α → Bool) (g : Nat) (lb : Array Value) (sf : Nat) (sb : Array Value) (blk off a b : Nat) (d : Array α) (w : World) (eg : ∀ args w, (callFunc g args).run Tryz.prog w = .ok (.enter g args) w) (hless : LessReads Tryz.prog g lb enc lt blk off d.size w) (hswap : SwapSwaps Tryz.prog sf sb enc blk off d.size) (hH : Holds enc w blk off d) (hblk : blk < w.heap.size) (hab : a ≤ b) (hb : b ≤ d.size) (hsz : d.size < 4611686018427387904) :
    Calls Tryz.prog 70 #[.agg #[.func (.func g) #[] lb, .func (.func sf) #[] sb], .int .i64 a, .int .i64 b] w fun e w' => e = .returned (.tuple #[]) ∧ ∃ n os, w' = sortWorld enc w blk off n (Sort.insertionSort lt d a b) os := Any.insertionSort_func_w Tryz.laysGg26 enc lt g lb sf sb blk off a b d w eg hless hswap hH hblk hab hb hsz
def Tryz.laysGg30_ren : Go.Shelf.Ren := ⟨fun | 30 => 74 | n => n, fun | 44 => 105 | 3 => 3 | 0 => 0 | 4 => 4 | 37 => 99 | 26 => 52 | n => n, fun | n => n⟩
theorem Tryz.laysGg30 : Go.Proofs.LaysGg.n30 Tryz.prog Tryz.laysGg30_ren := {
  mixed := by kernel_rfl
  f30 := Tryz.func74.trans (congrArg some (by kernel_rfl))
  t0 := Tryz.underlying0
  a0 := Tryz.isAgg0
  z0 := Tryz.sizeOf0
  v0 := Tryz.zeroValue0
  i0 := by kernel_rfl
  t3 := Tryz.underlying3
  a3 := Tryz.isAgg3
  z3 := Tryz.sizeOf3
  v3 := Tryz.zeroValue3
  i3 := by kernel_rfl
  t4 := Tryz.underlying4
  a4 := Tryz.isAgg4
  z4 := Tryz.sizeOf4
  v4 := Tryz.zeroValue4
  i4 := by kernel_rfl
  t26 := Tryz.underlying52
  a26 := Tryz.isAgg52
  z26 := Tryz.sizeOf52
  v26 := Tryz.zeroValue52
  i26 := by kernel_rfl
  t37 := Tryz.underlying99
  a37 := Tryz.isAgg99
  z37 := Tryz.sizeOf99
  v37 := Tryz.zeroValue99
  i37 := by kernel_rfl
  t44 := Tryz.underlying105
  a44 := Tryz.isAgg105
  z44 := Tryz.sizeOf105
  v44 := Tryz.zeroValue105
  i44 := by kernel_rfl }
open Go.RowKit Go.Lib Go.Sort in
theorem Tryz.reverseRange_func_one {α : Type} [Inhabited α] (enc : α → Value) (lf : Fn) (la lb : Array Value) (sf : Nat) (sb : Array Value) (blk off a b : Nat) (d : Array α) (w : World) (hswap : SwapSwaps Tryz.prog sf sb enc blk off d.size) (hH : Holds enc w blk off d) (hblk : blk < w.heap.size) (hab : a ≤ b) (hb : b ≤ d.size) (hsz : d.size < 4611686018427387904) :
    Calls Tryz.prog 74 #[.agg #[.func lf la lb, .func (.func sf) #[] sb], .int .i64 a, .int .i64 b] w fun e w' => e = .returned (.tuple #[]) ∧ ∃ n, w' = putRow enc (Sort.ahead (w.alloc (.cells #[.func lf la lb, .func (.func sf) #[] sb] 105)) n) blk off (reverseRange d a b) := Any.reverseRange_func_one Tryz.laysGg30 enc lf la lb sf sb blk off a b d w hswap hH hblk hab hb hsz
open Go.RowKit Go.Lib Go.Sort in
/-- sort.reverseRange_func, from a world to a 'sortWorld' of it. (LAID: no walk: one application.) -/
theorem Tryz.reverseRange_func_w {α : Type} [Inhabited α] (enc : α → Value) (lf : Fn) (la lb : Array Value) (sf : Nat) (sb : Array Value) (blk off a b : Nat) (d : Array α) (w : World) (hswap : SwapSwaps Tryz.prog sf sb enc blk off d.size) (hH : Holds enc w blk off d) (hblk : blk < w.heap.size) (hab : a ≤ b) (hb : b ≤ d.size) (hsz : d.size < 4611686018427387904) :
    Calls Tryz.prog 74 #[.agg #[.func lf la lb, .func (.func sf) #[] sb], .int .i64 a, .int .i64 b] w fun e w' => e = .returned (.tuple #[]) ∧ ∃ n os, w' = sortWorld enc w blk off n (reverseRange d a b) os := Any.reverseRange_func_w Tryz.laysGg30 enc lf la lb sf sb blk off a b d w hswap hH hblk hab hb hsz
def Tryz.laysM180_ren : Go.Shelf.Ren := ⟨fun | 180 => 179 | 251 => 181 | 252 => 182 | 181 => 183 | 184 => 178 | 290 => 184 | 324 => 185 | n => n, fun | 130 => 78 | 37 => 65 | 3 => 3 | 75 => 69 | 0 => 0 | 93 => 75 | 91 => 73 | 131 => 146 | 4 => 4 | 20 => 20 | 5 => 5 | 80 => 80 | 9 => 9 | n => n, fun | 14 => 12 | n => n⟩
theorem Tryz.laysM180 : Go.Proofs.LaysM.n180 Tryz.prog Tryz.laysM180_ren := {
  mixed := by kernel_rfl
  f180 := Tryz.func179.trans (congrArg some (by kernel_rfl))
  f181 := Tryz.func183.trans (congrArg some (by kernel_rfl))
  f184 := Tryz.func178.trans (congrArg some (by kernel_rfl))
  f251 := Tryz.func181.trans (congrArg some (by kernel_rfl))
  f252 := Tryz.func182.trans (congrArg some (by kernel_rfl))
  f290 := Tryz.func184.trans (congrArg some (by kernel_rfl))
  f324 := Tryz.func185.trans (congrArg some (by kernel_rfl))
  t0 := Tryz.underlying0
  a0 := Tryz.isAgg0
  z0 := Tryz.sizeOf0
  v0 := Tryz.zeroValue0
  t3 := Tryz.underlying3
  a3 := Tryz.isAgg3
  z3 := Tryz.sizeOf3
  v3 := Tryz.zeroValue3
  t4 := Tryz.underlying4
  a4 := Tryz.isAgg4
  z4 := Tryz.sizeOf4
  v4 := Tryz.zeroValue4
  t20 := Tryz.underlying20
  a20 := Tryz.isAgg20
  z20 := Tryz.sizeOf20
  v20 := Tryz.zeroValue20
  t37 := Tryz.underlying65
  a37 := Tryz.isAgg65
  z37 := Tryz.sizeOf65
  v37 := Tryz.zeroValue65
  t75 := Tryz.underlying69
  a75 := Tryz.isAgg69
  z75 := Tryz.sizeOf69
  v75 := Tryz.zeroValue69
  t91 := Tryz.underlying73
  a91 := Tryz.isAgg73
  z91 := Tryz.sizeOf73
  v91 := Tryz.zeroValue73
  t93 := Tryz.underlying75
  a93 := Tryz.isAgg75
  z93 := Tryz.sizeOf75
  v93 := Tryz.zeroValue75
  t130 := Tryz.underlying78
  a130 := Tryz.isAgg78
  z130 := Tryz.sizeOf78
  v130 := Tryz.zeroValue78
  t131 := Tryz.underlying146
  a131 := Tryz.isAgg146
  z131 := Tryz.sizeOf146
  v131 := Tryz.zeroValue146
  g14 := by kernel_rfl
  t5 := Tryz.underlying5
  a5 := Tryz.isAgg5
  z5 := Tryz.sizeOf5
  v5 := Tryz.zeroValue5
  t9 := Tryz.underlying9
  a9 := Tryz.isAgg9
  z9 := Tryz.sizeOf9
  v9 := Tryz.zeroValue9
  t80 := Tryz.underlying80
  a80 := Tryz.isAgg80
  z80 := Tryz.sizeOf80
  v80 := Tryz.zeroValue80
  i0 := by kernel_rfl
  i3 := by kernel_rfl
  i4 := by kernel_rfl
  i5 := by kernel_rfl
  i9 := by kernel_rfl
  i20 := by kernel_rfl
  i37 := by kernel_rfl
  i75 := by kernel_rfl
  i80 := by kernel_rfl
  i91 := by kernel_rfl
  i93 := by kernel_rfl
  i130 := by kernel_rfl
  i131 := by kernel_rfl
  m14 := by kernel_rfl }
open Go.RowKit in
/-- (*bytes.Buffer).Write: "Write appends the contents of p to the buffer, growing the buffer as needed. The return value n is the length of p; err is always nil." (LAID: no walk: one application.) -/
theorem Tryz.Buffer_Write_any (B b : Nat) (bs cs : List Value) (a : Addr) (n c : Nat) (w : World) (h : Lib.IsBuffer 75 5 B b bs w) (hBw : B ≤ w.heap.size) (h1 : ∀ v ∈ bs, v.oneCell' = true) (hn : cs.length = n) (hab : a.block ≠ b) (hsrc : ∀ j v, cs[j]? = some v → w.cell? (a.add j) = some v) (h1c : ∀ v ∈ cs, v.oneCell' = true) (hlim : bs.length + n ≤ 140737488355328) :
    Calls Tryz.prog 179 #[.pointer (some ⟨b, 0, none⟩), .slice (some a) n c] w fun e w' => e = .returned (.tuple #[.int .i64 n, .nilIface]) ∧ Lib.IsBuffer 75 5 B b (bs ++ cs) w' ∧ Below B w w' ∧ Lib.OthersKept 5 (some b) w w' := Any.Buffer_Write_any Tryz.laysM180 B b bs cs a n c w h hBw h1 hn hab hsrc h1c hlim
def Tryz.laysGg39_ren : Go.Shelf.Ren := ⟨fun | 39 => 116 | n => n, fun | 44 => 105 | 3 => 3 | 64 => 184 | 0 => 0 | 26 => 52 | 4 => 4 | 37 => 99 | n => n, fun | n => n⟩
theorem Tryz.laysGg39 : Go.Proofs.LaysGg.n39 Tryz.prog Tryz.laysGg39_ren := {
  mixed := by kernel_rfl
  f39 := Tryz.func116.trans (congrArg some (by kernel_rfl))
  t0 := Tryz.underlying0
  a0 := Tryz.isAgg0
  z0 := Tryz.sizeOf0
  v0 := Tryz.zeroValue0
  i0 := by kernel_rfl
  t3 := Tryz.underlying3
  a3 := Tryz.isAgg3
  z3 := Tryz.sizeOf3
  v3 := Tryz.zeroValue3
  i3 := by kernel_rfl
  t4 := Tryz.underlying4
  a4 := Tryz.isAgg4
  z4 := Tryz.sizeOf4
  v4 := Tryz.zeroValue4
  i4 := by kernel_rfl
  t26 := Tryz.underlying52
  a26 := Tryz.isAgg52
  z26 := Tryz.sizeOf52
  v26 := Tryz.zeroValue52
  i26 := by kernel_rfl
  t37 := Tryz.underlying99
  a37 := Tryz.isAgg99
  z37 := Tryz.sizeOf99
  v37 := Tryz.zeroValue99
  i37 := by kernel_rfl
  t44 := Tryz.underlying105
  a44 := Tryz.isAgg105
  z44 := Tryz.sizeOf105
  v44 := Tryz.zeroValue105
  i44 := by kernel_rfl
  t64 := Tryz.underlying184
  a64 := Tryz.isAgg184
  z64 := Tryz.sizeOf184
  v64 := Tryz.zeroValue184
  i64 := by kernel_rfl }
open Go.RowKit Go.Lib Go.Sort in
theorem Tryz.order2_func {α : Type} [Inhabited α] (enc : α → Value) (lt : α → α → Bool) (g : Nat) (lb : Array Value) (sfn : Fn) (sa sb : Array Value) (blk off : Nat) (w0 W : World) (d : Array α) (a b cb co s : Nat) (eg : ∀ args w, (callFunc g args).run Tryz.prog w = .ok (.enter g args) w) (hL : LessReads Tryz.prog g lb enc lt blk off d.size w0) (hW : SW enc w0 blk off d W) (ha : a < d.size) (hb : b < d.size) (hS : Holds (Value.int .i64) W cb co (one s)) (hcb : cb < W.heap.size) (hs : s < 4611686018427387904) :
    Calls Tryz.prog 116 #[.agg #[.func (.func g) #[] lb, .func sfn sa sb], .int .i64 a, .int .i64 b, .pointer (some ⟨cb, co, none⟩)] W fun e w' =>
      e = .returned (.tuple #[.int .i64 (order2 lt d a b s).1, .int .i64 (order2 lt d a b s).2.1]) ∧ ∃ n os, w' = sortWorld (Value.int .i64) W cb co n (one (order2 lt d a b s).2.2) os := Any.order2_func Tryz.laysGg39 enc lt g lb sfn sa sb blk off w0 W d a b cb co s eg hL hW ha hb hS hcb hs
def Tryz.laysGg38_ren : Go.Shelf.Ren := ⟨fun | 38 => 103 | 39 => 116 | n => n, fun | 44 => 105 | 3 => 3 | 64 => 184 | 0 => 0 | 67 => 219 | 26 => 52 | 4 => 4 | 37 => 99 | n => n, fun | n => n⟩
theorem Tryz.laysGg38 : Go.Proofs.LaysGg.n38 Tryz.prog Tryz.laysGg38_ren := {
  mixed := by kernel_rfl
  f38 := Tryz.func103.trans (congrArg some (by kernel_rfl))
  f39 := Tryz.func116.trans (congrArg some (by kernel_rfl))
  t0 := Tryz.underlying0
  a0 := Tryz.isAgg0
  z0 := Tryz.sizeOf0
  v0 := Tryz.zeroValue0
  i0 := by kernel_rfl
  t3 := Tryz.underlying3
  a3 := Tryz.isAgg3
  z3 := Tryz.sizeOf3
  v3 := Tryz.zeroValue3
  i3 := by kernel_rfl
  t4 := Tryz.underlying4
  a4 := Tryz.isAgg4
  z4 := Tryz.sizeOf4
  v4 := Tryz.zeroValue4
  i4 := by kernel_rfl
  t26 := Tryz.underlying52
  a26 := Tryz.isAgg52
  z26 := Tryz.sizeOf52
  v26 := Tryz.zeroValue52
  i26 := by kernel_rfl
  t37 := Tryz.underlying99
  a37 := Tryz.isAgg99
  z37 := Tryz.sizeOf99
  v37 := Tryz.zeroValue99
  i37 := by kernel_rfl
  t44 := Tryz.underlying105
  a44 := Tryz.isAgg105
  z44 := Tryz.sizeOf105
  v44 := Tryz.zeroValue105
  i44 := by kernel_rfl
  t64 := Tryz.underlying184
  a64 := Tryz.isAgg184
  z64 := Tryz.sizeOf184
  v64 := Tryz.zeroValue184
  i64 := by kernel_rfl
  t67 := Tryz.underlying219
  a67 := Tryz.isAgg219
  z67 := Tryz.sizeOf219
  v67 := Tryz.zeroValue219
  i67 := by kernel_rfl }
open Go.RowKit Go.Lib Go.Sort in
theorem Tryz.median_func {α : Type} [Inhabited α] (enc : α → Value) (lt : α → α → Bool) (g : Nat) (lb : Array Value) (sfn : Fn) (sa sb : Array Value) (blk off : Nat) (w0 W : World) (d : Array α) (a b c cb co s : Nat) (eg : ∀ args w, (callFunc g args).run Tryz.prog w = .ok (.enter g args) w) (hL : LessReads Tryz.prog g lb enc lt blk off d.size w0) (hW : SW enc w0 blk off d W) (ha : a < d.size) (hb : b < d.size) (hc : c < d.size) (hS : Holds (Value.int .i64) W cb co (one s)) (hcb0 : w0.heap.size ≤ cb) (hcb : cb < W.heap.size) (hs : s + 3 < 4611686018427387904) :
    Calls Tryz.prog 103 #[.agg #[.func (.func g) #[] lb, .func sfn sa sb], .int .i64 a, .int .i64 b, .int .i64 c, .pointer (some ⟨cb, co, none⟩)] W fun e w' =>
      e = .returned (.int .i64 (median lt d a b c s).1) ∧ ∃ n os, w' = sortWorld (Value.int .i64) W cb co n (one (median lt d a b c s).2) os := Any.median_func Tryz.laysGg38 enc lt g lb sfn sa sb blk off w0 W d a b c cb co s eg hL hW ha hb hc hS hcb0 hcb hs
def Tryz.laysGg37_ren : Go.Shelf.Ren := ⟨fun | 37 => 102 | 38 => 103 | 39 => 116 | n => n, fun | 44 => 105 | 3 => 3 | 64 => 184 | 0 => 0 | 67 => 219 | 26 => 52 | 4 => 4 | 37 => 99 | n => n, fun | n => n⟩
theorem Tryz.laysGg37 : Go.Proofs.LaysGg.n37 Tryz.prog Tryz.laysGg37_ren := {
  mixed := by kernel_rfl
  f37 := Tryz.func102.trans (congrArg some (by kernel_rfl))
  f38 := Tryz.func103.trans (congrArg some (by kernel_rfl))
  f39 := Tryz.func116.trans (congrArg some (by kernel_rfl))
  t0 := Tryz.underlying0
  a0 := Tryz.isAgg0
  z0 := Tryz.sizeOf0
  v0 := Tryz.zeroValue0
  i0 := by kernel_rfl
  t3 := Tryz.underlying3
  a3 := Tryz.isAgg3
  z3 := Tryz.sizeOf3
  v3 := Tryz.zeroValue3
  i3 := by kernel_rfl
  t4 := Tryz.underlying4
  a4 := Tryz.isAgg4
  z4 := Tryz.sizeOf4
  v4 := Tryz.zeroValue4
  i4 := by kernel_rfl
  t26 := Tryz.underlying52
  a26 := Tryz.isAgg52
  z26 := Tryz.sizeOf52
  v26 := Tryz.zeroValue52
  i26 := by kernel_rfl
  t37 := Tryz.underlying99
  a37 := Tryz.isAgg99
  z37 := Tryz.sizeOf99
  v37 := Tryz.zeroValue99
  i37 := by kernel_rfl
  t44 := Tryz.underlying105
  a44 := Tryz.isAgg105
  z44 := Tryz.sizeOf105
  v44 := Tryz.zeroValue105
  i44 := by kernel_rfl
  t64 := Tryz.underlying184
  a64 := Tryz.isAgg184
  z64 := Tryz.sizeOf184
  v64 := Tryz.zeroValue184
  i64 := by kernel_rfl
  t67 := Tryz.underlying219
  a67 := Tryz.isAgg219
  z67 := Tryz.sizeOf219
  v67 := Tryz.zeroValue219
  i67 := by kernel_rfl }
open Go.RowKit Go.Lib Go.Sort in
theorem Tryz.medianAdjacent_func {α : Type} [Inhabited α] (enc : α → Value) (lt : α → α → Bool) (g : Nat) (lb : Array Value) (sfn : Fn) (sa sb : Array Value) (blk off : Nat) (w0 W : World) (d : Array α) (a cb co s : Nat) (eg : ∀ args w, (callFunc g args).run Tryz.prog w = .ok (.enter g args) w) (hL : LessReads Tryz.prog g lb enc lt blk off d.size w0) (hW : SW enc w0 blk off d W) (ha1 : 1 ≤ a) (ha2 : a + 1 < d.size) (hsz : d.size < 4611686018427387904) (hS : Holds (Value.int .i64) W cb co (one s)) (hcb0 : w0.heap.size ≤ cb) (hcb : cb < W.heap.size) (hs : s + 3 < 4611686018427387904) :
    Calls Tryz.prog 102 #[.agg #[.func (.func g) #[] lb, .func sfn sa sb], .int .i64 a, .pointer (some ⟨cb, co, none⟩)] W fun e w' =>
      e = .returned (.int .i64 (medianAdjacent lt d a s).1) ∧ ∃ n os, w' = sortWorld (Value.int .i64) W cb co n (one (medianAdjacent lt d a s).2) os := Any.medianAdjacent_func Tryz.laysGg37 enc lt g lb sfn sa sb blk off w0 W d a cb co s eg hL hW ha1 ha2 hsz hS hcb0 hcb hs
def Tryz.laysGg29_ren : Go.Shelf.Ren := ⟨fun | 29 => 73 | 37 => 102 | 38 => 103 | 39 => 116 | n => n, fun | 44 => 105 | 3 => 3 | 53 => 141 | 0 => 0 | 4 => 4 | 64 => 184 | 67 => 219 | 26 => 52 | 37 => 99 | n => n, fun | n => n⟩
theorem Tryz.laysGg29 : Go.Proofs.LaysGg.n29 Tryz.prog Tryz.laysGg29_ren := {
  mixed := by kernel_rfl
  f29 := Tryz.func73.trans (congrArg some (by kernel_rfl))
  f37 := Tryz.func102.trans (congrArg some (by kernel_rfl))
  f38 := Tryz.func103.trans (congrArg some (by kernel_rfl))
  f39 := Tryz.func116.trans (congrArg some (by kernel_rfl))
  t0 := Tryz.underlying0
  a0 := Tryz.isAgg0
  z0 := Tryz.sizeOf0
  v0 := Tryz.zeroValue0
  i0 := by kernel_rfl
  t3 := Tryz.underlying3
  a3 := Tryz.isAgg3
  z3 := Tryz.sizeOf3
  v3 := Tryz.zeroValue3
  i3 := by kernel_rfl
  t4 := Tryz.underlying4
  a4 := Tryz.isAgg4
  z4 := Tryz.sizeOf4
  v4 := Tryz.zeroValue4
  i4 := by kernel_rfl
  t26 := Tryz.underlying52
  a26 := Tryz.isAgg52
  z26 := Tryz.sizeOf52
  v26 := Tryz.zeroValue52
  i26 := by kernel_rfl
  t37 := Tryz.underlying99
  a37 := Tryz.isAgg99
  z37 := Tryz.sizeOf99
  v37 := Tryz.zeroValue99
  i37 := by kernel_rfl
  t44 := Tryz.underlying105
  a44 := Tryz.isAgg105
  z44 := Tryz.sizeOf105
  v44 := Tryz.zeroValue105
  i44 := by kernel_rfl
  t53 := Tryz.underlying141
  a53 := Tryz.isAgg141
  z53 := Tryz.sizeOf141
  v53 := Tryz.zeroValue141
  i53 := by kernel_rfl
  t64 := Tryz.underlying184
  a64 := Tryz.isAgg184
  z64 := Tryz.sizeOf184
  v64 := Tryz.zeroValue184
  i64 := by kernel_rfl
  t67 := Tryz.underlying219
  a67 := Tryz.isAgg219
  z67 := Tryz.sizeOf219
  v67 := Tryz.zeroValue219
  i67 := by kernel_rfl }
open Go.RowKit Go.Lib Go.Sort in
/-- sort.choosePivot_func: THE LIBRARY's OWN TEXT COMPUTES 'Sort.choosePivot lt d a b'; the row is not turned; W is grown. (After Derived/Sort/Walk11.lean's 'So.choosePivot_int', row for row.) (LAID: no walk: one application.) -/
theorem Tryz.choosePivot_func {α : Type} [Inhabited α] (enc : α → Value) (lt : α → α → Bool) (g : Nat) (lb : Array Value) (sfn : Fn) (sa sb : Array Value) (blk off a b : Nat) (W : World) (d : Array α) (eg : ∀ args w, (callFunc g args).run Tryz.prog w = .ok (.enter g args) w) (hless : LessReads Tryz.prog g lb enc lt blk off d.size W) (hH : Holds enc W blk off d) (hab : a < b) (hb : b ≤ d.size) (hsz : d.size < 4611686018427387904) :
    Calls Tryz.prog 73 #[.agg #[.func (.func g) #[] lb, .func sfn sa sb], .int .i64 a, .int .i64 b] W fun e w' =>
      e = .returned (.tuple #[.int .i64 (choosePivot lt d a b).1, .int .i64 (hintCode (choosePivot lt d a b).2)]) ∧ ∃ n os, w' = grow (Sort.ahead W n) os := Any.choosePivot_func Tryz.laysGg29 enc lt g lb sfn sa sb blk off a b W d eg hless hH hab hb hsz
def Tryz.laysGg32_ren : Go.Shelf.Ren := ⟨fun | 32 => 76 | n => n, fun | 44 => 105 | 3 => 3 | 0 => 0 | 37 => 99 | 4 => 4 | 26 => 52 | n => n, fun | n => n⟩
theorem Tryz.laysGg32 : Go.Proofs.LaysGg.n32 Tryz.prog Tryz.laysGg32_ren := {
  mixed := by kernel_rfl
  f32 := Tryz.func76.trans (congrArg some (by kernel_rfl))
  t0 := Tryz.underlying0
  a0 := Tryz.isAgg0
  z0 := Tryz.sizeOf0
  v0 := Tryz.zeroValue0
  i0 := by kernel_rfl
  t3 := Tryz.underlying3
  a3 := Tryz.isAgg3
  z3 := Tryz.sizeOf3
  v3 := Tryz.zeroValue3
  i3 := by kernel_rfl
  t4 := Tryz.underlying4
  a4 := Tryz.isAgg4
  z4 := Tryz.sizeOf4
  v4 := Tryz.zeroValue4
  i4 := by kernel_rfl
  t26 := Tryz.underlying52
  a26 := Tryz.isAgg52
  z26 := Tryz.sizeOf52
  v26 := Tryz.zeroValue52
  i26 := by kernel_rfl
  t37 := Tryz.underlying99
  a37 := Tryz.isAgg99
  z37 := Tryz.sizeOf99
  v37 := Tryz.zeroValue99
  i37 := by kernel_rfl
  t44 := Tryz.underlying105
  a44 := Tryz.isAgg105
  z44 := Tryz.sizeOf105
  v44 := Tryz.zeroValue105
  i44 := by kernel_rfl }
open Go.RowKit Go.Lib Go.Sort in
theorem Tryz.partitionEqual_func_one {α : Type} [Inhabited α] (enc : α → Value) (lt : α → α → Bool) (g : Nat) (lb : Array Value) (sf : Nat) (sb : Array Value) (blk off a b pivot : Nat) (d : Array α) (W : World) (eg : ∀ args w, (callFunc g args).run Tryz.prog w = .ok (.enter g args) w) (hless : LessReads Tryz.prog g lb enc lt blk off d.size W) (hswap : SwapSwaps Tryz.prog sf sb enc blk off d.size) (hH : Holds enc W blk off d) (hblk : blk < W.heap.size) (hap : a ≤ pivot) (hpb : pivot < b) (hb : b ≤ d.size) (hsz : d.size < 4611686018427387904) :
    Calls Tryz.prog 76 #[.agg #[.func (.func g) #[] lb, .func (.func sf) #[] sb], .int .i64 a, .int .i64 b, .int .i64 pivot] W fun e w' =>
      e = .returned (.int .i64 (Sort.partitionEqual lt d a b pivot).1) ∧ ∃ n, w' = (putRow enc (W.alloc (.cells #[.func (.func g) #[] lb, .func (.func sf) #[] sb] 105)) blk off (Sort.partitionEqual lt d a b pivot).2).drewN n := Any.partitionEqual_func_one Tryz.laysGg32 enc lt g lb sf sb blk off a b pivot d W eg hless hswap hH hblk hap hpb hb hsz
def Tryz.laysGg33_ren : Go.Shelf.Ren := ⟨fun | 33 => 77 | n => n, fun | 44 => 105 | 3 => 3 | 4 => 4 | 0 => 0 | 37 => 99 | 26 => 52 | n => n, fun | n => n⟩
theorem Tryz.laysGg33 : Go.Proofs.LaysGg.n33 Tryz.prog Tryz.laysGg33_ren := {
  mixed := by kernel_rfl
  f33 := Tryz.func77.trans (congrArg some (by kernel_rfl))
  t0 := Tryz.underlying0
  a0 := Tryz.isAgg0
  z0 := Tryz.sizeOf0
  v0 := Tryz.zeroValue0
  i0 := by kernel_rfl
  t3 := Tryz.underlying3
  a3 := Tryz.isAgg3
  z3 := Tryz.sizeOf3
  v3 := Tryz.zeroValue3
  i3 := by kernel_rfl
  t4 := Tryz.underlying4
  a4 := Tryz.isAgg4
  z4 := Tryz.sizeOf4
  v4 := Tryz.zeroValue4
  i4 := by kernel_rfl
  t26 := Tryz.underlying52
  a26 := Tryz.isAgg52
  z26 := Tryz.sizeOf52
  v26 := Tryz.zeroValue52
  i26 := by kernel_rfl
  t37 := Tryz.underlying99
  a37 := Tryz.isAgg99
  z37 := Tryz.sizeOf99
  v37 := Tryz.zeroValue99
  i37 := by kernel_rfl
  t44 := Tryz.underlying105
  a44 := Tryz.isAgg105
  z44 := Tryz.sizeOf105
  v44 := Tryz.zeroValue105
  i44 := by kernel_rfl }
open Go.RowKit Go.Lib Go.Sort in
theorem Tryz.partition_func_one {α : Type} [Inhabited α] (enc : α → Value) (lt : α → α → Bool) (g : Nat) (lb : Array Value) (sf : Nat) (sb : Array Value) (blk off a b pivot : Nat) (d : Array α) (W : World) (eg : ∀ args w, (callFunc g args).run Tryz.prog w = .ok (.enter g args) w) (hless : LessReads Tryz.prog g lb enc lt blk off d.size W) (hswap : SwapSwaps Tryz.prog sf sb enc blk off d.size) (hH : Holds enc W blk off d) (hblk : blk < W.heap.size) (hap : a ≤ pivot) (hpb : pivot < b) (hb : b ≤ d.size) (hsz : d.size < 4611686018427387904) :
    Calls Tryz.prog 77 #[.agg #[.func (.func g) #[] lb, .func (.func sf) #[] sb], .int .i64 a, .int .i64 b, .int .i64 pivot] W fun e w' =>
      e = .returned (.tuple #[.int .i64 (Sort.partition lt d a b pivot).1, .bool (Sort.partition lt d a b pivot).2.1]) ∧ ∃ n, w' = (putRow enc (W.alloc (.cells #[.func (.func g) #[] lb, .func (.func sf) #[] sb] 105)) blk off (Sort.partition lt d a b pivot).2.2).drewN n := Any.partition_func_one Tryz.laysGg33 enc lt g lb sf sb blk off a b pivot d W eg hless hswap hH hblk hap hpb hb hsz
open Go.RowKit Go.Lib Go.Sort in
/-- sort.partitionEqual_func, from a world to a 'sortWorld' of it. (LAID: no walk: one application.) -/
theorem Tryz.partitionEqual_func_w {α : Type} [Inhabited α] (enc : α → Value) (lt : α → α → Bool) (g : Nat) (lb : Array Value) (sf : Nat) (sb : Array Value) (blk off a b pivot : Nat) (d : Array α) (W : World) (eg : ∀ args w, (callFunc g args).run Tryz.prog w = .ok (.enter g args) w) (hless : LessReads Tryz.prog g lb enc lt blk off d.size W) (hswap : SwapSwaps Tryz.prog sf sb enc blk off d.size) (hH : Holds enc W blk off d) (hblk : blk < W.heap.size) (hap : a ≤ pivot) (hpb : pivot < b) (hb : b ≤ d.size) (hsz : d.size < 4611686018427387904) :
    Calls Tryz.prog 76 #[.agg #[.func (.func g) #[] lb, .func (.func sf) #[] sb], .int .i64 a, .int .i64 b, .int .i64 pivot] W fun e w' => e = .returned (.int .i64 (Sort.partitionEqual lt d a b pivot).1) ∧ ∃ n os, w' = sortWorld enc W blk off n (Sort.partitionEqual lt d a b pivot).2 os := Any.partitionEqual_func_w Tryz.laysGg32 enc lt g lb sf sb blk off a b pivot d W eg hless hswap hH hblk hap hpb hb hsz
open Go.RowKit Go.Lib Go.Sort in
/-- sort.partition_func, from a world to a 'sortWorld' of it. (LAID: no walk: one application.) -/
theorem Tryz.partition_func_w {α : Type} [Inhabited α] (enc : α → Value) (lt : α → α → Bool) (g : Nat) (lb : Array Value) (sf : Nat) (sb : Array Value) (blk off a b pivot : Nat) (d : Array α) (W : World) (eg : ∀ args w, (callFunc g args).run Tryz.prog w = .ok (.enter g args) w) (hless : LessReads Tryz.prog g lb enc lt blk off d.size W) (hswap : SwapSwaps Tryz.prog sf sb enc blk off d.size) (hH : Holds enc W blk off d) (hblk : blk < W.heap.size) (hap : a ≤ pivot) (hpb : pivot < b) (hb : b ≤ d.size) (hsz : d.size < 4611686018427387904) :
    Calls Tryz.prog 77 #[.agg #[.func (.func g) #[] lb, .func (.func sf) #[] sb], .int .i64 a, .int .i64 b, .int .i64 pivot] W fun e w' => e = .returned (.tuple #[.int .i64 (Sort.partition lt d a b pivot).1, .bool (Sort.partition lt d a b pivot).2.1]) ∧ ∃ n os, w' = sortWorld enc W blk off n (Sort.partition lt d a b pivot).2.2 os := Any.partition_func_w Tryz.laysGg33 enc lt g lb sf sb blk off a b pivot d W eg hless hswap hH hblk hap hpb hb hsz
open Go.RowKit Go.Lib Go.Sort in
theorem Tryz.pdqsort_func_all {α : Type} [Inhabited α] (enc : α → Value) (lt : α → α → Bool) (hO : SWO lt) (g : Nat) (lb : Array Value) (sf : Nat) (sb : Array Value) (eg : ∀ args w, (callFunc g args).run Tryz.prog w = .ok (.enter g args) w) :
    ∀ (N blk off a b limit : Nat) (d : Array α) (w : World), b - a < N → LessReads Tryz.prog g lb enc lt blk off d.size w → SwapSwaps Tryz.prog sf sb enc blk off d.size → Holds enc w blk off d → blk < w.heap.size → a ≤ b → b ≤ d.size → d.size < 4611686018427387904 → limit < 4611686018427387904 → Below lt a b d →
    Calls Tryz.prog 45 #[.agg #[.func (.func g) #[] lb, .func (.func sf) #[] sb], .int .i64 a, .int .i64 b, .int .i64 limit] w fun e w' => e = .returned (.tuple #[]) ∧ At enc w blk off (pdq lt d a b limit true true) w' := Any.pdqsort_func_all Tryz.laysGg14 enc lt hO g lb sf sb eg
def Tryz.laysGt15_ren : Go.Shelf.Ren := ⟨fun | 15 => 130 | 29 => 70 | 30 => 136 | 42 => 151 | 49 => 159 | n => n, fun | 42 => 105 | 3 => 3 | 0 => 0 | 4 => 4 | 26 => 52 | 38 => 99 | 47 => 102 | n => n, fun | n => n⟩
theorem Tryz.laysGt15 : Go.Proofs.LaysGt.n15 Tryz.prog Tryz.laysGt15_ren := {
  mixed := by kernel_rfl
  f15 := Tryz.func130.trans (congrArg some (by kernel_rfl))
  f29 := Tryz.func70.trans (congrArg some (by kernel_rfl))
  f30 := Tryz.func136.trans (congrArg some (by kernel_rfl))
  f42 := Tryz.func151.trans (congrArg some (by kernel_rfl))
  f49 := Tryz.func159.trans (congrArg some (by kernel_rfl))
  t0 := Tryz.underlying0
  a0 := Tryz.isAgg0
  z0 := Tryz.sizeOf0
  v0 := Tryz.zeroValue0
  i0 := by kernel_rfl
  t3 := Tryz.underlying3
  a3 := Tryz.isAgg3
  z3 := Tryz.sizeOf3
  v3 := Tryz.zeroValue3
  i3 := by kernel_rfl
  t4 := Tryz.underlying4
  a4 := Tryz.isAgg4
  z4 := Tryz.sizeOf4
  v4 := Tryz.zeroValue4
  i4 := by kernel_rfl
  t26 := Tryz.underlying52
  a26 := Tryz.isAgg52
  z26 := Tryz.sizeOf52
  v26 := Tryz.zeroValue52
  i26 := by kernel_rfl
  t38 := Tryz.underlying99
  a38 := Tryz.isAgg99
  z38 := Tryz.sizeOf99
  v38 := Tryz.zeroValue99
  i38 := by kernel_rfl
  t42 := Tryz.underlying105
  a42 := Tryz.isAgg105
  z42 := Tryz.sizeOf105
  v42 := Tryz.zeroValue105
  i42 := by kernel_rfl
  t47 := Tryz.underlying102
  a47 := Tryz.isAgg102
  z47 := Tryz.sizeOf102
  v47 := Tryz.zeroValue102
  i47 := by kernel_rfl }
open Go.RowKit Go.Lib Go.Sort in
theorem Tryz.stable_func_under20 {α : Type} [Inhabited α] (enc : α → Value) (lt : α → α → Bool) (g : Nat) (lb : Array Value) (sf : Nat) (sb : Array Value) (blk off : Nat) (d : Array α) (W : World) (eg : ∀ args w, (callFunc g args).run Tryz.prog w = .ok (.enter g args) w) (hless : LessReads Tryz.prog g lb enc lt blk off d.size W) (hswap : SwapSwaps Tryz.prog sf sb enc blk off d.size) (hH : Holds enc W blk off d) (hblk : blk < W.heap.size) (h20 : d.size < 20) :
    Calls Tryz.prog 130 #[.agg #[.func (.func g) #[] lb, .func (.func sf) #[] sb], .int .i64 d.size] W fun e w' => e = .returned (.tuple #[]) ∧ ∃ n os, w' = sortWorld enc W blk off n (Sort.insertionSort lt d 0 d.size) os := Any.stable_func_under20 Tryz.laysGt15 enc lt g lb sf sb blk off d W eg hless hswap hH hblk h20
open Go.RowKit Go.Lib Go.Sort in
theorem Tryz.stable_func_at20 {α : Type} [Inhabited α] (enc : α → Value) (lt : α → α → Bool) (g : Nat) (lb : Array Value) (sf : Nat) (sb : Array Value) (blk off : Nat) (d : Array α) (W : World) (eg : ∀ args w, (callFunc g args).run Tryz.prog w = .ok (.enter g args) w) (hless : LessReads Tryz.prog g lb enc lt blk off d.size W) (hswap : SwapSwaps Tryz.prog sf sb enc blk off d.size) (hH : Holds enc W blk off d) (hblk : blk < W.heap.size) (h20 : d.size = 20) :
    Calls Tryz.prog 130 #[.agg #[.func (.func g) #[] lb, .func (.func sf) #[] sb], .int .i64 d.size] W fun e w' => e = .returned (.tuple #[]) ∧ ∃ n os, w' = sortWorld enc W blk off n (Sort.insertionSort lt d 0 d.size) os := Any.stable_func_at20 Tryz.laysGt15 enc lt g lb sf sb blk off d W eg hless hswap hH hblk h20
open Go.RowKit Go.Lib Go.Sort in
/-- **sort.stable_func AT ONE BLOCK (20 elements or fewer): IT IS THE INSERTION SORT: THE STABLE ORDER.** (LAID: no walk: one application.) -/
theorem Tryz.stable_func_small {α : Type} [Inhabited α] (enc : α → Value) (lt : α → α → Bool) (g : Nat) (lb : Array Value) (sf : Nat) (sb : Array Value) (blk off : Nat) (d : Array α) (W : World) (eg : ∀ args w, (callFunc g args).run Tryz.prog w = .ok (.enter g args) w) (hless : LessReads Tryz.prog g lb enc lt blk off d.size W) (hswap : SwapSwaps Tryz.prog sf sb enc blk off d.size) (hH : Holds enc W blk off d) (hblk : blk < W.heap.size) (h20 : d.size ≤ 20) :
    Calls Tryz.prog 130 #[.agg #[.func (.func g) #[] lb, .func (.func sf) #[] sb], .int .i64 d.size] W fun e w' => e = .returned (.tuple #[]) ∧ ∃ n os, w' = sortWorld enc W blk off n (Sort.insertionSort lt d 0 d.size) os := Any.stable_func_small Tryz.laysGt15 enc lt g lb sf sb blk off d W eg hless hswap hH hblk h20
open Go.RowKit Go.Lib Go.Sort in
/-- sort.stable_func at no element or one: nothing is asked of 'less' or of 'swap'. (LAID: no walk: one application.) -/
theorem Tryz.stable_func_tiny {α : Type} [Inhabited α] (lf : Fn) (la lb : Array Value) (f : Nat) (sb : Array Value) (n : Nat) (hn : n ≤ 1) (W : World) :
    Calls Tryz.prog 130 #[.agg #[.func lf la lb, .func (.func f) #[] sb], .int .i64 n] W fun e w' => e = .returned (.tuple #[]) ∧ ∃ os, w' = grow W os := Any.stable_func_tiny Tryz.laysGt15 lf la lb f sb n hn W
def Tryz.laysGt8_ren : Go.Shelf.Ren := ⟨fun | 8 => 121 | 13 => 41 | 14 => 42 | 16 => 43 | 15 => 130 | 29 => 70 | 30 => 136 | 42 => 151 | 49 => 159 | n => n, fun | 20 => 20 | 26 => 52 | 36 => 97 | 0 => 0 | 38 => 99 | 42 => 105 | 3 => 3 | 4 => 4 | 47 => 102 | 17 => 17 | 33 => 94 | 34 => 95 | 89 => 268 | 12 => 12 | 56 => 138 | 82 => 262 | 5 => 5 | 83 => 263 | 84 => 264 | 85 => 217 | 86 => 265 | 87 => 266 | n => n, fun | n => n⟩
theorem Tryz.laysGt8 : Go.Proofs.LaysGt.n8 Tryz.prog Tryz.laysGt8_ren := {
  mixed := by kernel_rfl
  f8 := Tryz.func121.trans (congrArg some (by kernel_rfl))
  f13 := Tryz.func41.trans (congrArg some (by kernel_rfl))
  f14 := Tryz.func42.trans (congrArg some (by kernel_rfl))
  f15 := Tryz.func130.trans (congrArg some (by kernel_rfl))
  f16 := Tryz.func43.trans (congrArg some (by kernel_rfl))
  f29 := Tryz.func70.trans (congrArg some (by kernel_rfl))
  f30 := Tryz.func136.trans (congrArg some (by kernel_rfl))
  f42 := Tryz.func151.trans (congrArg some (by kernel_rfl))
  f49 := Tryz.func159.trans (congrArg some (by kernel_rfl))
  t0 := Tryz.underlying0
  a0 := Tryz.isAgg0
  z0 := Tryz.sizeOf0
  v0 := Tryz.zeroValue0
  i0 := by kernel_rfl
  t3 := Tryz.underlying3
  a3 := Tryz.isAgg3
  z3 := Tryz.sizeOf3
  v3 := Tryz.zeroValue3
  i3 := by kernel_rfl
  t4 := Tryz.underlying4
  a4 := Tryz.isAgg4
  z4 := Tryz.sizeOf4
  v4 := Tryz.zeroValue4
  i4 := by kernel_rfl
  t5 := Tryz.underlying5
  a5 := Tryz.isAgg5
  z5 := Tryz.sizeOf5
  v5 := Tryz.zeroValue5
  i5 := by kernel_rfl
  t12 := Tryz.underlying12
  a12 := Tryz.isAgg12
  z12 := Tryz.sizeOf12
  v12 := Tryz.zeroValue12
  i12 := by kernel_rfl
  t17 := Tryz.underlying17
  a17 := Tryz.isAgg17
  z17 := Tryz.sizeOf17
  v17 := Tryz.zeroValue17
  i17 := by kernel_rfl
  t20 := Tryz.underlying20
  a20 := Tryz.isAgg20
  z20 := Tryz.sizeOf20
  v20 := Tryz.zeroValue20
  i20 := by kernel_rfl
  t26 := Tryz.underlying52
  a26 := Tryz.isAgg52
  z26 := Tryz.sizeOf52
  v26 := Tryz.zeroValue52
  i26 := by kernel_rfl
  t33 := Tryz.underlying94
  a33 := Tryz.isAgg94
  z33 := Tryz.sizeOf94
  v33 := Tryz.zeroValue94
  i33 := by kernel_rfl
  t34 := Tryz.underlying95
  a34 := Tryz.isAgg95
  z34 := Tryz.sizeOf95
  v34 := Tryz.zeroValue95
  i34 := by kernel_rfl
  t36 := Tryz.underlying97
  a36 := Tryz.isAgg97
  z36 := Tryz.sizeOf97
  v36 := Tryz.zeroValue97
  i36 := by kernel_rfl
  t38 := Tryz.underlying99
  a38 := Tryz.isAgg99
  z38 := Tryz.sizeOf99
  v38 := Tryz.zeroValue99
  i38 := by kernel_rfl
  t42 := Tryz.underlying105
  a42 := Tryz.isAgg105
  z42 := Tryz.sizeOf105
  v42 := Tryz.zeroValue105
  i42 := by kernel_rfl
  t47 := Tryz.underlying102
  a47 := Tryz.isAgg102
  z47 := Tryz.sizeOf102
  v47 := Tryz.zeroValue102
  i47 := by kernel_rfl
  t56 := Tryz.underlying138
  a56 := Tryz.isAgg138
  z56 := Tryz.sizeOf138
  v56 := Tryz.zeroValue138
  i56 := by kernel_rfl
  t82 := Tryz.underlying262
  a82 := Tryz.isAgg262
  z82 := Tryz.sizeOf262
  v82 := Tryz.zeroValue262
  i82 := by kernel_rfl
  t83 := Tryz.underlying263
  a83 := Tryz.isAgg263
  z83 := Tryz.sizeOf263
  v83 := Tryz.zeroValue263
  i83 := by kernel_rfl
  t84 := Tryz.underlying264
  a84 := Tryz.isAgg264
  z84 := Tryz.sizeOf264
  v84 := Tryz.zeroValue264
  i84 := by kernel_rfl
  t85 := Tryz.underlying217
  a85 := Tryz.isAgg217
  z85 := Tryz.sizeOf217
  v85 := Tryz.zeroValue217
  i85 := by kernel_rfl
  t86 := Tryz.underlying265
  a86 := Tryz.isAgg265
  z86 := Tryz.sizeOf265
  v86 := Tryz.zeroValue265
  i86 := by kernel_rfl
  t87 := Tryz.underlying266
  a87 := Tryz.isAgg266
  z87 := Tryz.sizeOf266
  v87 := Tryz.zeroValue266
  i87 := by kernel_rfl
  t89 := Tryz.underlying268
  a89 := Tryz.isAgg268
  z89 := Tryz.sizeOf268
  v89 := Tryz.zeroValue268
  i89 := by kernel_rfl }
open Go.RowKit in
/-- (*bytes.Buffer).String: "String returns the contents of the unread portion of the buffer as a string.": THE BYTES THAT WERE WRITTEN. The world is as it was but for the count of draws (the statement has two reads: its order is drawn). (LAID: no walk: one application.) -/
theorem Tryz.Buffer_String_at (T : TypeId) (R : Nat → Option Value) (B b q : Nat) (l : List UInt8) (w : World) (h : LibA.IsBuffer T R 5 B b q (Lib.byteCells l) w) :
    Calls Tryz.prog 35 #[.pointer (some ⟨b, q, none⟩)] w fun e w' => e = .returned (.string ⟨l.toArray⟩) ∧ ∃ n, w' = w.drewN n := Any.Buffer_String_at Tryz.laysM182 T R B b q l w h
open Go.RowKit Go.Sort in
/-- .. and plain. (LAID: no walk: one application.) -/
theorem Tryz.slices_Sort_int_none (p : Option Addr) (cap : Nat) (w : World) :
    Calls Tryz.prog 129 #[.slice p 0 cap] w fun e w' => e = .returned (.tuple #[]) ∧ w' = w := Any.slices_Sort_int_none Tryz.lays189 p cap w
open Go.RowKit Go.Sort in
/-- .. and plain. (LAID: no walk: one application.) -/
theorem Tryz.sort_Ints_none (p : Option Addr) (cap : Nat) (w : World) :
    Calls Tryz.prog 120 #[.slice p 0 cap] w fun e w' => e = .returned (.tuple #[]) ∧ w' = w := Any.sort_Ints_none Tryz.lays191 p cap w
def Tryz.laysGg36_ren : Go.Shelf.Ren := ⟨fun | 36 => 101 | n => n, fun | 66 => 218 | 51 => 23 | 0 => 0 | 60 => 180 | 41 => 102 | n => n, fun | n => n⟩
theorem Tryz.laysGg36 : Go.Proofs.LaysGg.n36 Tryz.prog Tryz.laysGg36_ren := {
  mixed := by kernel_rfl
  f36 := Tryz.func101.trans (congrArg some (by kernel_rfl))
  t0 := Tryz.underlying0
  a0 := Tryz.isAgg0
  z0 := Tryz.sizeOf0
  v0 := Tryz.zeroValue0
  i0 := by kernel_rfl
  t41 := Tryz.underlying102
  a41 := Tryz.isAgg102
  z41 := Tryz.sizeOf102
  v41 := Tryz.zeroValue102
  i41 := by kernel_rfl
  t51 := Tryz.underlying23
  a51 := Tryz.isAgg23
  z51 := Tryz.sizeOf23
  v51 := Tryz.zeroValue23
  i51 := by kernel_rfl
  t60 := Tryz.underlying180
  a60 := Tryz.isAgg180
  z60 := Tryz.sizeOf180
  v60 := Tryz.zeroValue180
  i60 := by kernel_rfl
  t66 := Tryz.underlying218
  a66 := Tryz.isAgg218
  z66 := Tryz.sizeOf218
  v66 := Tryz.zeroValue218
  i66 := by kernel_rfl }
open Go.RowKit Go.Lib Go.Sort in
/-- '*r ^= *r << 13; *r ^= *r >> 7; *r ^= *r << 17; return uint64(*r)': the cell holds 'xorNextN X' and that is handed back; three draws; nothing else turns. (LAID: no walk: one application.) -/
theorem Tryz.xorshift_Next (rb ro X : Nat) (hX : X < 18446744073709551616) (w : World) (hc : w.cell? ⟨rb, ro, none⟩ = some (.int .u64 X)) (hf : w.frozen? ⟨rb, ro, none⟩ = false) :
    Calls Tryz.prog 101 #[.pointer (some ⟨rb, ro, none⟩)] w fun e w' => e = .returned (.int .u64 (xorNextN X : Nat)) ∧ w' = (w.setCell ⟨rb, ro, none⟩ (.int .u64 (xorNextN X : Nat))).drewN 3 := Any.xorshift_Next Tryz.laysGg36 rb ro X hX w hc hf
def Tryz.laysGg35_ren : Go.Shelf.Ren := ⟨fun | 35 => 100 | 13 => 44 | 24 => 68 | 25 => 69 | n => n, fun | 3 => 3 | 41 => 102 | 49 => 138 | 51 => 23 | 4 => 4 | 5 => 5 | 9 => 9 | n => n, fun | n => n⟩
theorem Tryz.laysGg35 : Go.Proofs.LaysGg.n35 Tryz.prog Tryz.laysGg35_ren := {
  mixed := by kernel_rfl
  f13 := Tryz.func44.trans (congrArg some (by kernel_rfl))
  f24 := Tryz.func68.trans (congrArg some (by kernel_rfl))
  f25 := Tryz.func69.trans (congrArg some (by kernel_rfl))
  f35 := Tryz.func100.trans (congrArg some (by kernel_rfl))
  t3 := Tryz.underlying3
  a3 := Tryz.isAgg3
  z3 := Tryz.sizeOf3
  v3 := Tryz.zeroValue3
  i3 := by kernel_rfl
  t4 := Tryz.underlying4
  a4 := Tryz.isAgg4
  z4 := Tryz.sizeOf4
  v4 := Tryz.zeroValue4
  i4 := by kernel_rfl
  t5 := Tryz.underlying5
  a5 := Tryz.isAgg5
  z5 := Tryz.sizeOf5
  v5 := Tryz.zeroValue5
  i5 := by kernel_rfl
  t9 := Tryz.underlying9
  a9 := Tryz.isAgg9
  z9 := Tryz.sizeOf9
  v9 := Tryz.zeroValue9
  i9 := by kernel_rfl
  t41 := Tryz.underlying102
  a41 := Tryz.isAgg102
  z41 := Tryz.sizeOf102
  v41 := Tryz.zeroValue102
  i41 := by kernel_rfl
  t49 := Tryz.underlying138
  a49 := Tryz.isAgg138
  z49 := Tryz.sizeOf138
  v49 := Tryz.zeroValue138
  i49 := by kernel_rfl
  t51 := Tryz.underlying23
  a51 := Tryz.isAgg23
  z51 := Tryz.sizeOf23
  v51 := Tryz.zeroValue23
  i51 := by kernel_rfl }
open Go.RowKit Go.Lib Go.Sort in
/-- 'return 1 << bits.Len(uint(length))'. (LAID: no walk: one application.) -/
theorem Tryz.nextPowerOfTwo (n : Nat) (hn : n < 4611686018427387904) (w : World) :
    Calls Tryz.prog 100 #[.int .i64 n] w fun e w' => e = .returned (.int .u64 ((1 <<< bitsLen n : Nat) : Int)) ∧ w' = w := Any.nextPowerOfTwo Tryz.laysGg35 n hn w
open Go.RowKit Go.Lib Go.Sort in
/-- sort.insertionSort_func, from a world to a 'sortWorld' of it. (LAID: no walk: one application.) -/
theorem Tryz.insertionSort_func_cells_w {α : Type} [Inhabited α] (enc : α → List Value) (k : Nat) (hk : ∀ x, (enc x).length = k) (lt : α → α → Bool) (g : Nat) (lb : Array Value) (sf : Nat) (sb : Array Value) (blk off a b : Nat) (d : Array α) (w : World) (eg : ∀ args w, (callFunc g args).run Tryz.prog w = .ok (.enter g args) w) (hless : LessReadsK Tryz.prog g lb enc k lt blk off d.size w) (hswap : SwapSwapsK Tryz.prog sf sb enc k blk off d.size) (hH : HoldsK enc k w blk off d) (hblk : blk < w.heap.size) (hab : a ≤ b) (hb : b ≤ d.size) (hsz : d.size < 4611686018427387904) :
    Calls Tryz.prog 70 #[.agg #[.func (.func g) #[] lb, .func (.func sf) #[] sb], .int .i64 a, .int .i64 b] w fun e w' => e = .returned (.tuple #[]) ∧ ∃ n os, w' = sortWorldK enc k w blk off n (Sort.insertionSort lt d a b) os := Any.insertionSort_func_cells_w Tryz.laysGg26 enc k hk lt g lb sf sb blk off a b d w eg hless hswap hH hblk hab hb hsz
open Go.RowKit Go.Lib Go.Sort in
theorem Tryz.reverseRange_func_cells {α : Type} [Inhabited α] (enc : α → List Value) (k : Nat) (hk : ∀ x, (enc x).length = k) (lf : Fn) (la lb : Array Value) (sf : Nat) (sb : Array Value) (blk off a b : Nat) (d : Array α) (w : World) (hswap : SwapSwapsK Tryz.prog sf sb enc k blk off d.size) (hH : HoldsK enc k w blk off d) (hblk : blk < w.heap.size) (hab : a ≤ b) (hb : b ≤ d.size) (hsz : d.size < 4611686018427387904) :
    Calls Tryz.prog 74 #[.agg #[.func lf la lb, .func (.func sf) #[] sb], .int .i64 a, .int .i64 b] w fun e w' => e = .returned (.tuple #[]) ∧ ∃ n, w' = putRowK enc k (Sort.ahead (w.alloc (.cells #[.func lf la lb, .func (.func sf) #[] sb] 105)) n) blk off (reverseRange d a b) := Any.reverseRange_func_cells Tryz.laysGg30 enc k hk lf la lb sf sb blk off a b d w hswap hH hblk hab hb hsz
open Go.RowKit Go.Lib Go.Sort in
/-- sort.reverseRange_func, from a world to a 'sortWorld' of it. (LAID: no walk: one application.) -/
theorem Tryz.reverseRange_func_cells_w {α : Type} [Inhabited α] (enc : α → List Value) (k : Nat) (hk : ∀ x, (enc x).length = k) (lf : Fn) (la lb : Array Value) (sf : Nat) (sb : Array Value) (blk off a b : Nat) (d : Array α) (w : World) (hswap : SwapSwapsK Tryz.prog sf sb enc k blk off d.size) (hH : HoldsK enc k w blk off d) (hblk : blk < w.heap.size) (hab : a ≤ b) (hb : b ≤ d.size) (hsz : d.size < 4611686018427387904) :
    Calls Tryz.prog 74 #[.agg #[.func lf la lb, .func (.func sf) #[] sb], .int .i64 a, .int .i64 b] w fun e w' => e = .returned (.tuple #[]) ∧ ∃ n os, w' = sortWorldK enc k w blk off n (reverseRange d a b) os := Any.reverseRange_func_cells_w Tryz.laysGg30 enc k hk lf la lb sf sb blk off a b d w hswap hH hblk hab hb hsz
def Tryz.laysGg34_ren : Go.Shelf.Ren := ⟨fun | 34 => 99 | n => n, fun | 44 => 105 | 3 => 3 | 0 => 0 | 4 => 4 | 26 => 52 | 37 => 99 | n => n, fun | n => n⟩
theorem Tryz.laysGg34 : Go.Proofs.LaysGg.n34 Tryz.prog Tryz.laysGg34_ren := {
  mixed := by kernel_rfl
  f34 := Tryz.func99.trans (congrArg some (by kernel_rfl))
  t0 := Tryz.underlying0
  a0 := Tryz.isAgg0
  z0 := Tryz.sizeOf0
  v0 := Tryz.zeroValue0
  i0 := by kernel_rfl
  t3 := Tryz.underlying3
  a3 := Tryz.isAgg3
  z3 := Tryz.sizeOf3
  v3 := Tryz.zeroValue3
  i3 := by kernel_rfl
  t4 := Tryz.underlying4
  a4 := Tryz.isAgg4
  z4 := Tryz.sizeOf4
  v4 := Tryz.zeroValue4
  i4 := by kernel_rfl
  t26 := Tryz.underlying52
  a26 := Tryz.isAgg52
  z26 := Tryz.sizeOf52
  v26 := Tryz.zeroValue52
  i26 := by kernel_rfl
  t37 := Tryz.underlying99
  a37 := Tryz.isAgg99
  z37 := Tryz.sizeOf99
  v37 := Tryz.zeroValue99
  i37 := by kernel_rfl
  t44 := Tryz.underlying105
  a44 := Tryz.isAgg105
  z44 := Tryz.sizeOf105
  v44 := Tryz.zeroValue105
  i44 := by kernel_rfl }
open Go.RowKit Go.Lib Go.Sort in
theorem Tryz.siftDown_func_one {α : Type} [Inhabited α] (enc : α → Value) (lt : α → α → Bool) (g : Nat) (lb : Array Value) (sf : Nat) (sb : Array Value) (blk off lo hi first : Nat) (d : Array α) (w : World) (eg : ∀ args w, (callFunc g args).run Tryz.prog w = .ok (.enter g args) w) (hless : LessReads Tryz.prog g lb enc lt blk off d.size w) (hswap : SwapSwaps Tryz.prog sf sb enc blk off d.size) (hH : Holds enc w blk off d) (hblk : blk < w.heap.size) (hlo : lo ≤ hi) (hb : first + hi ≤ d.size) (hsz : d.size < 4611686018427387904) :
    Calls Tryz.prog 99 #[.agg #[.func (.func g) #[] lb, .func (.func sf) #[] sb], .int .i64 lo, .int .i64 hi, .int .i64 first] w fun e w' =>
      e = .returned (.tuple #[]) ∧ ∃ n, w' = putRow enc (Sort.ahead (w.alloc (.cells #[.func (.func g) #[] lb, .func (.func sf) #[] sb] 105)) n) blk off (siftDown lt hi first lo d) := Any.siftDown_func_one Tryz.laysGg34 enc lt g lb sf sb blk off lo hi first d w eg hless hswap hH hblk hlo hb hsz
open Go.RowKit Go.Lib Go.Sort in
/-- sort.siftDown_func, from a world to a 'sortWorld' of it. (LAID: no walk: one application.) -/
theorem Tryz.siftDown_func_w {α : Type} [Inhabited α] (enc : α → Value) (lt : α → α → Bool) (g : Nat) (lb : Array Value) (sf : Nat) (sb : Array Value) (blk off lo hi first : Nat) (d : Array α) (w : World) (eg : ∀ args w, (callFunc g args).run Tryz.prog w = .ok (.enter g args) w) (hless : LessReads Tryz.prog g lb enc lt blk off d.size w) (hswap : SwapSwaps Tryz.prog sf sb enc blk off d.size) (hH : Holds enc w blk off d) (hblk : blk < w.heap.size) (hlo : lo ≤ hi) (hb : first + hi ≤ d.size) (hsz : d.size < 4611686018427387904) :
    Calls Tryz.prog 99 #[.agg #[.func (.func g) #[] lb, .func (.func sf) #[] sb], .int .i64 lo, .int .i64 hi, .int .i64 first] w fun e w' => e = .returned (.tuple #[]) ∧ ∃ n os, w' = sortWorld enc w blk off n (siftDown lt hi first lo d) os := Any.siftDown_func_w Tryz.laysGg34 enc lt g lb sf sb blk off lo hi first d w eg hless hswap hH hblk hlo hb hsz
def Tryz.laysGg27_ren : Go.Shelf.Ren := ⟨fun | 27 => 71 | 34 => 99 | n => n, fun | 44 => 105 | 3 => 3 | 0 => 0 | 4 => 4 | 37 => 99 | 26 => 52 | n => n, fun | n => n⟩
theorem Tryz.laysGg27 : Go.Proofs.LaysGg.n27 Tryz.prog Tryz.laysGg27_ren := {
  mixed := by kernel_rfl
  f27 := Tryz.func71.trans (congrArg some (by kernel_rfl))
  f34 := Tryz.func99.trans (congrArg some (by kernel_rfl))
  t0 := Tryz.underlying0
  a0 := Tryz.isAgg0
  z0 := Tryz.sizeOf0
  v0 := Tryz.zeroValue0
  i0 := by kernel_rfl
  t3 := Tryz.underlying3
  a3 := Tryz.isAgg3
  z3 := Tryz.sizeOf3
  v3 := Tryz.zeroValue3
  i3 := by kernel_rfl
  t4 := Tryz.underlying4
  a4 := Tryz.isAgg4
  z4 := Tryz.sizeOf4
  v4 := Tryz.zeroValue4
  i4 := by kernel_rfl
  t26 := Tryz.underlying52
  a26 := Tryz.isAgg52
  z26 := Tryz.sizeOf52
  v26 := Tryz.zeroValue52
  i26 := by kernel_rfl
  t37 := Tryz.underlying99
  a37 := Tryz.isAgg99
  z37 := Tryz.sizeOf99
  v37 := Tryz.zeroValue99
  i37 := by kernel_rfl
  t44 := Tryz.underlying105
  a44 := Tryz.isAgg105
  z44 := Tryz.sizeOf105
  v44 := Tryz.zeroValue105
  i44 := by kernel_rfl }
open Go.RowKit Go.Lib Go.Sort in
theorem Tryz.heapSort_func_w {α : Type} [Inhabited α] (enc : α → Value) (lt : α → α → Bool) (g : Nat) (lb : Array Value) (sf : Nat) (sb : Array Value) (blk off a b : Nat) (d : Array α) (w : World) (eg : ∀ args w, (callFunc g args).run Tryz.prog w = .ok (.enter g args) w) (hless : LessReads Tryz.prog g lb enc lt blk off d.size w) (hswap : SwapSwaps Tryz.prog sf sb enc blk off d.size) (hH : Holds enc w blk off d) (hblk : blk < w.heap.size) (hab : a ≤ b) (hb : b ≤ d.size) (hsz : d.size < 4611686018427387904) :
    Calls Tryz.prog 71 #[.agg #[.func (.func g) #[] lb, .func (.func sf) #[] sb], .int .i64 a, .int .i64 b] w fun e w' => e = .returned (.tuple #[]) ∧ ∃ n os, w' = sortWorld enc w blk off n (heapSort lt d a b) os := Any.heapSort_func_w Tryz.laysGg27 enc lt g lb sf sb blk off a b d w eg hless hswap hH hblk hab hb hsz
def Tryz.laysGg31_ren : Go.Shelf.Ren := ⟨fun | 31 => 75 | n => n, fun | 44 => 105 | 3 => 3 | 4 => 4 | 0 => 0 | 26 => 52 | 37 => 99 | n => n, fun | n => n⟩
theorem Tryz.laysGg31 : Go.Proofs.LaysGg.n31 Tryz.prog Tryz.laysGg31_ren := {
  mixed := by kernel_rfl
  f31 := Tryz.func75.trans (congrArg some (by kernel_rfl))
  t0 := Tryz.underlying0
  a0 := Tryz.isAgg0
  z0 := Tryz.sizeOf0
  v0 := Tryz.zeroValue0
  i0 := by kernel_rfl
  t3 := Tryz.underlying3
  a3 := Tryz.isAgg3
  z3 := Tryz.sizeOf3
  v3 := Tryz.zeroValue3
  i3 := by kernel_rfl
  t4 := Tryz.underlying4
  a4 := Tryz.isAgg4
  z4 := Tryz.sizeOf4
  v4 := Tryz.zeroValue4
  i4 := by kernel_rfl
  t26 := Tryz.underlying52
  a26 := Tryz.isAgg52
  z26 := Tryz.sizeOf52
  v26 := Tryz.zeroValue52
  i26 := by kernel_rfl
  t37 := Tryz.underlying99
  a37 := Tryz.isAgg99
  z37 := Tryz.sizeOf99
  v37 := Tryz.zeroValue99
  i37 := by kernel_rfl
  t44 := Tryz.underlying105
  a44 := Tryz.isAgg105
  z44 := Tryz.sizeOf105
  v44 := Tryz.zeroValue105
  i44 := by kernel_rfl }
open Go.RowKit Go.Lib Go.Sort in
theorem Tryz.partialInsertionSort_func_one {α : Type} [Inhabited α] (enc : α → Value) (lt : α → α → Bool) (g : Nat) (lb : Array Value) (sf : Nat) (sb : Array Value) (blk off a b : Nat) (d : Array α) (w : World) (eg : ∀ args w, (callFunc g args).run Tryz.prog w = .ok (.enter g args) w) (hless : LessReads Tryz.prog g lb enc lt blk off d.size w) (hswap : SwapSwaps Tryz.prog sf sb enc blk off d.size) (hH : Holds enc w blk off d) (hblk : blk < w.heap.size) (hab : a < b) (hb : b ≤ d.size) (hsz : d.size < 4611686018427387904) :
    Calls Tryz.prog 75 #[.agg #[.func (.func g) #[] lb, .func (.func sf) #[] sb], .int .i64 a, .int .i64 b] w fun e w' =>
      e = .returned (.bool (Sort.partialInsertionSort lt d a b).2) ∧ ∃ n, w' = putRow enc (Sort.ahead (w.alloc (.cells #[.func (.func g) #[] lb, .func (.func sf) #[] sb] 105)) n) blk off (Sort.partialInsertionSort lt d a b).1 := Any.partialInsertionSort_func_one Tryz.laysGg31 enc lt g lb sf sb blk off a b d w eg hless hswap hH hblk hab hb hsz
open Go.RowKit Go.Lib Go.Sort in
/-- sort.partialInsertionSort_func, from a world to a 'sortWorld' of it. (LAID: no walk: one application.) -/
theorem Tryz.partialInsertionSort_func_w {α : Type} [Inhabited α] (enc : α → Value) (lt : α → α → Bool) (g : Nat) (lb : Array Value) (sf : Nat) (sb : Array Value) (blk off a b : Nat) (d : Array α) (w : World) (eg : ∀ args w, (callFunc g args).run Tryz.prog w = .ok (.enter g args) w) (hless : LessReads Tryz.prog g lb enc lt blk off d.size w) (hswap : SwapSwaps Tryz.prog sf sb enc blk off d.size) (hH : Holds enc w blk off d) (hblk : blk < w.heap.size) (hab : a < b) (hb : b ≤ d.size) (hsz : d.size < 4611686018427387904) :
    Calls Tryz.prog 75 #[.agg #[.func (.func g) #[] lb, .func (.func sf) #[] sb], .int .i64 a, .int .i64 b] w fun e w' => e = .returned (.bool (Sort.partialInsertionSort lt d a b).2) ∧ ∃ n os, w' = sortWorld enc w blk off n (Sort.partialInsertionSort lt d a b).1 os := Any.partialInsertionSort_func_w Tryz.laysGg31 enc lt g lb sf sb blk off a b d w eg hless hswap hH hblk hab hb hsz
def Tryz.laysnb115_ren : Go.Shelf.Ren := ⟨fun | 115 => 222 | n => n, fun | 37 => 65 | 4 => 4 | 9 => 9 | 5 => 5 | n => n, fun | n => n⟩
theorem Tryz.laysnb115 : Go.Proofs.Lays.nb115 Tryz.prog Tryz.laysnb115_ren := {
  mixed := by kernel_rfl
  f115 := Tryz.func222.trans (congrArg some (by kernel_rfl))
  t4 := Tryz.underlying4
  a4 := Tryz.isAgg4
  z4 := Tryz.sizeOf4
  v4 := Tryz.zeroValue4
  t9 := Tryz.underlying9
  a9 := Tryz.isAgg9
  z9 := Tryz.sizeOf9
  v9 := Tryz.zeroValue9
  t37 := Tryz.underlying65
  a37 := Tryz.isAgg65
  z37 := Tryz.sizeOf65
  v37 := Tryz.zeroValue65
  t5 := Tryz.underlying5
  a5 := Tryz.isAgg5
  z5 := Tryz.sizeOf5
  v5 := Tryz.zeroValue5 }
/-- bytes.Equal: WHOLE. (LAID: no walk: one application.) -/
theorem Tryz.bytes_Equal_all (p1 p2 : Option Addr) (n c m d : Nat) (xs ys : List Int) (w : World) (hx : xs.length = n) (hy : ys.length = m) (h1 : Lib.BytesIn w p1 n xs) (h2 : Lib.BytesIn w p2 m ys) :
    Calls Tryz.prog 222 #[.slice p1 n c, .slice p2 m d] w fun e w' => e = .returned (.bool (Lib.bytesOf xs == Lib.bytesOf ys)) ∧ w' = w := Any.bytes_Equal_all Tryz.laysnb115 p1 p2 n c m d xs ys w hx hy h1 h2
def Tryz.lays115_ren : Go.Shelf.Ren := ⟨fun | 115 => 222 | n => n, fun | 37 => 65 | 4 => 4 | 9 => 9 | 5 => 5 | n => n, fun | n => n⟩
theorem Tryz.lays115 : Go.Proofs.Lays.n115 Tryz.prog Tryz.lays115_ren := {
  mixed := by kernel_rfl
  f115 := Tryz.func222.trans (congrArg some (by kernel_rfl))
  t4 := Tryz.underlying4
  a4 := Tryz.isAgg4
  z4 := Tryz.sizeOf4
  v4 := Tryz.zeroValue4
  t9 := Tryz.underlying9
  a9 := Tryz.isAgg9
  z9 := Tryz.sizeOf9
  v9 := Tryz.zeroValue9
  t37 := Tryz.underlying65
  a37 := Tryz.isAgg65
  z37 := Tryz.sizeOf65
  v37 := Tryz.zeroValue65 }
/-- bytes.Equal: "Equal reports whether a and b are the same length and contain the same bytes. A nil argument is equivalent to an empty slice.": IT RETURNS 'the bytes of the one == the bytes of the other'; the world is as it was. THE TWO ARGUMENTS COME AS WHATEVER VALUES, each with the one fact that the walk wants of it: what 'string(..)' of it gives: for a slice whose cells you know: 'run_convert_bytes_arg' (Derived/Laws/BytesArg.lean) hands that fact; for a nil one: 'run_convert_bytes_nil' (with xs := []). (LAID: no walk: one application.) -/
theorem Tryz.bytes_Equal (v1 v2 : Value) (xs ys : List Int) (w : World) (h1 : (convert 65 9 v1).run Tryz.prog w = .ok (.string (strOfNums xs)) w) (h2 : (convert 65 9 v2).run Tryz.prog w = .ok (.string (strOfNums ys)) w) :
    Calls Tryz.prog 222 #[v1, v2] w fun e w' => e = .returned (.bool (Lib.bytesOf xs == Lib.bytesOf ys)) ∧ w' = w := Any.bytes_Equal Tryz.lays115 v1 v2 xs ys w h1 h2
end Go.Proofs
