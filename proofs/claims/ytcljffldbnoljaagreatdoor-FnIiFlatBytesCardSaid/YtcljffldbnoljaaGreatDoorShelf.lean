/-
  DERIVED: THE SHELF's CONTRACTS AT THIS DUMP, IN PLAIN WORDS (tools/lay-plain.mjs out of 'TryzShelf.lean', which tools/lay-shelf.mjs wrote): THE SAME DECLARATIONS UNDER THE SAME NAMES: 'import', 'namespace', 'open', 'def', 'theorem' AND NOTHING ELSE: no command of the shelf's: FOR A HAND-IN. Each laying: the table of numbers ('.._ren') and one theorem, a field a fact of the dump's own or the kernel's comparison; each contract: ONE APPLICATION.
-/
import Derived.Shelf.Strings.Builder1
import Derived.Shelf.Strings.Builder2
import Derived.Shelf.Small.Bits
import Derived.Shelf.Strings.BuilderF
import Derived.Shelf.Strings.BuilderK
import Derived.Shelf.Strings.Builder2Cap
import Derived.Shelf.Strconv.Itoa0
import Derived.Shelf.LaysM
import Derived.Shelf.Bytes.GrowSliceCatch
import Derived.Shelf.Bytes.GrowSlice
import Derived.Ground.MnProg
import Derived.Shelf.Bin.LEPutUint64
import Derived.Shelf.Bin.PutUvarint
import Derived.Shelf.Sort.Plain
import Derived.Ground.GgsProg
import Derived.Shelf.GgSortFunc.Insertion
import Derived.Shelf.GgSortFunc.Small
import Derived.Shelf.GgSortFunc.InsertionK
import Derived.Shelf.GgSortFunc.SmallK
import Derived.Shelf.GgSortFunc.Tiny
import Derived.Shelf.GgSortFunc.Compose
import Derived.Shelf.GgSortFunc.LotD
import Derived.Shelf.GgSortFunc.Pivot
import Derived.Shelf.GgSortFunc.Partition
import Derived.Shelf.GgSortFunc.Pdq
import Derived.Shelf.GgSortFunc.Whole
import Derived.Ground.GgtProg
import Derived.Shelf.GgSortMore.Stable
import Derived.Shelf.Bytes.LenAt
import Derived.Shelf.Bytes.StringAt
import Derived.Shelf.Bytes.TryGrowAt
import Derived.Shelf.Bytes.GrowRow0At
import Derived.Shelf.Bytes.GrowRowAt
import Derived.Shelf.Bytes.GrowNilAt
import Derived.Shelf.Bytes.GrowAt
import Derived.Shelf.Bytes.WriteAt
import Derived.Shelf.Strings.BuilderCap
import Derived.Shelf.SlSortFunc.Xorshift
import Derived.Shelf.SlSortFunc.SiftDown
import Derived.Shelf.SlSortFunc.HeapSort
import Derived.Shelf.SlSortFunc.PartialInsertion
import Derived.Test.YtcljffldbnoljaaGreatDoorProg
namespace Go.Proofs
open Go.Shelf
def Tryz.lays170_ren : Go.Shelf.Ren := ⟨fun | 170 => 226 | n => n, fun | 70 => 118 | 3 => 3 | 0 => 0 | 72 => 120 | 37 => 47 | 5 => 5 | n => n, fun | n => n⟩
theorem Tryz.lays170 : Go.Proofs.Lays.n170 Tryz.prog Tryz.lays170_ren := {
  mixed := by kernel_rfl
  f170 := Tryz.func226.trans (congrArg some (by kernel_rfl))
  t0 := Tryz.underlying0
  a0 := Tryz.isAgg0
  z0 := Tryz.sizeOf0
  v0 := Tryz.zeroValue0
  t3 := Tryz.underlying3
  a3 := Tryz.isAgg3
  z3 := Tryz.sizeOf3
  v3 := Tryz.zeroValue3
  t37 := Tryz.underlying47
  a37 := Tryz.isAgg47
  z37 := Tryz.sizeOf47
  v37 := Tryz.zeroValue47
  t70 := Tryz.underlying118
  a70 := Tryz.isAgg118
  z70 := Tryz.sizeOf118
  v70 := Tryz.zeroValue118
  t72 := Tryz.underlying120
  a72 := Tryz.isAgg120
  z72 := Tryz.sizeOf120
  v72 := Tryz.zeroValue120 }
open Go.RowKit in
/-- (*strings.Builder).Len: "Len returns the number of accumulated bytes; b.Len() == len(b.String()).": the world is as it was. (LAID: no walk: one application.) -/
theorem Tryz.Builder_Len (B b : Nat) (bs : List Value) (w : World) (h : Lib.IsBuilder 120 5 B b bs w) :
    Calls Tryz.prog 226 #[.pointer (some ⟨b, 0, none⟩)] w fun e w' => e = .returned (.int .i64 bs.length) ∧ w' = w := Any.Builder_Len Tryz.lays170 B b bs w h
def Tryz.lays169_ren : Go.Shelf.Ren := ⟨fun | 169 => 54 | n => n, fun | 70 => 118 | 9 => 9 | 0 => 0 | 72 => 120 | 37 => 47 | 127 => 155 | 3 => 3 | 5 => 5 | n => n, fun | n => n⟩
theorem Tryz.lays169 : Go.Proofs.Lays.n169 Tryz.prog Tryz.lays169_ren := {
  mixed := by kernel_rfl
  f169 := Tryz.func54.trans (congrArg some (by kernel_rfl))
  t0 := Tryz.underlying0
  a0 := Tryz.isAgg0
  z0 := Tryz.sizeOf0
  v0 := Tryz.zeroValue0
  t3 := Tryz.underlying3
  a3 := Tryz.isAgg3
  z3 := Tryz.sizeOf3
  v3 := Tryz.zeroValue3
  t9 := Tryz.underlying9
  a9 := Tryz.isAgg9
  z9 := Tryz.sizeOf9
  v9 := Tryz.zeroValue9
  t37 := Tryz.underlying47
  a37 := Tryz.isAgg47
  z37 := Tryz.sizeOf47
  v37 := Tryz.zeroValue47
  t70 := Tryz.underlying118
  a70 := Tryz.isAgg118
  z70 := Tryz.sizeOf118
  v70 := Tryz.zeroValue118
  t72 := Tryz.underlying120
  a72 := Tryz.isAgg120
  z72 := Tryz.sizeOf120
  v72 := Tryz.zeroValue120
  t127 := Tryz.underlying155
  a127 := Tryz.isAgg155
  z127 := Tryz.sizeOf155
  v127 := Tryz.zeroValue155 }
theorem Tryz.Builder_Extra_169 : Builder.Extra Tryz.prog Tryz.lays169_ren := {
  sizeBuilder := by kernel_rfl
  liesBuilder := by kernel_rfl
  t5 := Tryz.underlying5
  a5 := Tryz.isAgg5
  z5 := Tryz.sizeOf5
  v5 := Tryz.zeroValue5
  infoByte := by kernel_rfl
  cellsByte := by kernel_rfl
  sizeByte := by kernel_rfl
  neB5 := by decide }
open Go.RowKit in
/-- (*strings.Builder).String: "String returns the accumulated string.": OF A BUILDER THAT HOLDS AT LEAST ONE BYTE. ✋ THE MODEL FREEZES THOSE BYTES IN THE BUFFER (unsafe.String): a later write INTO them ends the model's run without an answer; a later append BEHIND them goes on. The statement's order of evaluation is drawn: one draw. (LAID: no walk: one application.) -/
theorem Tryz.Builder_String (B b : Nat) (l : List UInt8) (w : World) (h : Lib.IsBuilder 120 5 B b (Lib.byteCells l) w) (h0 : l ≠ []) :
    Calls Tryz.prog 54 #[.pointer (some ⟨b, 0, none⟩)] w fun e w' => e = .returned (.string ⟨l.toArray⟩) ∧ Below B w w' := Any.Builder_String Tryz.lays169 Tryz.Builder_Extra_169 B b l w h h0
open Go.RowKit in
/-- (*strings.Builder).String OF A BUILDER THAT HOLDS NO BYTE: the empty string. (Its buffer is nil, or a row of which it has taken nothing yet; where that row has NO capacity the model lays one new block for unsafe.SliceData's 'some address'.) One draw. (LAID: no walk: one application.) -/
theorem Tryz.Builder_String_empty (B b : Nat) (w : World) (h : Lib.IsBuilder 120 5 B b [] w) (hBw : B ≤ w.heap.size) :
    Calls Tryz.prog 54 #[.pointer (some ⟨b, 0, none⟩)] w fun e w' => e = .returned (.string ⟨#[]⟩) ∧ Below B w w' := Any.Builder_String_empty Tryz.lays169 Tryz.Builder_Extra_169 B b w h hBw
open Go.RowKit in
/-- (*strings.Builder).String: "String returns the accumulated string.": WHATEVER THE BUILDER HOLDS. (LAID: no walk: one application.) -/
theorem Tryz.Builder_String_any (B b : Nat) (l : List UInt8) (w : World) (h : Lib.IsBuilder 120 5 B b (Lib.byteCells l) w) (hBw : B ≤ w.heap.size) :
    Calls Tryz.prog 54 #[.pointer (some ⟨b, 0, none⟩)] w fun e w' => e = .returned (.string ⟨l.toArray⟩) ∧ Below B w w' := Any.Builder_String_any Tryz.lays169 Tryz.Builder_Extra_169 B b l w h hBw
def Tryz.lays241_ren : Go.Shelf.Ren := ⟨fun | 241 => 70 | 277 => 99 | n => n, fun | 70 => 118 | 3 => 3 | 0 => 0 | 72 => 120 | 37 => 47 | 5 => 5 | n => n, fun | n => n⟩
theorem Tryz.lays241 : Go.Proofs.Lays.n241 Tryz.prog Tryz.lays241_ren := {
  mixed := by kernel_rfl
  f241 := Tryz.func70.trans (congrArg some (by kernel_rfl))
  f277 := Tryz.func99.trans (congrArg some (by kernel_rfl))
  t0 := Tryz.underlying0
  a0 := Tryz.isAgg0
  z0 := Tryz.sizeOf0
  v0 := Tryz.zeroValue0
  t3 := Tryz.underlying3
  a3 := Tryz.isAgg3
  z3 := Tryz.sizeOf3
  v3 := Tryz.zeroValue3
  t37 := Tryz.underlying47
  a37 := Tryz.isAgg47
  z37 := Tryz.sizeOf47
  v37 := Tryz.zeroValue47
  t70 := Tryz.underlying118
  a70 := Tryz.isAgg118
  z70 := Tryz.sizeOf118
  v70 := Tryz.zeroValue118
  t72 := Tryz.underlying120
  a72 := Tryz.isAgg120
  z72 := Tryz.sizeOf120
  v72 := Tryz.zeroValue120 }
theorem Tryz.Builder_Extra_241 : Builder.Extra Tryz.prog Tryz.lays241_ren := {
  sizeBuilder := by kernel_rfl
  liesBuilder := by kernel_rfl
  t5 := Tryz.underlying5
  a5 := Tryz.isAgg5
  z5 := Tryz.sizeOf5
  v5 := Tryz.zeroValue5
  infoByte := by kernel_rfl
  cellsByte := by kernel_rfl
  sizeByte := by kernel_rfl
  neB5 := by decide }
open Go.RowKit in
/-- (*strings.Builder).grow (no doc but "grow copies the buffer to a new, larger buffer so that there are at least n bytes of capacity beyond len(b.buf)."): AT A BUILDER WITHOUT A BUFFER: a new row of whatever bytes for its buffer, none of them its own yet. Three draws. (LAID: no walk: one application.) -/
theorem Tryz.Builder_grow_fresh (B b n : Nat) (w : World) (hB : B ≤ b) (hbk : w.heap[b]? = some (.cells #[.pointer (some ⟨b, 0, none⟩), .slice none 0 0] 120 (0, 0))) (hBw : B ≤ w.heap.size) (hn : n ≤ 281474976710656) :
    Calls Tryz.prog 70 #[.pointer (some ⟨b, 0, none⟩), .int .i64 n] w fun e w' => e = .returned (.tuple #[]) ∧ (Lib.BuilderAt 120 5 B b (.pointer (some ⟨b, 0, none⟩)) [] w' ∧ Below B w w') := Any.Builder_grow_fresh Tryz.lays241 Tryz.Builder_Extra_241 B b n w hB hbk hBw hn
def Tryz.lays165_ren : Go.Shelf.Ren := ⟨fun | 165 => 51 | 240 => 69 | 241 => 70 | 276 => 98 | 277 => 99 | n => n, fun | 70 => 118 | 3 => 3 | 0 => 0 | 4 => 4 | 9 => 9 | 20 => 20 | 72 => 120 | 37 => 47 | 164 => 142 | 5 => 5 | n => n, fun | n => n⟩
theorem Tryz.lays165 : Go.Proofs.Lays.n165 Tryz.prog Tryz.lays165_ren := {
  mixed := by kernel_rfl
  f165 := Tryz.func51.trans (congrArg some (by kernel_rfl))
  f240 := Tryz.func69.trans (congrArg some (by kernel_rfl))
  f241 := Tryz.func70.trans (congrArg some (by kernel_rfl))
  f276 := Tryz.func98.trans (congrArg some (by kernel_rfl))
  f277 := Tryz.func99.trans (congrArg some (by kernel_rfl))
  t0 := Tryz.underlying0
  a0 := Tryz.isAgg0
  z0 := Tryz.sizeOf0
  v0 := Tryz.zeroValue0
  t3 := Tryz.underlying3
  a3 := Tryz.isAgg3
  z3 := Tryz.sizeOf3
  v3 := Tryz.zeroValue3
  t4 := Tryz.underlying4
  a4 := Tryz.isAgg4
  z4 := Tryz.sizeOf4
  v4 := Tryz.zeroValue4
  t9 := Tryz.underlying9
  a9 := Tryz.isAgg9
  z9 := Tryz.sizeOf9
  v9 := Tryz.zeroValue9
  t20 := Tryz.underlying20
  a20 := Tryz.isAgg20
  z20 := Tryz.sizeOf20
  v20 := Tryz.zeroValue20
  t37 := Tryz.underlying47
  a37 := Tryz.isAgg47
  z37 := Tryz.sizeOf47
  v37 := Tryz.zeroValue47
  t70 := Tryz.underlying118
  a70 := Tryz.isAgg118
  z70 := Tryz.sizeOf118
  v70 := Tryz.zeroValue118
  t72 := Tryz.underlying120
  a72 := Tryz.isAgg120
  z72 := Tryz.sizeOf120
  v72 := Tryz.zeroValue120
  t164 := Tryz.underlying142
  a164 := Tryz.isAgg142
  z164 := Tryz.sizeOf142
  v164 := Tryz.zeroValue142 }
theorem Tryz.Builder_Extra_165 : Builder.Extra Tryz.prog Tryz.lays165_ren := {
  sizeBuilder := by kernel_rfl
  liesBuilder := by kernel_rfl
  t5 := Tryz.underlying5
  a5 := Tryz.isAgg5
  z5 := Tryz.sizeOf5
  v5 := Tryz.zeroValue5
  infoByte := by kernel_rfl
  cellsByte := by kernel_rfl
  sizeByte := by kernel_rfl
  neB5 := by decide }
open Go.RowKit in
/-- (*strings.Builder).Grow AT A BUILDER THAT HAS NOT BEEN WRITTEN ('var b strings.Builder; b.Grow(n)'): "Grow grows b's capacity, if necessary, to guarantee space for another n bytes.": it holds no byte behind it as before it. (LAID: no walk: one application.) -/
theorem Tryz.Builder_Grow_fresh (B b n : Nat) (w : World) (hB : B ≤ b) (hbk : w.heap[b]? = some (.cells #[.pointer none, .slice none 0 0] 120 (0, 0))) (hBw : B ≤ w.heap.size) (hn : n ≤ 281474976710656) :
    Calls Tryz.prog 51 #[.pointer (some ⟨b, 0, none⟩), .int .i64 n] w fun e w' => e = .returned (.tuple #[]) ∧ (Lib.BuilderAt 120 5 B b (.pointer (some ⟨b, 0, none⟩)) [] w' ∧ Below B w w') := Any.Builder_Grow_fresh Tryz.lays165 Tryz.Builder_Extra_165 B b n w hB hbk hBw hn
def Tryz.lays128_ren : Go.Shelf.Ren := ⟨fun | 128 => 89 | n => n, fun | 51 => 172 | 3 => 3 | 4 => 4 | 46 => 80 | 5 => 5 | 9 => 9 | n => n, fun | n => n⟩
theorem Tryz.lays128 : Go.Proofs.Lays.n128 Tryz.prog Tryz.lays128_ren := {
  mixed := by kernel_rfl
  f128 := Tryz.func89.trans (congrArg some (by kernel_rfl))
  t3 := Tryz.underlying3
  a3 := Tryz.isAgg3
  z3 := Tryz.sizeOf3
  v3 := Tryz.zeroValue3
  t4 := Tryz.underlying4
  a4 := Tryz.isAgg4
  z4 := Tryz.sizeOf4
  v4 := Tryz.zeroValue4
  t5 := Tryz.underlying5
  a5 := Tryz.isAgg5
  z5 := Tryz.sizeOf5
  v5 := Tryz.zeroValue5
  t9 := Tryz.underlying9
  a9 := Tryz.isAgg9
  z9 := Tryz.sizeOf9
  v9 := Tryz.zeroValue9
  t46 := Tryz.underlying80
  a46 := Tryz.isAgg80
  z46 := Tryz.sizeOf80
  v46 := Tryz.zeroValue80
  t51 := Tryz.underlying172
  a51 := Tryz.isAgg172
  z51 := Tryz.sizeOf172
  v51 := Tryz.zeroValue172 }
/-- bits.Len32: "Len32 returns the minimum number of bits required to represent x; the result is 0 for x == 0.": IT RETURNS 'Lib.bitLen x'; the world is as it was. ('h0', 'h1': x is a uint32.) (LAID: no walk: one application.) -/
theorem Tryz.bits_Len32 (x : Int) (w : World) (h0 : 0 ≤ x) (h1 : x ≤ 4294967295) :
    Calls Tryz.prog 89 #[.int .u32 x] w fun e w' => e = .returned (.int .i64 (Lib.bitLen x.toNat)) ∧ w' = w := Any.bits_Len32 Tryz.lays128 x w h0 h1
def Tryz.lays125_ren : Go.Shelf.Ren := ⟨fun | 125 => 66 | 128 => 89 | 129 => 68 | n => n, fun | 46 => 80 | 3 => 3 | 51 => 172 | 53 => 25 | 4 => 4 | 5 => 5 | 9 => 9 | n => n, fun | n => n⟩
theorem Tryz.lays125 : Go.Proofs.Lays.n125 Tryz.prog Tryz.lays125_ren := {
  mixed := by kernel_rfl
  f125 := Tryz.func66.trans (congrArg some (by kernel_rfl))
  f128 := Tryz.func89.trans (congrArg some (by kernel_rfl))
  f129 := Tryz.func68.trans (congrArg some (by kernel_rfl))
  t3 := Tryz.underlying3
  a3 := Tryz.isAgg3
  z3 := Tryz.sizeOf3
  v3 := Tryz.zeroValue3
  t4 := Tryz.underlying4
  a4 := Tryz.isAgg4
  z4 := Tryz.sizeOf4
  v4 := Tryz.zeroValue4
  t5 := Tryz.underlying5
  a5 := Tryz.isAgg5
  z5 := Tryz.sizeOf5
  v5 := Tryz.zeroValue5
  t9 := Tryz.underlying9
  a9 := Tryz.isAgg9
  z9 := Tryz.sizeOf9
  v9 := Tryz.zeroValue9
  t46 := Tryz.underlying80
  a46 := Tryz.isAgg80
  z46 := Tryz.sizeOf80
  v46 := Tryz.zeroValue80
  t51 := Tryz.underlying172
  a51 := Tryz.isAgg172
  z51 := Tryz.sizeOf172
  v51 := Tryz.zeroValue172
  t53 := Tryz.underlying25
  a53 := Tryz.isAgg25
  z53 := Tryz.sizeOf25
  v53 := Tryz.zeroValue25 }
/-- bits.Len: "Len returns the minimum number of bits required to represent x; the result is 0 for x == 0.": IT RETURNS 'Lib.bitLen x'; the world is as it was. (A uint has 64 bits in the model.) ITS CALLEE bits.Len64 IS MET BY ITS OWN CONTRACT OFF THE SHELF (lay that first). (LAID: no walk: one application.) -/
theorem Tryz.bits_Len (x : Int) (w : World) (h0 : 0 ≤ x) (h1 : x ≤ 18446744073709551615) :
    Calls Tryz.prog 66 #[.int .u64 x] w fun e w' => e = .returned (.int .i64 (Lib.bitLen x.toNat)) ∧ w' = w := Any.bits_Len Tryz.lays125 x w h0 h1
open Go.RowKit in
/-- (*strings.Builder).Len: "Len returns the number of accumulated bytes; b.Len() == len(b.String()).": the world is as it was. (THE FORM '_f': 'Lib.IsBuilderF'.) (LAID: no walk: one application.) -/
theorem Tryz.Builder_Len_f (B b : Nat) (bs : List Value) (w : World) (h : Lib.IsBuilderF 120 5 B b bs w) :
    Calls Tryz.prog 226 #[.pointer (some ⟨b, 0, none⟩)] w fun e w' => e = .returned (.int .i64 bs.length) ∧ w' = w := Any.Builder_Len_f Tryz.lays170 B b bs w h
open Go.RowKit in
/-- (*strings.Builder).String: "String returns the accumulated string.": OF A BUILDER THAT HOLDS AT LEAST ONE BYTE. ✋ THE MODEL FREEZES THOSE BYTES IN THE BUFFER (unsafe.String): a later write INTO them ends the model's run without an answer; a later append BEHIND them goes on. The statement's order of evaluation is drawn: one draw. THE FORM '_f': IT SAYS BESIDES THAT THE BUILDER IS A BUILDER STILL ('Lib.IsBuilderF', the same bytes): SO IT CAN BE WRITTEN ON: 'b.WriteString(b.String()[:k])'. (LAID: no walk: one application.) -/
theorem Tryz.Builder_String_f (B b : Nat) (l : List UInt8) (w : World) (h : Lib.IsBuilderF 120 5 B b (Lib.byteCells l) w) (h0 : l ≠ []) :
    Calls Tryz.prog 54 #[.pointer (some ⟨b, 0, none⟩)] w fun e w' => e = .returned (.string ⟨l.toArray⟩) ∧ (Lib.IsBuilderF 120 5 B b (Lib.byteCells l) w' ∧ Below B w w') := Any.Builder_String_f Tryz.lays169 Tryz.Builder_Extra_169 B b l w h h0
open Go.RowKit in
/-- (*strings.Builder).String OF A BUILDER THAT HOLDS NO BYTE: the empty string; THE FORM '_f': a builder still. (LAID: no walk: one application.) -/
theorem Tryz.Builder_String_empty_f (B b : Nat) (w : World) (h : Lib.IsBuilderF 120 5 B b [] w) (hBw : B ≤ w.heap.size) :
    Calls Tryz.prog 54 #[.pointer (some ⟨b, 0, none⟩)] w fun e w' => e = .returned (.string ⟨#[]⟩) ∧ (Lib.IsBuilderF 120 5 B b [] w' ∧ Below B w w') := Any.Builder_String_empty_f Tryz.lays169 Tryz.Builder_Extra_169 B b w h hBw
open Go.RowKit in
/-- (*strings.Builder).String: "String returns the accumulated string.": WHATEVER THE BUILDER HOLDS; THE FORM '_f': OF A BUILDER THAT MAY HAVE BEEN READ BEFORE; AND IT IS A BUILDER STILL, holding the same bytes: it can be written on. (LAID: no walk: one application.) -/
theorem Tryz.Builder_String_any_f (B b : Nat) (l : List UInt8) (w : World) (h : Lib.IsBuilderF 120 5 B b (Lib.byteCells l) w) (hBw : B ≤ w.heap.size) :
    Calls Tryz.prog 54 #[.pointer (some ⟨b, 0, none⟩)] w fun e w' => e = .returned (.string ⟨l.toArray⟩) ∧ (Lib.IsBuilderF 120 5 B b (Lib.byteCells l) w' ∧ Below B w w') := Any.Builder_String_any_f Tryz.lays169 Tryz.Builder_Extra_169 B b l w h hBw
open Go.RowKit in
/-- (*strings.Builder).String: "String returns the accumulated string.": OF A BUILDER THAT HOLDS AT LEAST ONE BYTE. ✋ THE MODEL FREEZES THOSE BYTES IN THE BUFFER (unsafe.String): a later write INTO them ends the model's run without an answer; a later append BEHIND them goes on. The statement's order of evaluation is drawn: one draw. THE FORM '_k': OVER 'Lib.IsBuilderF' (a builder that 'String()' may have read), AND WITH THE FRAME THAT REACHES ABOVE THE BUILDER: 'Lib.OthersKept': every block that is not b and is no row of uint8's stands as it stood: the iterator of a range among them. (LAID: no walk: one application.) -/
theorem Tryz.Builder_String_k (B b : Nat) (l : List UInt8) (w : World) (h : Lib.IsBuilderF 120 5 B b (Lib.byteCells l) w) (h0 : l ≠ []) :
    Calls Tryz.prog 54 #[.pointer (some ⟨b, 0, none⟩)] w fun e w' => e = .returned (.string ⟨l.toArray⟩) ∧ (Lib.IsBuilderF 120 5 B b (Lib.byteCells l) w' ∧ Below B w w' ∧ Lib.OthersKept 5 (some b) w w') := Any.Builder_String_k Tryz.lays169 Tryz.Builder_Extra_169 B b l w h h0
open Go.RowKit in
/-- (*strings.Builder).String OF A BUILDER THAT HOLDS NO BYTE: the empty string; THE FORM '_k': OVER 'Lib.IsBuilderF' (a builder that 'String()' may have read), AND WITH THE FRAME THAT REACHES ABOVE THE BUILDER: 'Lib.OthersKept': every block that is not b and is no row of uint8's stands as it stood: the iterator of a range among them. (LAID: no walk: one application.) -/
theorem Tryz.Builder_String_empty_k (B b : Nat) (w : World) (h : Lib.IsBuilderF 120 5 B b [] w) (hBw : B ≤ w.heap.size) :
    Calls Tryz.prog 54 #[.pointer (some ⟨b, 0, none⟩)] w fun e w' => e = .returned (.string ⟨#[]⟩) ∧ (Lib.IsBuilderF 120 5 B b [] w' ∧ Below B w w' ∧ Lib.OthersKept 5 (some b) w w') := Any.Builder_String_empty_k Tryz.lays169 Tryz.Builder_Extra_169 B b w h hBw
open Go.RowKit in
/-- (*strings.Builder).String: "String returns the accumulated string.": WHATEVER THE BUILDER HOLDS; THE FORM '_k': OVER 'Lib.IsBuilderF' (a builder that 'String()' may have read), AND WITH THE FRAME THAT REACHES ABOVE THE BUILDER: 'Lib.OthersKept': every block that is not b and is no row of uint8's stands as it stood: the iterator of a range among them. (LAID: no walk: one application.) -/
theorem Tryz.Builder_String_any_k (B b : Nat) (l : List UInt8) (w : World) (h : Lib.IsBuilderF 120 5 B b (Lib.byteCells l) w) (hBw : B ≤ w.heap.size) :
    Calls Tryz.prog 54 #[.pointer (some ⟨b, 0, none⟩)] w fun e w' => e = .returned (.string ⟨l.toArray⟩) ∧ (Lib.IsBuilderF 120 5 B b (Lib.byteCells l) w' ∧ Below B w w' ∧ Lib.OthersKept 5 (some b) w w') := Any.Builder_String_any_k Tryz.lays169 Tryz.Builder_Extra_169 B b l w h hBw
open Go.RowKit in
/-- (*strings.Builder).grow (no doc but "grow copies the buffer to a new, larger buffer so that there are at least n bytes of capacity beyond len(b.buf)."): AT A BUILDER WITHOUT A BUFFER: a new row of whatever bytes for its buffer, none of them its own yet. Three draws. (LAID: no walk: one application.) -/
theorem Tryz.Builder_grow_fresh_cap (B b n : Nat) (w : World) (hB : B ≤ b) (hbk : w.heap[b]? = some (.cells #[.pointer (some ⟨b, 0, none⟩), .slice none 0 0] 120 (0, 0))) (hBw : B ≤ w.heap.size) (hn : n ≤ 281474976710656) :
    Calls Tryz.prog 70 #[.pointer (some ⟨b, 0, none⟩), .int .i64 n] w fun e w' => e = .returned (.tuple #[]) ∧ (Lib.BuilderAt 120 5 B b (.pointer (some ⟨b, 0, none⟩)) [] w' ∧ Below B w w') ∧ ∃ p cap, w'.cell? ⟨b, 1, none⟩ = some (.slice p 0 cap) ∧ n ≤ cap := Any.Builder_grow_fresh_cap Tryz.lays241 Tryz.Builder_Extra_241 B b n w hB hbk hBw hn
open Go.RowKit in
/-- (*strings.Builder).Grow AT A BUILDER THAT HAS NOT BEEN WRITTEN ('var b strings.Builder; b.Grow(n)'): "Grow grows b's capacity, if necessary, to guarantee space for another n bytes.": it holds no byte behind it as before it. (LAID: no walk: one application.) -/
theorem Tryz.Builder_Grow_fresh_cap (B b n : Nat) (w : World) (hB : B ≤ b) (hbk : w.heap[b]? = some (.cells #[.pointer none, .slice none 0 0] 120 (0, 0))) (hBw : B ≤ w.heap.size) (hn : n ≤ 281474976710656) :
    Calls Tryz.prog 51 #[.pointer (some ⟨b, 0, none⟩), .int .i64 n] w fun e w' => e = .returned (.tuple #[]) ∧ (Lib.BuilderAt 120 5 B b (.pointer (some ⟨b, 0, none⟩)) [] w' ∧ Below B w w') ∧ ∃ p cap, w'.cell? ⟨b, 1, none⟩ = some (.slice p 0 cap) ∧ n ≤ cap := Any.Builder_Grow_fresh_cap Tryz.lays165 Tryz.Builder_Extra_165 B b n w hB hbk hBw hn
def Tryz.lays129_ren : Go.Shelf.Ren := ⟨fun | 129 => 68 | n => n, fun | 53 => 25 | 3 => 3 | 4 => 4 | 46 => 80 | 5 => 5 | 9 => 9 | n => n, fun | n => n⟩
theorem Tryz.lays129 : Go.Proofs.Lays.n129 Tryz.prog Tryz.lays129_ren := {
  mixed := by kernel_rfl
  f129 := Tryz.func68.trans (congrArg some (by kernel_rfl))
  t3 := Tryz.underlying3
  a3 := Tryz.isAgg3
  z3 := Tryz.sizeOf3
  v3 := Tryz.zeroValue3
  t4 := Tryz.underlying4
  a4 := Tryz.isAgg4
  z4 := Tryz.sizeOf4
  v4 := Tryz.zeroValue4
  t5 := Tryz.underlying5
  a5 := Tryz.isAgg5
  z5 := Tryz.sizeOf5
  v5 := Tryz.zeroValue5
  t9 := Tryz.underlying9
  a9 := Tryz.isAgg9
  z9 := Tryz.sizeOf9
  v9 := Tryz.zeroValue9
  t46 := Tryz.underlying80
  a46 := Tryz.isAgg80
  z46 := Tryz.sizeOf80
  v46 := Tryz.zeroValue80
  t53 := Tryz.underlying25
  a53 := Tryz.isAgg25
  z53 := Tryz.sizeOf25
  v53 := Tryz.zeroValue25 }
/-- bits.Len64: "Len64 returns the minimum number of bits required to represent x; the result is 0 for x == 0.": IT RETURNS 'Lib.bitLen x'; the world is as it was. ('h0', 'h1': x is a uint64.) (LAID: no walk: one application.) -/
theorem Tryz.bits_Len64 (x : Int) (w : World) (h0 : 0 ≤ x) (h1 : x ≤ 18446744073709551615) :
    Calls Tryz.prog 68 #[.int .u64 x] w fun e w' => e = .returned (.int .i64 (Lib.bitLen x.toNat)) ∧ w' = w := Any.bits_Len64 Tryz.lays129 x w h0 h1
def Tryz.laysM324_ren : Go.Shelf.Ren := ⟨fun | 324 => 162 | n => n, fun | 20 => 20 | 4 => 4 | 75 => 42 | 0 => 0 | 80 => 79 | 9 => 9 | n => n, fun | 14 => 11 | n => n⟩
theorem Tryz.laysM324 : Go.Proofs.LaysM.n324 Tryz.prog Tryz.laysM324_ren := {
  mixed := by kernel_rfl
  f324 := Tryz.func162.trans (congrArg some (by kernel_rfl))
  t0 := Tryz.underlying0
  a0 := Tryz.isAgg0
  z0 := Tryz.sizeOf0
  v0 := Tryz.zeroValue0
  t4 := Tryz.underlying4
  a4 := Tryz.isAgg4
  z4 := Tryz.sizeOf4
  v4 := Tryz.zeroValue4
  t20 := Tryz.underlying20
  a20 := Tryz.isAgg20
  z20 := Tryz.sizeOf20
  v20 := Tryz.zeroValue20
  t75 := Tryz.underlying42
  a75 := Tryz.isAgg42
  z75 := Tryz.sizeOf42
  v75 := Tryz.zeroValue42
  g14 := by kernel_rfl
  t9 := Tryz.underlying9
  a9 := Tryz.isAgg9
  z9 := Tryz.sizeOf9
  v9 := Tryz.zeroValue9
  t80 := Tryz.underlying79
  a80 := Tryz.isAgg79
  z80 := Tryz.sizeOf79
  v80 := Tryz.zeroValue79
  i0 := by kernel_rfl
  i4 := by kernel_rfl
  i9 := by kernel_rfl
  i20 := by kernel_rfl
  i75 := by kernel_rfl
  i80 := by kernel_rfl
  m14 := by kernel_rfl }
theorem Tryz.growSlice_catch_idle (w : World) :
    CallsD Tryz.prog 162 #[] .returning w fun e u' w' => e = .returned (.tuple #[]) ∧ u' = .returning ∧ w' = w := Any.growSlice_catch_idle Tryz.laysM324 w
def Tryz.laysM290_ren : Go.Shelf.Ren := ⟨fun | 290 => 161 | 324 => 162 | n => n, fun | 37 => 47 | 3 => 3 | 0 => 0 | 4 => 4 | 20 => 20 | 75 => 42 | 5 => 5 | 80 => 79 | 9 => 9 | n => n, fun | 14 => 11 | n => n⟩
theorem Tryz.laysM290 : Go.Proofs.LaysM.n290 Tryz.prog Tryz.laysM290_ren := {
  mixed := by kernel_rfl
  f290 := Tryz.func161.trans (congrArg some (by kernel_rfl))
  f324 := Tryz.func162.trans (congrArg some (by kernel_rfl))
  t0 := Tryz.underlying0
  a0 := Tryz.isAgg0
  z0 := Tryz.sizeOf0
  v0 := Tryz.zeroValue0
  t3 := Tryz.underlying3
  a3 := Tryz.isAgg3
  z3 := Tryz.sizeOf3
  v3 := Tryz.zeroValue3
  t4 := Tryz.underlying4
  a4 := Tryz.isAgg4
  z4 := Tryz.sizeOf4
  v4 := Tryz.zeroValue4
  t20 := Tryz.underlying20
  a20 := Tryz.isAgg20
  z20 := Tryz.sizeOf20
  v20 := Tryz.zeroValue20
  t37 := Tryz.underlying47
  a37 := Tryz.isAgg47
  z37 := Tryz.sizeOf47
  v37 := Tryz.zeroValue47
  t75 := Tryz.underlying42
  a75 := Tryz.isAgg42
  z75 := Tryz.sizeOf42
  v75 := Tryz.zeroValue42
  g14 := by kernel_rfl
  t5 := Tryz.underlying5
  a5 := Tryz.isAgg5
  z5 := Tryz.sizeOf5
  v5 := Tryz.zeroValue5
  t9 := Tryz.underlying9
  a9 := Tryz.isAgg9
  z9 := Tryz.sizeOf9
  v9 := Tryz.zeroValue9
  t80 := Tryz.underlying79
  a80 := Tryz.isAgg79
  z80 := Tryz.sizeOf79
  v80 := Tryz.zeroValue79
  i0 := by kernel_rfl
  i3 := by kernel_rfl
  i4 := by kernel_rfl
  i5 := by kernel_rfl
  i9 := by kernel_rfl
  i20 := by kernel_rfl
  i37 := by kernel_rfl
  i75 := by kernel_rfl
  i80 := by kernel_rfl
  m14 := by kernel_rfl }
open Go.RowKit in
/-- bytes.growSlice: "growSlice grows b by n, preserving the original content of b.": OF A SLICE THAT LIES AT THE HEAD OF A ROW: a new row, number 'w.heap.size': it begins with b's l cells; its capacity has room for n more; whatever lay below is as it was. (LAID: no walk: one application.) -/
theorem Tryz.bytes_growSlice_row (g l c n : Nat) (cur : Array Value) (w : World) (hg : w.heap[g]? = some (.cells cur 5 (0, 0))) (hcs : cur.size = c) (hlc : l ≤ c) (hn : 1 ≤ n) (hlim : l + n ≤ 140737488355328) (hc2 : c ≤ 140737488355328) (h1 : ∀ v ∈ cur.toList.take l, v.oneCell' = true) :
    Calls Tryz.prog 161 #[.slice (some ⟨g, 0, none⟩) l c, .int .i64 n] w fun e w' => ∃ cap2 cells, e = .returned (.slice (some ⟨w.heap.size, 0, none⟩) l cap2) ∧ w'.heap[w.heap.size]? = some (.cells cells 5 (0, 0)) ∧
      cells.size = cap2 ∧ cells.toList.take l = cur.toList.take l ∧ l + n ≤ cap2 ∧ cap2 ≤ maxLen ∧ Below w.heap.size w w' := Any.bytes_growSlice_row Tryz.laysM290 g l c n cur w hg hcs hlc hn hlim hc2 h1
open Go.RowKit in
/-- .. OF THE NIL SLICE: a new row with room for n. (LAID: no walk: one application.) -/
theorem Tryz.bytes_growSlice_nil (n : Nat) (w : World) (hn : 1 ≤ n) (hlim : n ≤ 140737488355328) :
    Calls Tryz.prog 161 #[.slice none 0 0, .int .i64 n] w fun e w' => ∃ cap2 cells, e = .returned (.slice (some ⟨w.heap.size, 0, none⟩) 0 cap2) ∧ w'.heap[w.heap.size]? = some (.cells cells 5 (0, 0)) ∧
      cells.size = cap2 ∧ n ≤ cap2 ∧ cap2 ≤ maxLen ∧ Below w.heap.size w w' := Any.bytes_growSlice_nil Tryz.laysM290 n w hn hlim
def Tryz.laysBin34_ren : Go.Shelf.Ren := ⟨fun | 34 => 181 | n => n, fun | 25 => 253 | 22 => 47 | 33 => 25 | 0 => 0 | 5 => 5 | 45 => 80 | n => n, fun | n => n⟩
theorem Tryz.laysBin34 : Go.Proofs.LaysBin.n34 Tryz.prog Tryz.laysBin34_ren := {
  mixed := by kernel_rfl
  f34 := Tryz.func181.trans (congrArg some (by kernel_rfl))
  t0 := Tryz.underlying0
  a0 := Tryz.isAgg0
  z0 := Tryz.sizeOf0
  v0 := Tryz.zeroValue0
  i0 := by kernel_rfl
  t5 := Tryz.underlying5
  a5 := Tryz.isAgg5
  z5 := Tryz.sizeOf5
  v5 := Tryz.zeroValue5
  i5 := by kernel_rfl
  t22 := Tryz.underlying47
  a22 := Tryz.isAgg47
  z22 := Tryz.sizeOf47
  v22 := Tryz.zeroValue47
  i22 := by kernel_rfl
  t25 := Tryz.underlying253
  a25 := Tryz.isAgg253
  z25 := Tryz.sizeOf253
  v25 := Tryz.zeroValue253
  i25 := by kernel_rfl
  t33 := Tryz.underlying25
  a33 := Tryz.isAgg25
  z33 := Tryz.sizeOf25
  v33 := Tryz.zeroValue25
  i33 := by kernel_rfl
  t45 := Tryz.underlying80
  a45 := Tryz.isAgg80
  z45 := Tryz.sizeOf80
  v45 := Tryz.zeroValue80
  i45 := by kernel_rfl }
open Go.RowKit in
/-- binary.LittleEndian.PutUint64: "PutUint64 stores v into b[0:8].": v's 8 BYTES, the least first ('Lib.leBytes 8 v'), ARE LAID IN THE SLICE's FIRST 8 CELLS ('World.setCells'); nothing else turns (the receiver, an empty struct, is laid in a new block without cells). (LAID: no walk: one application.) -/
theorem Tryz.binary_LE_PutUint64 (g o n c v : Nat) (hv : v < 18446744073709551616) (x0 x1 x2 x3 x4 x5 x6 x7 : Value) (w : World) (hn : 8 ≤ n) (c0 : w.cell? ⟨g, o, none⟩ = some x0) (c1 : w.cell? ⟨g, o + 1, none⟩ = some x1) (c2 : w.cell? ⟨g, o + 2, none⟩ = some x2) (c3 : w.cell? ⟨g, o + 3, none⟩ = some x3) (c4 : w.cell? ⟨g, o + 4, none⟩ = some x4) (c5 : w.cell? ⟨g, o + 5, none⟩ = some x5) (c6 : w.cell? ⟨g, o + 6, none⟩ = some x6) (c7 : w.cell? ⟨g, o + 7, none⟩ = some x7) (f0 : w.frozen? ⟨g, o, none⟩ = false) (f1 : w.frozen? ⟨g, o + 1, none⟩ = false) (f2 : w.frozen? ⟨g, o + 2, none⟩ = false) (f3 : w.frozen? ⟨g, o + 3, none⟩ = false) (f4 : w.frozen? ⟨g, o + 4, none⟩ = false) (f5 : w.frozen? ⟨g, o + 5, none⟩ = false) (f6 : w.frozen? ⟨g, o + 6, none⟩ = false) (f7 : w.frozen? ⟨g, o + 7, none⟩ = false) :
    Calls Tryz.prog 181 #[.agg #[], .slice (some ⟨g, o, none⟩) n c, .int .u64 v] w fun e w' => e = .returned (.tuple #[]) ∧ w' = (w.alloc (.cells #[] 253)).setCells g o (Lib.byteCells (Lib.leBytes 8 v)) := Any.binary_LE_PutUint64 Tryz.laysBin34 g o n c v hv x0 x1 x2 x3 x4 x5 x6 x7 w hn c0 c1 c2 c3 c4 c5 c6 c7 f0 f1 f2 f3 f4 f5 f6 f7
def Tryz.laysBin46_ren : Go.Shelf.Ren := ⟨fun | 46 => 59 | n => n, fun | 22 => 47 | 33 => 25 | 3 => 3 | 4 => 4 | 5 => 5 | 0 => 0 | 45 => 80 | n => n, fun | n => n⟩
theorem Tryz.laysBin46 : Go.Proofs.LaysBin.n46 Tryz.prog Tryz.laysBin46_ren := {
  mixed := by kernel_rfl
  f46 := Tryz.func59.trans (congrArg some (by kernel_rfl))
  t0 := Tryz.underlying0
  a0 := Tryz.isAgg0
  z0 := Tryz.sizeOf0
  v0 := Tryz.zeroValue0
  i0 := by kernel_rfl
  t3 := Tryz.underlying3
  a3 := Tryz.isAgg3
  z3 := Tryz.sizeOf3
  v3 := Tryz.zeroValue3
  i3 := by kernel_rfl
  t4 := Tryz.underlying4
  a4 := Tryz.isAgg4
  z4 := Tryz.sizeOf4
  v4 := Tryz.zeroValue4
  i4 := by kernel_rfl
  t5 := Tryz.underlying5
  a5 := Tryz.isAgg5
  z5 := Tryz.sizeOf5
  v5 := Tryz.zeroValue5
  i5 := by kernel_rfl
  t22 := Tryz.underlying47
  a22 := Tryz.isAgg47
  z22 := Tryz.sizeOf47
  v22 := Tryz.zeroValue47
  i22 := by kernel_rfl
  t33 := Tryz.underlying25
  a33 := Tryz.isAgg25
  z33 := Tryz.sizeOf25
  v33 := Tryz.zeroValue25
  i33 := by kernel_rfl
  t45 := Tryz.underlying80
  a45 := Tryz.isAgg80
  z45 := Tryz.sizeOf80
  v45 := Tryz.zeroValue80
  i45 := by kernel_rfl }
open Go.RowKit in
/-- binary.PutUvarint: "PutUvarint encodes a uint64 into buf and returns the number of bytes written. If the buffer is too small, PutUvarint will panic.": WHERE buf HAS ROOM: x's VARINT ('Lib.uvarint x') IS LAID IN buf's FIRST CELLS ('World.setCells'); its length comes back; nothing else turns. (LAID: no walk: one application.) -/
theorem Tryz.binary_PutUvarint (g o n c x : Nat) (hx : x < 18446744073709551616) (w : World) (hn : (Lib.uvarint x).length ≤ n) (hcell : ∀ j, j < (Lib.uvarint x).length → (w.cell? ⟨g, o + j, none⟩).isSome = true ∧ w.frozen? ⟨g, o + j, none⟩ = false) :
    Calls Tryz.prog 59 #[.slice (some ⟨g, o, none⟩) n c, .int .u64 x] w fun e w' => e = .returned (.int .i64 (Lib.uvarint x).length) ∧ w' = w.setCells g o (Lib.byteCells (Lib.uvarint x)) := Any.binary_PutUvarint Tryz.laysBin46 g o n c x hx w hn hcell
def Tryz.lays189_ren : Go.Shelf.Ren := ⟨fun | 189 => 78 | 125 => 66 | 257 => 106 | 128 => 89 | 129 => 68 | 294 => 114 | 295 => 115 | 296 => 116 | 297 => 117 | 298 => 118 | 299 => 119 | 216 => 120 | 300 => 121 | 301 => 122 | 328 => 125 | 329 => 126 | 330 => 127 | 331 => 128 | 332 => 129 | 215 => 130 | 343 => 132 | n => n, fun | 28 => 108 | 3 => 3 | 46 => 80 | 0 => 0 | 51 => 172 | 53 => 25 | 4 => 4 | 183 => 200 | 182 => 199 | 131 => 179 | 5 => 5 | 9 => 9 | 218 => 208 | 222 => 194 | 228 => 212 | 229 => 206 | n => n, fun | n => n⟩
theorem Tryz.lays189 : Go.Proofs.Lays.n189 Tryz.prog Tryz.lays189_ren := {
  mixed := by kernel_rfl
  f125 := Tryz.func66.trans (congrArg some (by kernel_rfl))
  f128 := Tryz.func89.trans (congrArg some (by kernel_rfl))
  f129 := Tryz.func68.trans (congrArg some (by kernel_rfl))
  f189 := Tryz.func78.trans (congrArg some (by kernel_rfl))
  f215 := Tryz.func130.trans (congrArg some (by kernel_rfl))
  f216 := Tryz.func120.trans (congrArg some (by kernel_rfl))
  f257 := Tryz.func106.trans (congrArg some (by kernel_rfl))
  f294 := Tryz.func114.trans (congrArg some (by kernel_rfl))
  f295 := Tryz.func115.trans (congrArg some (by kernel_rfl))
  f296 := Tryz.func116.trans (congrArg some (by kernel_rfl))
  f297 := Tryz.func117.trans (congrArg some (by kernel_rfl))
  f298 := Tryz.func118.trans (congrArg some (by kernel_rfl))
  f299 := Tryz.func119.trans (congrArg some (by kernel_rfl))
  f300 := Tryz.func121.trans (congrArg some (by kernel_rfl))
  f301 := Tryz.func122.trans (congrArg some (by kernel_rfl))
  f328 := Tryz.func125.trans (congrArg some (by kernel_rfl))
  f329 := Tryz.func126.trans (congrArg some (by kernel_rfl))
  f330 := Tryz.func127.trans (congrArg some (by kernel_rfl))
  f331 := Tryz.func128.trans (congrArg some (by kernel_rfl))
  f332 := Tryz.func129.trans (congrArg some (by kernel_rfl))
  f343 := Tryz.func132.trans (congrArg some (by kernel_rfl))
  t0 := Tryz.underlying0
  a0 := Tryz.isAgg0
  z0 := Tryz.sizeOf0
  v0 := Tryz.zeroValue0
  t3 := Tryz.underlying3
  a3 := Tryz.isAgg3
  z3 := Tryz.sizeOf3
  v3 := Tryz.zeroValue3
  t4 := Tryz.underlying4
  a4 := Tryz.isAgg4
  z4 := Tryz.sizeOf4
  v4 := Tryz.zeroValue4
  t5 := Tryz.underlying5
  a5 := Tryz.isAgg5
  z5 := Tryz.sizeOf5
  v5 := Tryz.zeroValue5
  t9 := Tryz.underlying9
  a9 := Tryz.isAgg9
  z9 := Tryz.sizeOf9
  v9 := Tryz.zeroValue9
  t28 := Tryz.underlying108
  a28 := Tryz.isAgg108
  z28 := Tryz.sizeOf108
  v28 := Tryz.zeroValue108
  t46 := Tryz.underlying80
  a46 := Tryz.isAgg80
  z46 := Tryz.sizeOf80
  v46 := Tryz.zeroValue80
  t51 := Tryz.underlying172
  a51 := Tryz.isAgg172
  z51 := Tryz.sizeOf172
  v51 := Tryz.zeroValue172
  t53 := Tryz.underlying25
  a53 := Tryz.isAgg25
  z53 := Tryz.sizeOf25
  v53 := Tryz.zeroValue25
  t131 := Tryz.underlying179
  a131 := Tryz.isAgg179
  z131 := Tryz.sizeOf179
  v131 := Tryz.zeroValue179
  t182 := Tryz.underlying199
  a182 := Tryz.isAgg199
  z182 := Tryz.sizeOf199
  v182 := Tryz.zeroValue199
  t183 := Tryz.underlying200
  a183 := Tryz.isAgg200
  z183 := Tryz.sizeOf200
  v183 := Tryz.zeroValue200
  t218 := Tryz.underlying208
  a218 := Tryz.isAgg208
  z218 := Tryz.sizeOf208
  v218 := Tryz.zeroValue208
  t222 := Tryz.underlying194
  a222 := Tryz.isAgg194
  z222 := Tryz.sizeOf194
  v222 := Tryz.zeroValue194
  t228 := Tryz.underlying212
  a228 := Tryz.isAgg212
  z228 := Tryz.sizeOf212
  v228 := Tryz.zeroValue212
  t229 := Tryz.underlying206
  a229 := Tryz.isAgg206
  z229 := Tryz.sizeOf206
  v229 := Tryz.zeroValue206 }
open Go.Sort Go.RowKit in
theorem Tryz.slices_Sort_int (blk off cap : Nat) (zs : List Int) (w : World) (hH : Holds (Value.int .i64) w blk off zs.toArray) (hblk : blk < w.heap.size) (hsz : zs.length < 4611686018427387904) :
    Calls Tryz.prog 78 #[.slice (some ⟨blk, off, none⟩) zs.length cap] w fun e w' =>
      e = .returned (.tuple #[]) ∧ ∃ n os, w' = grow (putRow (Value.int .i64) (Sort.ahead w n) blk off (zs.mergeSort fun x y => decide (x ≤ y)).toArray) os := Any.slices_Sort_int Tryz.lays189 blk off cap zs w hH hblk hsz
def Tryz.lays191_ren : Go.Shelf.Ren := ⟨fun | 191 => 60 | 189 => 78 | 125 => 66 | 257 => 106 | 128 => 89 | 129 => 68 | 294 => 114 | 295 => 115 | 296 => 116 | 297 => 117 | 298 => 118 | 299 => 119 | 216 => 120 | 300 => 121 | 301 => 122 | 328 => 125 | 329 => 126 | 330 => 127 | 331 => 128 | 332 => 129 | 215 => 130 | 343 => 132 | n => n, fun | 28 => 108 | 0 => 0 | 3 => 3 | 46 => 80 | 51 => 172 | 53 => 25 | 4 => 4 | 183 => 200 | 182 => 199 | 131 => 179 | 5 => 5 | 9 => 9 | 218 => 208 | 222 => 194 | 228 => 212 | 229 => 206 | n => n, fun | n => n⟩
theorem Tryz.lays191 : Go.Proofs.Lays.n191 Tryz.prog Tryz.lays191_ren := {
  mixed := by kernel_rfl
  f125 := Tryz.func66.trans (congrArg some (by kernel_rfl))
  f128 := Tryz.func89.trans (congrArg some (by kernel_rfl))
  f129 := Tryz.func68.trans (congrArg some (by kernel_rfl))
  f189 := Tryz.func78.trans (congrArg some (by kernel_rfl))
  f191 := Tryz.func60.trans (congrArg some (by kernel_rfl))
  f215 := Tryz.func130.trans (congrArg some (by kernel_rfl))
  f216 := Tryz.func120.trans (congrArg some (by kernel_rfl))
  f257 := Tryz.func106.trans (congrArg some (by kernel_rfl))
  f294 := Tryz.func114.trans (congrArg some (by kernel_rfl))
  f295 := Tryz.func115.trans (congrArg some (by kernel_rfl))
  f296 := Tryz.func116.trans (congrArg some (by kernel_rfl))
  f297 := Tryz.func117.trans (congrArg some (by kernel_rfl))
  f298 := Tryz.func118.trans (congrArg some (by kernel_rfl))
  f299 := Tryz.func119.trans (congrArg some (by kernel_rfl))
  f300 := Tryz.func121.trans (congrArg some (by kernel_rfl))
  f301 := Tryz.func122.trans (congrArg some (by kernel_rfl))
  f328 := Tryz.func125.trans (congrArg some (by kernel_rfl))
  f329 := Tryz.func126.trans (congrArg some (by kernel_rfl))
  f330 := Tryz.func127.trans (congrArg some (by kernel_rfl))
  f331 := Tryz.func128.trans (congrArg some (by kernel_rfl))
  f332 := Tryz.func129.trans (congrArg some (by kernel_rfl))
  f343 := Tryz.func132.trans (congrArg some (by kernel_rfl))
  t0 := Tryz.underlying0
  a0 := Tryz.isAgg0
  z0 := Tryz.sizeOf0
  v0 := Tryz.zeroValue0
  t3 := Tryz.underlying3
  a3 := Tryz.isAgg3
  z3 := Tryz.sizeOf3
  v3 := Tryz.zeroValue3
  t4 := Tryz.underlying4
  a4 := Tryz.isAgg4
  z4 := Tryz.sizeOf4
  v4 := Tryz.zeroValue4
  t5 := Tryz.underlying5
  a5 := Tryz.isAgg5
  z5 := Tryz.sizeOf5
  v5 := Tryz.zeroValue5
  t9 := Tryz.underlying9
  a9 := Tryz.isAgg9
  z9 := Tryz.sizeOf9
  v9 := Tryz.zeroValue9
  t28 := Tryz.underlying108
  a28 := Tryz.isAgg108
  z28 := Tryz.sizeOf108
  v28 := Tryz.zeroValue108
  t46 := Tryz.underlying80
  a46 := Tryz.isAgg80
  z46 := Tryz.sizeOf80
  v46 := Tryz.zeroValue80
  t51 := Tryz.underlying172
  a51 := Tryz.isAgg172
  z51 := Tryz.sizeOf172
  v51 := Tryz.zeroValue172
  t53 := Tryz.underlying25
  a53 := Tryz.isAgg25
  z53 := Tryz.sizeOf25
  v53 := Tryz.zeroValue25
  t131 := Tryz.underlying179
  a131 := Tryz.isAgg179
  z131 := Tryz.sizeOf179
  v131 := Tryz.zeroValue179
  t182 := Tryz.underlying199
  a182 := Tryz.isAgg199
  z182 := Tryz.sizeOf199
  v182 := Tryz.zeroValue199
  t183 := Tryz.underlying200
  a183 := Tryz.isAgg200
  z183 := Tryz.sizeOf200
  v183 := Tryz.zeroValue200
  t218 := Tryz.underlying208
  a218 := Tryz.isAgg208
  z218 := Tryz.sizeOf208
  v218 := Tryz.zeroValue208
  t222 := Tryz.underlying194
  a222 := Tryz.isAgg194
  z222 := Tryz.sizeOf194
  v222 := Tryz.zeroValue194
  t228 := Tryz.underlying212
  a228 := Tryz.isAgg212
  z228 := Tryz.sizeOf212
  v228 := Tryz.zeroValue212
  t229 := Tryz.underlying206
  a229 := Tryz.isAgg206
  z229 := Tryz.sizeOf206
  v229 := Tryz.zeroValue206 }
open Go.Sort Go.RowKit in
theorem Tryz.sort_Ints (blk off cap : Nat) (zs : List Int) (w : World) (hH : Holds (Value.int .i64) w blk off zs.toArray) (hblk : blk < w.heap.size) (hsz : zs.length < 4611686018427387904) :
    Calls Tryz.prog 60 #[.slice (some ⟨blk, off, none⟩) zs.length cap] w fun e w' =>
      e = .returned (.tuple #[]) ∧ ∃ n os, w' = grow (putRow (Value.int .i64) (Sort.ahead w n) blk off (zs.mergeSort fun x y => decide (x ≤ y)).toArray) os := Any.sort_Ints Tryz.lays191 blk off cap zs w hH hblk hsz
def Tryz.laysGg26_ren : Go.Shelf.Ren := ⟨fun | 26 => 90 | n => n, fun | 44 => 152 | 3 => 3 | 0 => 0 | 4 => 4 | 26 => 113 | 37 => 147 | n => n, fun | n => n⟩
theorem Tryz.laysGg26 : Go.Proofs.LaysGg.n26 Tryz.prog Tryz.laysGg26_ren := {
  mixed := by kernel_rfl
  f26 := Tryz.func90.trans (congrArg some (by kernel_rfl))
  t0 := Tryz.underlying0
  a0 := Tryz.isAgg0
  z0 := Tryz.sizeOf0
  v0 := Tryz.zeroValue0
  i0 := by kernel_rfl
  t3 := Tryz.underlying3
  a3 := Tryz.isAgg3
  z3 := Tryz.sizeOf3
  v3 := Tryz.zeroValue3
  i3 := by kernel_rfl
  t4 := Tryz.underlying4
  a4 := Tryz.isAgg4
  z4 := Tryz.sizeOf4
  v4 := Tryz.zeroValue4
  i4 := by kernel_rfl
  t26 := Tryz.underlying113
  a26 := Tryz.isAgg113
  z26 := Tryz.sizeOf113
  v26 := Tryz.zeroValue113
  i26 := by kernel_rfl
  t37 := Tryz.underlying147
  a37 := Tryz.isAgg147
  z37 := Tryz.sizeOf147
  v37 := Tryz.zeroValue147
  i37 := by kernel_rfl
  t44 := Tryz.underlying152
  a44 := Tryz.isAgg152
  z44 := Tryz.sizeOf152
  v44 := Tryz.zeroValue152
  i44 := by kernel_rfl }
open Go.RowKit Go.Lib Go.Sort in
theorem Tryz.insertionSort_func_one {α : Type} [Inhabited α] (enc : α → Value) (lt : α → α → Bool) (g : Nat) (lb : Array Value) (sf : Nat) (sb : Array Value) (blk off a b : Nat) (d : Array α) (w : World) (eg : ∀ args w, (callFunc g args).run Tryz.prog w = .ok (.enter g args) w) (hless : LessReads Tryz.prog g lb enc lt blk off d.size w) (hswap : SwapSwaps Tryz.prog sf sb enc blk off d.size) (hH : Holds enc w blk off d) (hblk : blk < w.heap.size) (hab : a ≤ b) (hb : b ≤ d.size) (hsz : d.size < 4611686018427387904) :
    Calls Tryz.prog 90 #[.agg #[.func (.func g) #[] lb, .func (.func sf) #[] sb], .int .i64 a, .int .i64 b] w fun e w' =>
      e = .returned (.tuple #[]) ∧ ∃ n, w' = putRow enc (Sort.ahead (w.alloc (.cells #[.func (.func g) #[] lb, .func (.func sf) #[] sb] 152)) n) blk off (Sort.insertionSort lt d a b) := Any.insertionSort_func_one Tryz.laysGg26 enc lt g lb sf sb blk off a b d w eg hless hswap hH hblk hab hb hsz
def Tryz.laysGg14_ren : Go.Shelf.Ren := ⟨fun | 14 => 67 | 26 => 90 | 27 => 91 | 28 => 92 | 29 => 93 | 30 => 94 | 31 => 95 | 32 => 96 | 33 => 97 | 34 => 108 | 35 => 109 | 36 => 110 | 37 => 111 | 38 => 112 | 13 => 66 | 39 => 124 | 24 => 89 | 25 => 68 | n => n, fun | 44 => 152 | 3 => 3 | 0 => 0 | 4 => 4 | 54 => 175 | 53 => 174 | 26 => 113 | 58 => 179 | 37 => 147 | 60 => 191 | 41 => 80 | 51 => 25 | 64 => 194 | 66 => 205 | 67 => 206 | 49 => 172 | 5 => 5 | 9 => 9 | n => n, fun | n => n⟩
theorem Tryz.laysGg14 : Go.Proofs.LaysGg.n14 Tryz.prog Tryz.laysGg14_ren := {
  mixed := by kernel_rfl
  f13 := Tryz.func66.trans (congrArg some (by kernel_rfl))
  f14 := Tryz.func67.trans (congrArg some (by kernel_rfl))
  f24 := Tryz.func89.trans (congrArg some (by kernel_rfl))
  f25 := Tryz.func68.trans (congrArg some (by kernel_rfl))
  f26 := Tryz.func90.trans (congrArg some (by kernel_rfl))
  f27 := Tryz.func91.trans (congrArg some (by kernel_rfl))
  f28 := Tryz.func92.trans (congrArg some (by kernel_rfl))
  f29 := Tryz.func93.trans (congrArg some (by kernel_rfl))
  f30 := Tryz.func94.trans (congrArg some (by kernel_rfl))
  f31 := Tryz.func95.trans (congrArg some (by kernel_rfl))
  f32 := Tryz.func96.trans (congrArg some (by kernel_rfl))
  f33 := Tryz.func97.trans (congrArg some (by kernel_rfl))
  f34 := Tryz.func108.trans (congrArg some (by kernel_rfl))
  f35 := Tryz.func109.trans (congrArg some (by kernel_rfl))
  f36 := Tryz.func110.trans (congrArg some (by kernel_rfl))
  f37 := Tryz.func111.trans (congrArg some (by kernel_rfl))
  f38 := Tryz.func112.trans (congrArg some (by kernel_rfl))
  f39 := Tryz.func124.trans (congrArg some (by kernel_rfl))
  t0 := Tryz.underlying0
  a0 := Tryz.isAgg0
  z0 := Tryz.sizeOf0
  v0 := Tryz.zeroValue0
  i0 := by kernel_rfl
  t3 := Tryz.underlying3
  a3 := Tryz.isAgg3
  z3 := Tryz.sizeOf3
  v3 := Tryz.zeroValue3
  i3 := by kernel_rfl
  t4 := Tryz.underlying4
  a4 := Tryz.isAgg4
  z4 := Tryz.sizeOf4
  v4 := Tryz.zeroValue4
  i4 := by kernel_rfl
  t5 := Tryz.underlying5
  a5 := Tryz.isAgg5
  z5 := Tryz.sizeOf5
  v5 := Tryz.zeroValue5
  i5 := by kernel_rfl
  t9 := Tryz.underlying9
  a9 := Tryz.isAgg9
  z9 := Tryz.sizeOf9
  v9 := Tryz.zeroValue9
  i9 := by kernel_rfl
  t26 := Tryz.underlying113
  a26 := Tryz.isAgg113
  z26 := Tryz.sizeOf113
  v26 := Tryz.zeroValue113
  i26 := by kernel_rfl
  t37 := Tryz.underlying147
  a37 := Tryz.isAgg147
  z37 := Tryz.sizeOf147
  v37 := Tryz.zeroValue147
  i37 := by kernel_rfl
  t41 := Tryz.underlying80
  a41 := Tryz.isAgg80
  z41 := Tryz.sizeOf80
  v41 := Tryz.zeroValue80
  i41 := by kernel_rfl
  t44 := Tryz.underlying152
  a44 := Tryz.isAgg152
  z44 := Tryz.sizeOf152
  v44 := Tryz.zeroValue152
  i44 := by kernel_rfl
  t49 := Tryz.underlying172
  a49 := Tryz.isAgg172
  z49 := Tryz.sizeOf172
  v49 := Tryz.zeroValue172
  i49 := by kernel_rfl
  t51 := Tryz.underlying25
  a51 := Tryz.isAgg25
  z51 := Tryz.sizeOf25
  v51 := Tryz.zeroValue25
  i51 := by kernel_rfl
  t53 := Tryz.underlying174
  a53 := Tryz.isAgg174
  z53 := Tryz.sizeOf174
  v53 := Tryz.zeroValue174
  i53 := by kernel_rfl
  t54 := Tryz.underlying175
  a54 := Tryz.isAgg175
  z54 := Tryz.sizeOf175
  v54 := Tryz.zeroValue175
  i54 := by kernel_rfl
  t58 := Tryz.underlying179
  a58 := Tryz.isAgg179
  z58 := Tryz.sizeOf179
  v58 := Tryz.zeroValue179
  i58 := by kernel_rfl
  t60 := Tryz.underlying191
  a60 := Tryz.isAgg191
  z60 := Tryz.sizeOf191
  v60 := Tryz.zeroValue191
  i60 := by kernel_rfl
  t64 := Tryz.underlying194
  a64 := Tryz.isAgg194
  z64 := Tryz.sizeOf194
  v64 := Tryz.zeroValue194
  i64 := by kernel_rfl
  t66 := Tryz.underlying205
  a66 := Tryz.isAgg205
  z66 := Tryz.sizeOf205
  v66 := Tryz.zeroValue205
  i66 := by kernel_rfl
  t67 := Tryz.underlying206
  a67 := Tryz.isAgg206
  z67 := Tryz.sizeOf206
  v67 := Tryz.zeroValue206
  i67 := by kernel_rfl }
open Go.RowKit Go.Lib Go.Sort in
/-- sort.pdqsort_func AT A RANGE OF AT MOST 12. (LAID: no walk: one application.) -/
theorem Tryz.pdqsort_func_small {α : Type} [Inhabited α] (enc : α → Value) (lt : α → α → Bool) (g : Nat) (lb : Array Value) (sf : Nat) (sb : Array Value) (blk off a b : Nat) (lim : Int) (d : Array α) (w : World) (eg : ∀ args w, (callFunc g args).run Tryz.prog w = .ok (.enter g args) w) (hless : LessReads Tryz.prog g lb enc lt blk off d.size w) (hswap : SwapSwaps Tryz.prog sf sb enc blk off d.size) (hH : Holds enc w blk off d) (hblk : blk < w.heap.size) (hab : a ≤ b) (hb : b ≤ d.size) (hsz : d.size < 4611686018427387904) (h12 : b - a ≤ 12) :
    Calls Tryz.prog 67 #[.agg #[.func (.func g) #[] lb, .func (.func sf) #[] sb], .int .i64 a, .int .i64 b, .int .i64 lim] w fun e w' =>
      e = .returned (.tuple #[]) ∧ ∃ n, w' = putRow enc (Sort.ahead ((w.alloc (.cells #[.func (.func g) #[] lb, .func (.func sf) #[] sb] 152)).alloc (.cells #[.func (.func g) #[] lb, .func (.func sf) #[] sb] 152)) n) blk off (Sort.insertionSort lt d a b) := Any.pdqsort_func_small Tryz.laysGg14 enc lt g lb sf sb blk off a b lim d w eg hless hswap hH hblk hab hb hsz h12
def Tryz.laysGg6_ren : Go.Shelf.Ren := ⟨fun | 6 => 47 | 10 => 63 | 11 => 64 | 12 => 65 | 13 => 66 | 14 => 67 | 24 => 89 | 25 => 68 | 26 => 90 | 27 => 91 | 28 => 92 | 29 => 93 | 30 => 94 | 31 => 95 | 32 => 96 | 33 => 97 | 34 => 108 | 35 => 109 | 36 => 110 | 37 => 111 | 38 => 112 | 39 => 124 | n => n, fun | 20 => 20 | 26 => 113 | 35 => 145 | 0 => 0 | 37 => 147 | 3 => 3 | 41 => 80 | 44 => 152 | 49 => 172 | 51 => 25 | 4 => 4 | 54 => 175 | 53 => 174 | 58 => 179 | 5 => 5 | 9 => 9 | 60 => 191 | 64 => 194 | 66 => 205 | 67 => 206 | 17 => 17 | 32 => 142 | 33 => 143 | 82 => 225 | 12 => 12 | 75 => 219 | 76 => 220 | 77 => 221 | 78 => 155 | 79 => 222 | 80 => 223 | n => n, fun | n => n⟩
theorem Tryz.laysGg6 : Go.Proofs.LaysGg.n6 Tryz.prog Tryz.laysGg6_ren := {
  mixed := by kernel_rfl
  f6 := Tryz.func47.trans (congrArg some (by kernel_rfl))
  f10 := Tryz.func63.trans (congrArg some (by kernel_rfl))
  f11 := Tryz.func64.trans (congrArg some (by kernel_rfl))
  f12 := Tryz.func65.trans (congrArg some (by kernel_rfl))
  f13 := Tryz.func66.trans (congrArg some (by kernel_rfl))
  f14 := Tryz.func67.trans (congrArg some (by kernel_rfl))
  f24 := Tryz.func89.trans (congrArg some (by kernel_rfl))
  f25 := Tryz.func68.trans (congrArg some (by kernel_rfl))
  f26 := Tryz.func90.trans (congrArg some (by kernel_rfl))
  f27 := Tryz.func91.trans (congrArg some (by kernel_rfl))
  f28 := Tryz.func92.trans (congrArg some (by kernel_rfl))
  f29 := Tryz.func93.trans (congrArg some (by kernel_rfl))
  f30 := Tryz.func94.trans (congrArg some (by kernel_rfl))
  f31 := Tryz.func95.trans (congrArg some (by kernel_rfl))
  f32 := Tryz.func96.trans (congrArg some (by kernel_rfl))
  f33 := Tryz.func97.trans (congrArg some (by kernel_rfl))
  f34 := Tryz.func108.trans (congrArg some (by kernel_rfl))
  f35 := Tryz.func109.trans (congrArg some (by kernel_rfl))
  f36 := Tryz.func110.trans (congrArg some (by kernel_rfl))
  f37 := Tryz.func111.trans (congrArg some (by kernel_rfl))
  f38 := Tryz.func112.trans (congrArg some (by kernel_rfl))
  f39 := Tryz.func124.trans (congrArg some (by kernel_rfl))
  t0 := Tryz.underlying0
  a0 := Tryz.isAgg0
  z0 := Tryz.sizeOf0
  v0 := Tryz.zeroValue0
  i0 := by kernel_rfl
  t3 := Tryz.underlying3
  a3 := Tryz.isAgg3
  z3 := Tryz.sizeOf3
  v3 := Tryz.zeroValue3
  i3 := by kernel_rfl
  t4 := Tryz.underlying4
  a4 := Tryz.isAgg4
  z4 := Tryz.sizeOf4
  v4 := Tryz.zeroValue4
  i4 := by kernel_rfl
  t5 := Tryz.underlying5
  a5 := Tryz.isAgg5
  z5 := Tryz.sizeOf5
  v5 := Tryz.zeroValue5
  i5 := by kernel_rfl
  t9 := Tryz.underlying9
  a9 := Tryz.isAgg9
  z9 := Tryz.sizeOf9
  v9 := Tryz.zeroValue9
  i9 := by kernel_rfl
  t12 := Tryz.underlying12
  a12 := Tryz.isAgg12
  z12 := Tryz.sizeOf12
  v12 := Tryz.zeroValue12
  i12 := by kernel_rfl
  t17 := Tryz.underlying17
  a17 := Tryz.isAgg17
  z17 := Tryz.sizeOf17
  v17 := Tryz.zeroValue17
  i17 := by kernel_rfl
  t20 := Tryz.underlying20
  a20 := Tryz.isAgg20
  z20 := Tryz.sizeOf20
  v20 := Tryz.zeroValue20
  i20 := by kernel_rfl
  t26 := Tryz.underlying113
  a26 := Tryz.isAgg113
  z26 := Tryz.sizeOf113
  v26 := Tryz.zeroValue113
  i26 := by kernel_rfl
  t32 := Tryz.underlying142
  a32 := Tryz.isAgg142
  z32 := Tryz.sizeOf142
  v32 := Tryz.zeroValue142
  i32 := by kernel_rfl
  t33 := Tryz.underlying143
  a33 := Tryz.isAgg143
  z33 := Tryz.sizeOf143
  v33 := Tryz.zeroValue143
  i33 := by kernel_rfl
  t35 := Tryz.underlying145
  a35 := Tryz.isAgg145
  z35 := Tryz.sizeOf145
  v35 := Tryz.zeroValue145
  i35 := by kernel_rfl
  t37 := Tryz.underlying147
  a37 := Tryz.isAgg147
  z37 := Tryz.sizeOf147
  v37 := Tryz.zeroValue147
  i37 := by kernel_rfl
  t41 := Tryz.underlying80
  a41 := Tryz.isAgg80
  z41 := Tryz.sizeOf80
  v41 := Tryz.zeroValue80
  i41 := by kernel_rfl
  t44 := Tryz.underlying152
  a44 := Tryz.isAgg152
  z44 := Tryz.sizeOf152
  v44 := Tryz.zeroValue152
  i44 := by kernel_rfl
  t49 := Tryz.underlying172
  a49 := Tryz.isAgg172
  z49 := Tryz.sizeOf172
  v49 := Tryz.zeroValue172
  i49 := by kernel_rfl
  t51 := Tryz.underlying25
  a51 := Tryz.isAgg25
  z51 := Tryz.sizeOf25
  v51 := Tryz.zeroValue25
  i51 := by kernel_rfl
  t53 := Tryz.underlying174
  a53 := Tryz.isAgg174
  z53 := Tryz.sizeOf174
  v53 := Tryz.zeroValue174
  i53 := by kernel_rfl
  t54 := Tryz.underlying175
  a54 := Tryz.isAgg175
  z54 := Tryz.sizeOf175
  v54 := Tryz.zeroValue175
  i54 := by kernel_rfl
  t58 := Tryz.underlying179
  a58 := Tryz.isAgg179
  z58 := Tryz.sizeOf179
  v58 := Tryz.zeroValue179
  i58 := by kernel_rfl
  t60 := Tryz.underlying191
  a60 := Tryz.isAgg191
  z60 := Tryz.sizeOf191
  v60 := Tryz.zeroValue191
  i60 := by kernel_rfl
  t64 := Tryz.underlying194
  a64 := Tryz.isAgg194
  z64 := Tryz.sizeOf194
  v64 := Tryz.zeroValue194
  i64 := by kernel_rfl
  t66 := Tryz.underlying205
  a66 := Tryz.isAgg205
  z66 := Tryz.sizeOf205
  v66 := Tryz.zeroValue205
  i66 := by kernel_rfl
  t67 := Tryz.underlying206
  a67 := Tryz.isAgg206
  z67 := Tryz.sizeOf206
  v67 := Tryz.zeroValue206
  i67 := by kernel_rfl
  t75 := Tryz.underlying219
  a75 := Tryz.isAgg219
  z75 := Tryz.sizeOf219
  v75 := Tryz.zeroValue219
  i75 := by kernel_rfl
  t76 := Tryz.underlying220
  a76 := Tryz.isAgg220
  z76 := Tryz.sizeOf220
  v76 := Tryz.zeroValue220
  i76 := by kernel_rfl
  t77 := Tryz.underlying221
  a77 := Tryz.isAgg221
  z77 := Tryz.sizeOf221
  v77 := Tryz.zeroValue221
  i77 := by kernel_rfl
  t78 := Tryz.underlying155
  a78 := Tryz.isAgg155
  z78 := Tryz.sizeOf155
  v78 := Tryz.zeroValue155
  i78 := by kernel_rfl
  t79 := Tryz.underlying222
  a79 := Tryz.isAgg222
  z79 := Tryz.sizeOf222
  v79 := Tryz.zeroValue222
  i79 := by kernel_rfl
  t80 := Tryz.underlying223
  a80 := Tryz.isAgg223
  z80 := Tryz.sizeOf223
  v80 := Tryz.zeroValue223
  i80 := by kernel_rfl
  t82 := Tryz.underlying225
  a82 := Tryz.isAgg225
  z82 := Tryz.sizeOf225
  v82 := Tryz.zeroValue225
  i82 := by kernel_rfl }
open Go.RowKit Go.Lib Go.Sort in
theorem Tryz.insertionSort_func_cells {α : Type} [Inhabited α] (enc : α → List Value) (k : Nat) (hk : ∀ x, (enc x).length = k) (lt : α → α → Bool) (g : Nat) (lb : Array Value) (sf : Nat) (sb : Array Value) (blk off a b : Nat) (d : Array α) (w : World) (eg : ∀ args w, (callFunc g args).run Tryz.prog w = .ok (.enter g args) w) (hless : LessReadsK Tryz.prog g lb enc k lt blk off d.size w) (hswap : SwapSwapsK Tryz.prog sf sb enc k blk off d.size) (hH : HoldsK enc k w blk off d) (hblk : blk < w.heap.size) (hab : a ≤ b) (hb : b ≤ d.size) (hsz : d.size < 4611686018427387904) :
    Calls Tryz.prog 90 #[.agg #[.func (.func g) #[] lb, .func (.func sf) #[] sb], .int .i64 a, .int .i64 b] w fun e w' =>
      e = .returned (.tuple #[]) ∧ ∃ n, w' = putRowK enc k (Sort.ahead (w.alloc (.cells #[.func (.func g) #[] lb, .func (.func sf) #[] sb] 152)) n) blk off (Sort.insertionSort lt d a b) := Any.insertionSort_func_cells Tryz.laysGg26 enc k hk lt g lb sf sb blk off a b d w eg hless hswap hH hblk hab hb hsz
open Go.RowKit Go.Lib Go.Sort in
/-- sort.pdqsort_func AT A RANGE OF AT MOST 12. (LAID: no walk: one application.) -/
theorem Tryz.pdqsort_func_small_cells {α : Type} [Inhabited α] (enc : α → List Value) (k : Nat) (hk : ∀ x, (enc x).length = k) (lt : α → α → Bool) (g : Nat) (lb : Array Value) (sf : Nat) (sb : Array Value) (blk off a b : Nat) (lim : Int) (d : Array α) (w : World) (eg : ∀ args w, (callFunc g args).run Tryz.prog w = .ok (.enter g args) w) (hless : LessReadsK Tryz.prog g lb enc k lt blk off d.size w) (hswap : SwapSwapsK Tryz.prog sf sb enc k blk off d.size) (hH : HoldsK enc k w blk off d) (hblk : blk < w.heap.size) (hab : a ≤ b) (hb : b ≤ d.size) (hsz : d.size < 4611686018427387904) (h12 : b - a ≤ 12) :
    Calls Tryz.prog 67 #[.agg #[.func (.func g) #[] lb, .func (.func sf) #[] sb], .int .i64 a, .int .i64 b, .int .i64 lim] w fun e w' =>
      e = .returned (.tuple #[]) ∧ ∃ n, w' = putRowK enc k (Sort.ahead ((w.alloc (.cells #[.func (.func g) #[] lb, .func (.func sf) #[] sb] 152)).alloc (.cells #[.func (.func g) #[] lb, .func (.func sf) #[] sb] 152)) n) blk off (Sort.insertionSort lt d a b) := Any.pdqsort_func_small_cells Tryz.laysGg14 enc k hk lt g lb sf sb blk off a b lim d w eg hless hswap hH hblk hab hb hsz h12
open Go.RowKit Go.Lib Go.Sort in
theorem Tryz.insertionSort_func_none (lf : Fn) (la lb : Array Value) (f : Nat) (sb : Array Value) (a b : Nat) (h : b ≤ a + 1) (ha : a < 4611686018427387904) (w : World) :
    Calls Tryz.prog 90 #[.agg #[.func lf la lb, .func (.func f) #[] sb], .int .i64 a, .int .i64 b] w fun e w' => e = .returned (.tuple #[]) ∧ w' = w.alloc (.cells #[.func lf la lb, .func (.func f) #[] sb] 152) := Any.insertionSort_func_none Tryz.laysGg26 lf la lb f sb a b h ha w
open Go.RowKit Go.Lib Go.Sort in
theorem Tryz.pdqsort_func_tiny (lf : Fn) (la lb : Array Value) (f : Nat) (sb : Array Value) (n : Nat) (h : n ≤ 1) (lim : Int) (w : World) :
    Calls Tryz.prog 67 #[.agg #[.func lf la lb, .func (.func f) #[] sb], .int .i64 0, .int .i64 n, .int .i64 lim] w fun e w' => e = .returned (.tuple #[]) ∧ w' = (w.alloc (.cells #[.func lf la lb, .func (.func f) #[] sb] 152)).alloc (.cells #[.func lf la lb, .func (.func f) #[] sb] 152) := Any.pdqsort_func_tiny Tryz.laysGg14 lf la lb f sb n h lim w
open Go.RowKit Go.Lib Go.Sort in
/-- sort.insertionSort_func, from a world to a 'sortWorld' of it. (LAID: no walk: one application.) -/
theorem Tryz.insertionSort_func_w {α : Type} [Inhabited α] (enc : α → Value) (lt : α → α → Bool) (g : Nat) (lb : Array Value) (sf : Nat) (sb : Array Value) (blk off a b : Nat) (d : Array α) (w : World) (eg : ∀ args w, (callFunc g args).run Tryz.prog w = .ok (.enter g args) w) (hless : LessReads Tryz.prog g lb enc lt blk off d.size w) (hswap : SwapSwaps Tryz.prog sf sb enc blk off d.size) (hH : Holds enc w blk off d) (hblk : blk < w.heap.size) (hab : a ≤ b) (hb : b ≤ d.size) (hsz : d.size < 4611686018427387904) :
    Calls Tryz.prog 90 #[.agg #[.func (.func g) #[] lb, .func (.func sf) #[] sb], .int .i64 a, .int .i64 b] w fun e w' => e = .returned (.tuple #[]) ∧ ∃ n os, w' = sortWorld enc w blk off n (Sort.insertionSort lt d a b) os := Any.insertionSort_func_w Tryz.laysGg26 enc lt g lb sf sb blk off a b d w eg hless hswap hH hblk hab hb hsz
def Tryz.laysGg30_ren : Go.Shelf.Ren := ⟨fun | 30 => 94 | n => n, fun | 44 => 152 | 3 => 3 | 0 => 0 | 4 => 4 | 37 => 147 | 26 => 113 | n => n, fun | n => n⟩
theorem Tryz.laysGg30 : Go.Proofs.LaysGg.n30 Tryz.prog Tryz.laysGg30_ren := {
  mixed := by kernel_rfl
  f30 := Tryz.func94.trans (congrArg some (by kernel_rfl))
  t0 := Tryz.underlying0
  a0 := Tryz.isAgg0
  z0 := Tryz.sizeOf0
  v0 := Tryz.zeroValue0
  i0 := by kernel_rfl
  t3 := Tryz.underlying3
  a3 := Tryz.isAgg3
  z3 := Tryz.sizeOf3
  v3 := Tryz.zeroValue3
  i3 := by kernel_rfl
  t4 := Tryz.underlying4
  a4 := Tryz.isAgg4
  z4 := Tryz.sizeOf4
  v4 := Tryz.zeroValue4
  i4 := by kernel_rfl
  t26 := Tryz.underlying113
  a26 := Tryz.isAgg113
  z26 := Tryz.sizeOf113
  v26 := Tryz.zeroValue113
  i26 := by kernel_rfl
  t37 := Tryz.underlying147
  a37 := Tryz.isAgg147
  z37 := Tryz.sizeOf147
  v37 := Tryz.zeroValue147
  i37 := by kernel_rfl
  t44 := Tryz.underlying152
  a44 := Tryz.isAgg152
  z44 := Tryz.sizeOf152
  v44 := Tryz.zeroValue152
  i44 := by kernel_rfl }
open Go.RowKit Go.Lib Go.Sort in
theorem Tryz.reverseRange_func_one {α : Type} [Inhabited α] (enc : α → Value) (lf : Fn) (la lb : Array Value) (sf : Nat) (sb : Array Value) (blk off a b : Nat) (d : Array α) (w : World) (hswap : SwapSwaps Tryz.prog sf sb enc blk off d.size) (hH : Holds enc w blk off d) (hblk : blk < w.heap.size) (hab : a ≤ b) (hb : b ≤ d.size) (hsz : d.size < 4611686018427387904) :
    Calls Tryz.prog 94 #[.agg #[.func lf la lb, .func (.func sf) #[] sb], .int .i64 a, .int .i64 b] w fun e w' => e = .returned (.tuple #[]) ∧ ∃ n, w' = putRow enc (Sort.ahead (w.alloc (.cells #[.func lf la lb, .func (.func sf) #[] sb] 152)) n) blk off (reverseRange d a b) := Any.reverseRange_func_one Tryz.laysGg30 enc lf la lb sf sb blk off a b d w hswap hH hblk hab hb hsz
open Go.RowKit Go.Lib Go.Sort in
/-- sort.reverseRange_func, from a world to a 'sortWorld' of it. (LAID: no walk: one application.) -/
theorem Tryz.reverseRange_func_w {α : Type} [Inhabited α] (enc : α → Value) (lf : Fn) (la lb : Array Value) (sf : Nat) (sb : Array Value) (blk off a b : Nat) (d : Array α) (w : World) (hswap : SwapSwaps Tryz.prog sf sb enc blk off d.size) (hH : Holds enc w blk off d) (hblk : blk < w.heap.size) (hab : a ≤ b) (hb : b ≤ d.size) (hsz : d.size < 4611686018427387904) :
    Calls Tryz.prog 94 #[.agg #[.func lf la lb, .func (.func sf) #[] sb], .int .i64 a, .int .i64 b] w fun e w' => e = .returned (.tuple #[]) ∧ ∃ n os, w' = sortWorld enc w blk off n (reverseRange d a b) os := Any.reverseRange_func_w Tryz.laysGg30 enc lf la lb sf sb blk off a b d w hswap hH hblk hab hb hsz
def Tryz.laysGg39_ren : Go.Shelf.Ren := ⟨fun | 39 => 124 | n => n, fun | 44 => 152 | 3 => 3 | 64 => 194 | 0 => 0 | 26 => 113 | 4 => 4 | 37 => 147 | n => n, fun | n => n⟩
theorem Tryz.laysGg39 : Go.Proofs.LaysGg.n39 Tryz.prog Tryz.laysGg39_ren := {
  mixed := by kernel_rfl
  f39 := Tryz.func124.trans (congrArg some (by kernel_rfl))
  t0 := Tryz.underlying0
  a0 := Tryz.isAgg0
  z0 := Tryz.sizeOf0
  v0 := Tryz.zeroValue0
  i0 := by kernel_rfl
  t3 := Tryz.underlying3
  a3 := Tryz.isAgg3
  z3 := Tryz.sizeOf3
  v3 := Tryz.zeroValue3
  i3 := by kernel_rfl
  t4 := Tryz.underlying4
  a4 := Tryz.isAgg4
  z4 := Tryz.sizeOf4
  v4 := Tryz.zeroValue4
  i4 := by kernel_rfl
  t26 := Tryz.underlying113
  a26 := Tryz.isAgg113
  z26 := Tryz.sizeOf113
  v26 := Tryz.zeroValue113
  i26 := by kernel_rfl
  t37 := Tryz.underlying147
  a37 := Tryz.isAgg147
  z37 := Tryz.sizeOf147
  v37 := Tryz.zeroValue147
  i37 := by kernel_rfl
  t44 := Tryz.underlying152
  a44 := Tryz.isAgg152
  z44 := Tryz.sizeOf152
  v44 := Tryz.zeroValue152
  i44 := by kernel_rfl
  t64 := Tryz.underlying194
  a64 := Tryz.isAgg194
  z64 := Tryz.sizeOf194
  v64 := Tryz.zeroValue194
  i64 := by kernel_rfl }
open Go.RowKit Go.Lib Go.Sort in
theorem Tryz.order2_func {α : Type} [Inhabited α] (enc : α → Value) (lt : α → α → Bool) (g : Nat) (lb : Array Value) (sfn : Fn) (sa sb : Array Value) (blk off : Nat) (w0 W : World) (d : Array α) (a b cb co s : Nat) (eg : ∀ args w, (callFunc g args).run Tryz.prog w = .ok (.enter g args) w) (hL : LessReads Tryz.prog g lb enc lt blk off d.size w0) (hW : SW enc w0 blk off d W) (ha : a < d.size) (hb : b < d.size) (hS : Holds (Value.int .i64) W cb co (one s)) (hcb : cb < W.heap.size) (hs : s < 4611686018427387904) :
    Calls Tryz.prog 124 #[.agg #[.func (.func g) #[] lb, .func sfn sa sb], .int .i64 a, .int .i64 b, .pointer (some ⟨cb, co, none⟩)] W fun e w' =>
      e = .returned (.tuple #[.int .i64 (order2 lt d a b s).1, .int .i64 (order2 lt d a b s).2.1]) ∧ ∃ n os, w' = sortWorld (Value.int .i64) W cb co n (one (order2 lt d a b s).2.2) os := Any.order2_func Tryz.laysGg39 enc lt g lb sfn sa sb blk off w0 W d a b cb co s eg hL hW ha hb hS hcb hs
def Tryz.laysGg38_ren : Go.Shelf.Ren := ⟨fun | 38 => 112 | 39 => 124 | n => n, fun | 44 => 152 | 3 => 3 | 64 => 194 | 0 => 0 | 67 => 206 | 26 => 113 | 4 => 4 | 37 => 147 | n => n, fun | n => n⟩
theorem Tryz.laysGg38 : Go.Proofs.LaysGg.n38 Tryz.prog Tryz.laysGg38_ren := {
  mixed := by kernel_rfl
  f38 := Tryz.func112.trans (congrArg some (by kernel_rfl))
  f39 := Tryz.func124.trans (congrArg some (by kernel_rfl))
  t0 := Tryz.underlying0
  a0 := Tryz.isAgg0
  z0 := Tryz.sizeOf0
  v0 := Tryz.zeroValue0
  i0 := by kernel_rfl
  t3 := Tryz.underlying3
  a3 := Tryz.isAgg3
  z3 := Tryz.sizeOf3
  v3 := Tryz.zeroValue3
  i3 := by kernel_rfl
  t4 := Tryz.underlying4
  a4 := Tryz.isAgg4
  z4 := Tryz.sizeOf4
  v4 := Tryz.zeroValue4
  i4 := by kernel_rfl
  t26 := Tryz.underlying113
  a26 := Tryz.isAgg113
  z26 := Tryz.sizeOf113
  v26 := Tryz.zeroValue113
  i26 := by kernel_rfl
  t37 := Tryz.underlying147
  a37 := Tryz.isAgg147
  z37 := Tryz.sizeOf147
  v37 := Tryz.zeroValue147
  i37 := by kernel_rfl
  t44 := Tryz.underlying152
  a44 := Tryz.isAgg152
  z44 := Tryz.sizeOf152
  v44 := Tryz.zeroValue152
  i44 := by kernel_rfl
  t64 := Tryz.underlying194
  a64 := Tryz.isAgg194
  z64 := Tryz.sizeOf194
  v64 := Tryz.zeroValue194
  i64 := by kernel_rfl
  t67 := Tryz.underlying206
  a67 := Tryz.isAgg206
  z67 := Tryz.sizeOf206
  v67 := Tryz.zeroValue206
  i67 := by kernel_rfl }
open Go.RowKit Go.Lib Go.Sort in
theorem Tryz.median_func {α : Type} [Inhabited α] (enc : α → Value) (lt : α → α → Bool) (g : Nat) (lb : Array Value) (sfn : Fn) (sa sb : Array Value) (blk off : Nat) (w0 W : World) (d : Array α) (a b c cb co s : Nat) (eg : ∀ args w, (callFunc g args).run Tryz.prog w = .ok (.enter g args) w) (hL : LessReads Tryz.prog g lb enc lt blk off d.size w0) (hW : SW enc w0 blk off d W) (ha : a < d.size) (hb : b < d.size) (hc : c < d.size) (hS : Holds (Value.int .i64) W cb co (one s)) (hcb0 : w0.heap.size ≤ cb) (hcb : cb < W.heap.size) (hs : s + 3 < 4611686018427387904) :
    Calls Tryz.prog 112 #[.agg #[.func (.func g) #[] lb, .func sfn sa sb], .int .i64 a, .int .i64 b, .int .i64 c, .pointer (some ⟨cb, co, none⟩)] W fun e w' =>
      e = .returned (.int .i64 (median lt d a b c s).1) ∧ ∃ n os, w' = sortWorld (Value.int .i64) W cb co n (one (median lt d a b c s).2) os := Any.median_func Tryz.laysGg38 enc lt g lb sfn sa sb blk off w0 W d a b c cb co s eg hL hW ha hb hc hS hcb0 hcb hs
def Tryz.laysGg37_ren : Go.Shelf.Ren := ⟨fun | 37 => 111 | 38 => 112 | 39 => 124 | n => n, fun | 44 => 152 | 3 => 3 | 64 => 194 | 0 => 0 | 67 => 206 | 26 => 113 | 4 => 4 | 37 => 147 | n => n, fun | n => n⟩
theorem Tryz.laysGg37 : Go.Proofs.LaysGg.n37 Tryz.prog Tryz.laysGg37_ren := {
  mixed := by kernel_rfl
  f37 := Tryz.func111.trans (congrArg some (by kernel_rfl))
  f38 := Tryz.func112.trans (congrArg some (by kernel_rfl))
  f39 := Tryz.func124.trans (congrArg some (by kernel_rfl))
  t0 := Tryz.underlying0
  a0 := Tryz.isAgg0
  z0 := Tryz.sizeOf0
  v0 := Tryz.zeroValue0
  i0 := by kernel_rfl
  t3 := Tryz.underlying3
  a3 := Tryz.isAgg3
  z3 := Tryz.sizeOf3
  v3 := Tryz.zeroValue3
  i3 := by kernel_rfl
  t4 := Tryz.underlying4
  a4 := Tryz.isAgg4
  z4 := Tryz.sizeOf4
  v4 := Tryz.zeroValue4
  i4 := by kernel_rfl
  t26 := Tryz.underlying113
  a26 := Tryz.isAgg113
  z26 := Tryz.sizeOf113
  v26 := Tryz.zeroValue113
  i26 := by kernel_rfl
  t37 := Tryz.underlying147
  a37 := Tryz.isAgg147
  z37 := Tryz.sizeOf147
  v37 := Tryz.zeroValue147
  i37 := by kernel_rfl
  t44 := Tryz.underlying152
  a44 := Tryz.isAgg152
  z44 := Tryz.sizeOf152
  v44 := Tryz.zeroValue152
  i44 := by kernel_rfl
  t64 := Tryz.underlying194
  a64 := Tryz.isAgg194
  z64 := Tryz.sizeOf194
  v64 := Tryz.zeroValue194
  i64 := by kernel_rfl
  t67 := Tryz.underlying206
  a67 := Tryz.isAgg206
  z67 := Tryz.sizeOf206
  v67 := Tryz.zeroValue206
  i67 := by kernel_rfl }
open Go.RowKit Go.Lib Go.Sort in
theorem Tryz.medianAdjacent_func {α : Type} [Inhabited α] (enc : α → Value) (lt : α → α → Bool) (g : Nat) (lb : Array Value) (sfn : Fn) (sa sb : Array Value) (blk off : Nat) (w0 W : World) (d : Array α) (a cb co s : Nat) (eg : ∀ args w, (callFunc g args).run Tryz.prog w = .ok (.enter g args) w) (hL : LessReads Tryz.prog g lb enc lt blk off d.size w0) (hW : SW enc w0 blk off d W) (ha1 : 1 ≤ a) (ha2 : a + 1 < d.size) (hsz : d.size < 4611686018427387904) (hS : Holds (Value.int .i64) W cb co (one s)) (hcb0 : w0.heap.size ≤ cb) (hcb : cb < W.heap.size) (hs : s + 3 < 4611686018427387904) :
    Calls Tryz.prog 111 #[.agg #[.func (.func g) #[] lb, .func sfn sa sb], .int .i64 a, .pointer (some ⟨cb, co, none⟩)] W fun e w' =>
      e = .returned (.int .i64 (medianAdjacent lt d a s).1) ∧ ∃ n os, w' = sortWorld (Value.int .i64) W cb co n (one (medianAdjacent lt d a s).2) os := Any.medianAdjacent_func Tryz.laysGg37 enc lt g lb sfn sa sb blk off w0 W d a cb co s eg hL hW ha1 ha2 hsz hS hcb0 hcb hs
def Tryz.laysGg29_ren : Go.Shelf.Ren := ⟨fun | 29 => 93 | 37 => 111 | 38 => 112 | 39 => 124 | n => n, fun | 44 => 152 | 3 => 3 | 53 => 174 | 0 => 0 | 4 => 4 | 64 => 194 | 67 => 206 | 26 => 113 | 37 => 147 | n => n, fun | n => n⟩
theorem Tryz.laysGg29 : Go.Proofs.LaysGg.n29 Tryz.prog Tryz.laysGg29_ren := {
  mixed := by kernel_rfl
  f29 := Tryz.func93.trans (congrArg some (by kernel_rfl))
  f37 := Tryz.func111.trans (congrArg some (by kernel_rfl))
  f38 := Tryz.func112.trans (congrArg some (by kernel_rfl))
  f39 := Tryz.func124.trans (congrArg some (by kernel_rfl))
  t0 := Tryz.underlying0
  a0 := Tryz.isAgg0
  z0 := Tryz.sizeOf0
  v0 := Tryz.zeroValue0
  i0 := by kernel_rfl
  t3 := Tryz.underlying3
  a3 := Tryz.isAgg3
  z3 := Tryz.sizeOf3
  v3 := Tryz.zeroValue3
  i3 := by kernel_rfl
  t4 := Tryz.underlying4
  a4 := Tryz.isAgg4
  z4 := Tryz.sizeOf4
  v4 := Tryz.zeroValue4
  i4 := by kernel_rfl
  t26 := Tryz.underlying113
  a26 := Tryz.isAgg113
  z26 := Tryz.sizeOf113
  v26 := Tryz.zeroValue113
  i26 := by kernel_rfl
  t37 := Tryz.underlying147
  a37 := Tryz.isAgg147
  z37 := Tryz.sizeOf147
  v37 := Tryz.zeroValue147
  i37 := by kernel_rfl
  t44 := Tryz.underlying152
  a44 := Tryz.isAgg152
  z44 := Tryz.sizeOf152
  v44 := Tryz.zeroValue152
  i44 := by kernel_rfl
  t53 := Tryz.underlying174
  a53 := Tryz.isAgg174
  z53 := Tryz.sizeOf174
  v53 := Tryz.zeroValue174
  i53 := by kernel_rfl
  t64 := Tryz.underlying194
  a64 := Tryz.isAgg194
  z64 := Tryz.sizeOf194
  v64 := Tryz.zeroValue194
  i64 := by kernel_rfl
  t67 := Tryz.underlying206
  a67 := Tryz.isAgg206
  z67 := Tryz.sizeOf206
  v67 := Tryz.zeroValue206
  i67 := by kernel_rfl }
open Go.RowKit Go.Lib Go.Sort in
/-- sort.choosePivot_func: THE LIBRARY's OWN TEXT COMPUTES 'Sort.choosePivot lt d a b'; the row is not turned; W is grown. (After Derived/Sort/Walk11.lean's 'So.choosePivot_int', row for row.) (LAID: no walk: one application.) -/
theorem Tryz.choosePivot_func {α : Type} [Inhabited α] (enc : α → Value) (lt : α → α → Bool) (g : Nat) (lb : Array Value) (sfn : Fn) (sa sb : Array Value) (blk off a b : Nat) (W : World) (d : Array α) (eg : ∀ args w, (callFunc g args).run Tryz.prog w = .ok (.enter g args) w) (hless : LessReads Tryz.prog g lb enc lt blk off d.size W) (hH : Holds enc W blk off d) (hab : a < b) (hb : b ≤ d.size) (hsz : d.size < 4611686018427387904) :
    Calls Tryz.prog 93 #[.agg #[.func (.func g) #[] lb, .func sfn sa sb], .int .i64 a, .int .i64 b] W fun e w' =>
      e = .returned (.tuple #[.int .i64 (choosePivot lt d a b).1, .int .i64 (hintCode (choosePivot lt d a b).2)]) ∧ ∃ n os, w' = grow (Sort.ahead W n) os := Any.choosePivot_func Tryz.laysGg29 enc lt g lb sfn sa sb blk off a b W d eg hless hH hab hb hsz
def Tryz.laysGg32_ren : Go.Shelf.Ren := ⟨fun | 32 => 96 | n => n, fun | 44 => 152 | 3 => 3 | 0 => 0 | 37 => 147 | 4 => 4 | 26 => 113 | n => n, fun | n => n⟩
theorem Tryz.laysGg32 : Go.Proofs.LaysGg.n32 Tryz.prog Tryz.laysGg32_ren := {
  mixed := by kernel_rfl
  f32 := Tryz.func96.trans (congrArg some (by kernel_rfl))
  t0 := Tryz.underlying0
  a0 := Tryz.isAgg0
  z0 := Tryz.sizeOf0
  v0 := Tryz.zeroValue0
  i0 := by kernel_rfl
  t3 := Tryz.underlying3
  a3 := Tryz.isAgg3
  z3 := Tryz.sizeOf3
  v3 := Tryz.zeroValue3
  i3 := by kernel_rfl
  t4 := Tryz.underlying4
  a4 := Tryz.isAgg4
  z4 := Tryz.sizeOf4
  v4 := Tryz.zeroValue4
  i4 := by kernel_rfl
  t26 := Tryz.underlying113
  a26 := Tryz.isAgg113
  z26 := Tryz.sizeOf113
  v26 := Tryz.zeroValue113
  i26 := by kernel_rfl
  t37 := Tryz.underlying147
  a37 := Tryz.isAgg147
  z37 := Tryz.sizeOf147
  v37 := Tryz.zeroValue147
  i37 := by kernel_rfl
  t44 := Tryz.underlying152
  a44 := Tryz.isAgg152
  z44 := Tryz.sizeOf152
  v44 := Tryz.zeroValue152
  i44 := by kernel_rfl }
open Go.RowKit Go.Lib Go.Sort in
theorem Tryz.partitionEqual_func_one {α : Type} [Inhabited α] (enc : α → Value) (lt : α → α → Bool) (g : Nat) (lb : Array Value) (sf : Nat) (sb : Array Value) (blk off a b pivot : Nat) (d : Array α) (W : World) (eg : ∀ args w, (callFunc g args).run Tryz.prog w = .ok (.enter g args) w) (hless : LessReads Tryz.prog g lb enc lt blk off d.size W) (hswap : SwapSwaps Tryz.prog sf sb enc blk off d.size) (hH : Holds enc W blk off d) (hblk : blk < W.heap.size) (hap : a ≤ pivot) (hpb : pivot < b) (hb : b ≤ d.size) (hsz : d.size < 4611686018427387904) :
    Calls Tryz.prog 96 #[.agg #[.func (.func g) #[] lb, .func (.func sf) #[] sb], .int .i64 a, .int .i64 b, .int .i64 pivot] W fun e w' =>
      e = .returned (.int .i64 (Sort.partitionEqual lt d a b pivot).1) ∧ ∃ n, w' = (putRow enc (W.alloc (.cells #[.func (.func g) #[] lb, .func (.func sf) #[] sb] 152)) blk off (Sort.partitionEqual lt d a b pivot).2).drewN n := Any.partitionEqual_func_one Tryz.laysGg32 enc lt g lb sf sb blk off a b pivot d W eg hless hswap hH hblk hap hpb hb hsz
def Tryz.laysGg33_ren : Go.Shelf.Ren := ⟨fun | 33 => 97 | n => n, fun | 44 => 152 | 3 => 3 | 4 => 4 | 0 => 0 | 37 => 147 | 26 => 113 | n => n, fun | n => n⟩
theorem Tryz.laysGg33 : Go.Proofs.LaysGg.n33 Tryz.prog Tryz.laysGg33_ren := {
  mixed := by kernel_rfl
  f33 := Tryz.func97.trans (congrArg some (by kernel_rfl))
  t0 := Tryz.underlying0
  a0 := Tryz.isAgg0
  z0 := Tryz.sizeOf0
  v0 := Tryz.zeroValue0
  i0 := by kernel_rfl
  t3 := Tryz.underlying3
  a3 := Tryz.isAgg3
  z3 := Tryz.sizeOf3
  v3 := Tryz.zeroValue3
  i3 := by kernel_rfl
  t4 := Tryz.underlying4
  a4 := Tryz.isAgg4
  z4 := Tryz.sizeOf4
  v4 := Tryz.zeroValue4
  i4 := by kernel_rfl
  t26 := Tryz.underlying113
  a26 := Tryz.isAgg113
  z26 := Tryz.sizeOf113
  v26 := Tryz.zeroValue113
  i26 := by kernel_rfl
  t37 := Tryz.underlying147
  a37 := Tryz.isAgg147
  z37 := Tryz.sizeOf147
  v37 := Tryz.zeroValue147
  i37 := by kernel_rfl
  t44 := Tryz.underlying152
  a44 := Tryz.isAgg152
  z44 := Tryz.sizeOf152
  v44 := Tryz.zeroValue152
  i44 := by kernel_rfl }
open Go.RowKit Go.Lib Go.Sort in
theorem Tryz.partition_func_one {α : Type} [Inhabited α] (enc : α → Value) (lt : α → α → Bool) (g : Nat) (lb : Array Value) (sf : Nat) (sb : Array Value) (blk off a b pivot : Nat) (d : Array α) (W : World) (eg : ∀ args w, (callFunc g args).run Tryz.prog w = .ok (.enter g args) w) (hless : LessReads Tryz.prog g lb enc lt blk off d.size W) (hswap : SwapSwaps Tryz.prog sf sb enc blk off d.size) (hH : Holds enc W blk off d) (hblk : blk < W.heap.size) (hap : a ≤ pivot) (hpb : pivot < b) (hb : b ≤ d.size) (hsz : d.size < 4611686018427387904) :
    Calls Tryz.prog 97 #[.agg #[.func (.func g) #[] lb, .func (.func sf) #[] sb], .int .i64 a, .int .i64 b, .int .i64 pivot] W fun e w' =>
      e = .returned (.tuple #[.int .i64 (Sort.partition lt d a b pivot).1, .bool (Sort.partition lt d a b pivot).2.1]) ∧ ∃ n, w' = (putRow enc (W.alloc (.cells #[.func (.func g) #[] lb, .func (.func sf) #[] sb] 152)) blk off (Sort.partition lt d a b pivot).2.2).drewN n := Any.partition_func_one Tryz.laysGg33 enc lt g lb sf sb blk off a b pivot d W eg hless hswap hH hblk hap hpb hb hsz
open Go.RowKit Go.Lib Go.Sort in
/-- sort.partitionEqual_func, from a world to a 'sortWorld' of it. (LAID: no walk: one application.) -/
theorem Tryz.partitionEqual_func_w {α : Type} [Inhabited α] (enc : α → Value) (lt : α → α → Bool) (g : Nat) (lb : Array Value) (sf : Nat) (sb : Array Value) (blk off a b pivot : Nat) (d : Array α) (W : World) (eg : ∀ args w, (callFunc g args).run Tryz.prog w = .ok (.enter g args) w) (hless : LessReads Tryz.prog g lb enc lt blk off d.size W) (hswap : SwapSwaps Tryz.prog sf sb enc blk off d.size) (hH : Holds enc W blk off d) (hblk : blk < W.heap.size) (hap : a ≤ pivot) (hpb : pivot < b) (hb : b ≤ d.size) (hsz : d.size < 4611686018427387904) :
    Calls Tryz.prog 96 #[.agg #[.func (.func g) #[] lb, .func (.func sf) #[] sb], .int .i64 a, .int .i64 b, .int .i64 pivot] W fun e w' => e = .returned (.int .i64 (Sort.partitionEqual lt d a b pivot).1) ∧ ∃ n os, w' = sortWorld enc W blk off n (Sort.partitionEqual lt d a b pivot).2 os := Any.partitionEqual_func_w Tryz.laysGg32 enc lt g lb sf sb blk off a b pivot d W eg hless hswap hH hblk hap hpb hb hsz
open Go.RowKit Go.Lib Go.Sort in
/-- sort.partition_func, from a world to a 'sortWorld' of it. (LAID: no walk: one application.) -/
theorem Tryz.partition_func_w {α : Type} [Inhabited α] (enc : α → Value) (lt : α → α → Bool) (g : Nat) (lb : Array Value) (sf : Nat) (sb : Array Value) (blk off a b pivot : Nat) (d : Array α) (W : World) (eg : ∀ args w, (callFunc g args).run Tryz.prog w = .ok (.enter g args) w) (hless : LessReads Tryz.prog g lb enc lt blk off d.size W) (hswap : SwapSwaps Tryz.prog sf sb enc blk off d.size) (hH : Holds enc W blk off d) (hblk : blk < W.heap.size) (hap : a ≤ pivot) (hpb : pivot < b) (hb : b ≤ d.size) (hsz : d.size < 4611686018427387904) :
    Calls Tryz.prog 97 #[.agg #[.func (.func g) #[] lb, .func (.func sf) #[] sb], .int .i64 a, .int .i64 b, .int .i64 pivot] W fun e w' => e = .returned (.tuple #[.int .i64 (Sort.partition lt d a b pivot).1, .bool (Sort.partition lt d a b pivot).2.1]) ∧ ∃ n os, w' = sortWorld enc W blk off n (Sort.partition lt d a b pivot).2.2 os := Any.partition_func_w Tryz.laysGg33 enc lt g lb sf sb blk off a b pivot d W eg hless hswap hH hblk hap hpb hb hsz
open Go.RowKit Go.Lib Go.Sort in
theorem Tryz.pdqsort_func_all {α : Type} [Inhabited α] (enc : α → Value) (lt : α → α → Bool) (hO : SWO lt) (g : Nat) (lb : Array Value) (sf : Nat) (sb : Array Value) (eg : ∀ args w, (callFunc g args).run Tryz.prog w = .ok (.enter g args) w) :
    ∀ (N blk off a b limit : Nat) (d : Array α) (w : World), b - a < N → LessReads Tryz.prog g lb enc lt blk off d.size w → SwapSwaps Tryz.prog sf sb enc blk off d.size → Holds enc w blk off d → blk < w.heap.size → a ≤ b → b ≤ d.size → d.size < 4611686018427387904 → limit < 4611686018427387904 → Below lt a b d →
    Calls Tryz.prog 67 #[.agg #[.func (.func g) #[] lb, .func (.func sf) #[] sb], .int .i64 a, .int .i64 b, .int .i64 limit] w fun e w' => e = .returned (.tuple #[]) ∧ At enc w blk off (pdq lt d a b limit true true) w' := Any.pdqsort_func_all Tryz.laysGg14 enc lt hO g lb sf sb eg
def Tryz.laysGt15_ren : Go.Shelf.Ren := ⟨fun | 15 => 79 | 29 => 90 | 30 => 107 | 42 => 123 | 49 => 131 | n => n, fun | 42 => 152 | 3 => 3 | 0 => 0 | 4 => 4 | 26 => 113 | 38 => 147 | 47 => 80 | n => n, fun | n => n⟩
theorem Tryz.laysGt15 : Go.Proofs.LaysGt.n15 Tryz.prog Tryz.laysGt15_ren := {
  mixed := by kernel_rfl
  f15 := Tryz.func79.trans (congrArg some (by kernel_rfl))
  f29 := Tryz.func90.trans (congrArg some (by kernel_rfl))
  f30 := Tryz.func107.trans (congrArg some (by kernel_rfl))
  f42 := Tryz.func123.trans (congrArg some (by kernel_rfl))
  f49 := Tryz.func131.trans (congrArg some (by kernel_rfl))
  t0 := Tryz.underlying0
  a0 := Tryz.isAgg0
  z0 := Tryz.sizeOf0
  v0 := Tryz.zeroValue0
  i0 := by kernel_rfl
  t3 := Tryz.underlying3
  a3 := Tryz.isAgg3
  z3 := Tryz.sizeOf3
  v3 := Tryz.zeroValue3
  i3 := by kernel_rfl
  t4 := Tryz.underlying4
  a4 := Tryz.isAgg4
  z4 := Tryz.sizeOf4
  v4 := Tryz.zeroValue4
  i4 := by kernel_rfl
  t26 := Tryz.underlying113
  a26 := Tryz.isAgg113
  z26 := Tryz.sizeOf113
  v26 := Tryz.zeroValue113
  i26 := by kernel_rfl
  t38 := Tryz.underlying147
  a38 := Tryz.isAgg147
  z38 := Tryz.sizeOf147
  v38 := Tryz.zeroValue147
  i38 := by kernel_rfl
  t42 := Tryz.underlying152
  a42 := Tryz.isAgg152
  z42 := Tryz.sizeOf152
  v42 := Tryz.zeroValue152
  i42 := by kernel_rfl
  t47 := Tryz.underlying80
  a47 := Tryz.isAgg80
  z47 := Tryz.sizeOf80
  v47 := Tryz.zeroValue80
  i47 := by kernel_rfl }
open Go.RowKit Go.Lib Go.Sort in
theorem Tryz.stable_func_under20 {α : Type} [Inhabited α] (enc : α → Value) (lt : α → α → Bool) (g : Nat) (lb : Array Value) (sf : Nat) (sb : Array Value) (blk off : Nat) (d : Array α) (W : World) (eg : ∀ args w, (callFunc g args).run Tryz.prog w = .ok (.enter g args) w) (hless : LessReads Tryz.prog g lb enc lt blk off d.size W) (hswap : SwapSwaps Tryz.prog sf sb enc blk off d.size) (hH : Holds enc W blk off d) (hblk : blk < W.heap.size) (h20 : d.size < 20) :
    Calls Tryz.prog 79 #[.agg #[.func (.func g) #[] lb, .func (.func sf) #[] sb], .int .i64 d.size] W fun e w' => e = .returned (.tuple #[]) ∧ ∃ n os, w' = sortWorld enc W blk off n (Sort.insertionSort lt d 0 d.size) os := Any.stable_func_under20 Tryz.laysGt15 enc lt g lb sf sb blk off d W eg hless hswap hH hblk h20
open Go.RowKit Go.Lib Go.Sort in
theorem Tryz.stable_func_at20 {α : Type} [Inhabited α] (enc : α → Value) (lt : α → α → Bool) (g : Nat) (lb : Array Value) (sf : Nat) (sb : Array Value) (blk off : Nat) (d : Array α) (W : World) (eg : ∀ args w, (callFunc g args).run Tryz.prog w = .ok (.enter g args) w) (hless : LessReads Tryz.prog g lb enc lt blk off d.size W) (hswap : SwapSwaps Tryz.prog sf sb enc blk off d.size) (hH : Holds enc W blk off d) (hblk : blk < W.heap.size) (h20 : d.size = 20) :
    Calls Tryz.prog 79 #[.agg #[.func (.func g) #[] lb, .func (.func sf) #[] sb], .int .i64 d.size] W fun e w' => e = .returned (.tuple #[]) ∧ ∃ n os, w' = sortWorld enc W blk off n (Sort.insertionSort lt d 0 d.size) os := Any.stable_func_at20 Tryz.laysGt15 enc lt g lb sf sb blk off d W eg hless hswap hH hblk h20
open Go.RowKit Go.Lib Go.Sort in
/-- **sort.stable_func AT ONE BLOCK (20 elements or fewer): IT IS THE INSERTION SORT: THE STABLE ORDER.** (LAID: no walk: one application.) -/
theorem Tryz.stable_func_small {α : Type} [Inhabited α] (enc : α → Value) (lt : α → α → Bool) (g : Nat) (lb : Array Value) (sf : Nat) (sb : Array Value) (blk off : Nat) (d : Array α) (W : World) (eg : ∀ args w, (callFunc g args).run Tryz.prog w = .ok (.enter g args) w) (hless : LessReads Tryz.prog g lb enc lt blk off d.size W) (hswap : SwapSwaps Tryz.prog sf sb enc blk off d.size) (hH : Holds enc W blk off d) (hblk : blk < W.heap.size) (h20 : d.size ≤ 20) :
    Calls Tryz.prog 79 #[.agg #[.func (.func g) #[] lb, .func (.func sf) #[] sb], .int .i64 d.size] W fun e w' => e = .returned (.tuple #[]) ∧ ∃ n os, w' = sortWorld enc W blk off n (Sort.insertionSort lt d 0 d.size) os := Any.stable_func_small Tryz.laysGt15 enc lt g lb sf sb blk off d W eg hless hswap hH hblk h20
open Go.RowKit Go.Lib Go.Sort in
/-- sort.stable_func at no element or one: nothing is asked of 'less' or of 'swap'. (LAID: no walk: one application.) -/
theorem Tryz.stable_func_tiny {α : Type} [Inhabited α] (lf : Fn) (la lb : Array Value) (f : Nat) (sb : Array Value) (n : Nat) (hn : n ≤ 1) (W : World) :
    Calls Tryz.prog 79 #[.agg #[.func lf la lb, .func (.func f) #[] sb], .int .i64 n] W fun e w' => e = .returned (.tuple #[]) ∧ ∃ os, w' = grow W os := Any.stable_func_tiny Tryz.laysGt15 lf la lb f sb n hn W
def Tryz.laysGt8_ren : Go.Shelf.Ren := ⟨fun | 8 => 61 | 13 => 63 | 14 => 64 | 16 => 65 | 15 => 79 | 29 => 90 | 30 => 107 | 42 => 123 | 49 => 131 | n => n, fun | 20 => 20 | 26 => 113 | 36 => 145 | 0 => 0 | 38 => 147 | 42 => 152 | 3 => 3 | 4 => 4 | 47 => 80 | 17 => 17 | 33 => 142 | 34 => 143 | 89 => 225 | 12 => 12 | 56 => 172 | 82 => 219 | 5 => 5 | 83 => 220 | 84 => 221 | 85 => 155 | 86 => 222 | 87 => 223 | n => n, fun | n => n⟩
theorem Tryz.laysGt8 : Go.Proofs.LaysGt.n8 Tryz.prog Tryz.laysGt8_ren := {
  mixed := by kernel_rfl
  f8 := Tryz.func61.trans (congrArg some (by kernel_rfl))
  f13 := Tryz.func63.trans (congrArg some (by kernel_rfl))
  f14 := Tryz.func64.trans (congrArg some (by kernel_rfl))
  f15 := Tryz.func79.trans (congrArg some (by kernel_rfl))
  f16 := Tryz.func65.trans (congrArg some (by kernel_rfl))
  f29 := Tryz.func90.trans (congrArg some (by kernel_rfl))
  f30 := Tryz.func107.trans (congrArg some (by kernel_rfl))
  f42 := Tryz.func123.trans (congrArg some (by kernel_rfl))
  f49 := Tryz.func131.trans (congrArg some (by kernel_rfl))
  t0 := Tryz.underlying0
  a0 := Tryz.isAgg0
  z0 := Tryz.sizeOf0
  v0 := Tryz.zeroValue0
  i0 := by kernel_rfl
  t3 := Tryz.underlying3
  a3 := Tryz.isAgg3
  z3 := Tryz.sizeOf3
  v3 := Tryz.zeroValue3
  i3 := by kernel_rfl
  t4 := Tryz.underlying4
  a4 := Tryz.isAgg4
  z4 := Tryz.sizeOf4
  v4 := Tryz.zeroValue4
  i4 := by kernel_rfl
  t5 := Tryz.underlying5
  a5 := Tryz.isAgg5
  z5 := Tryz.sizeOf5
  v5 := Tryz.zeroValue5
  i5 := by kernel_rfl
  t12 := Tryz.underlying12
  a12 := Tryz.isAgg12
  z12 := Tryz.sizeOf12
  v12 := Tryz.zeroValue12
  i12 := by kernel_rfl
  t17 := Tryz.underlying17
  a17 := Tryz.isAgg17
  z17 := Tryz.sizeOf17
  v17 := Tryz.zeroValue17
  i17 := by kernel_rfl
  t20 := Tryz.underlying20
  a20 := Tryz.isAgg20
  z20 := Tryz.sizeOf20
  v20 := Tryz.zeroValue20
  i20 := by kernel_rfl
  t26 := Tryz.underlying113
  a26 := Tryz.isAgg113
  z26 := Tryz.sizeOf113
  v26 := Tryz.zeroValue113
  i26 := by kernel_rfl
  t33 := Tryz.underlying142
  a33 := Tryz.isAgg142
  z33 := Tryz.sizeOf142
  v33 := Tryz.zeroValue142
  i33 := by kernel_rfl
  t34 := Tryz.underlying143
  a34 := Tryz.isAgg143
  z34 := Tryz.sizeOf143
  v34 := Tryz.zeroValue143
  i34 := by kernel_rfl
  t36 := Tryz.underlying145
  a36 := Tryz.isAgg145
  z36 := Tryz.sizeOf145
  v36 := Tryz.zeroValue145
  i36 := by kernel_rfl
  t38 := Tryz.underlying147
  a38 := Tryz.isAgg147
  z38 := Tryz.sizeOf147
  v38 := Tryz.zeroValue147
  i38 := by kernel_rfl
  t42 := Tryz.underlying152
  a42 := Tryz.isAgg152
  z42 := Tryz.sizeOf152
  v42 := Tryz.zeroValue152
  i42 := by kernel_rfl
  t47 := Tryz.underlying80
  a47 := Tryz.isAgg80
  z47 := Tryz.sizeOf80
  v47 := Tryz.zeroValue80
  i47 := by kernel_rfl
  t56 := Tryz.underlying172
  a56 := Tryz.isAgg172
  z56 := Tryz.sizeOf172
  v56 := Tryz.zeroValue172
  i56 := by kernel_rfl
  t82 := Tryz.underlying219
  a82 := Tryz.isAgg219
  z82 := Tryz.sizeOf219
  v82 := Tryz.zeroValue219
  i82 := by kernel_rfl
  t83 := Tryz.underlying220
  a83 := Tryz.isAgg220
  z83 := Tryz.sizeOf220
  v83 := Tryz.zeroValue220
  i83 := by kernel_rfl
  t84 := Tryz.underlying221
  a84 := Tryz.isAgg221
  z84 := Tryz.sizeOf221
  v84 := Tryz.zeroValue221
  i84 := by kernel_rfl
  t85 := Tryz.underlying155
  a85 := Tryz.isAgg155
  z85 := Tryz.sizeOf155
  v85 := Tryz.zeroValue155
  i85 := by kernel_rfl
  t86 := Tryz.underlying222
  a86 := Tryz.isAgg222
  z86 := Tryz.sizeOf222
  v86 := Tryz.zeroValue222
  i86 := by kernel_rfl
  t87 := Tryz.underlying223
  a87 := Tryz.isAgg223
  z87 := Tryz.sizeOf223
  v87 := Tryz.zeroValue223
  i87 := by kernel_rfl
  t89 := Tryz.underlying225
  a89 := Tryz.isAgg225
  z89 := Tryz.sizeOf225
  v89 := Tryz.zeroValue225
  i89 := by kernel_rfl }
def Tryz.laysM181_ren : Go.Shelf.Ren := ⟨fun | 181 => 160 | n => n, fun | 130 => 78 | 3 => 3 | 0 => 0 | 93 => 75 | 37 => 47 | 91 => 73 | 5 => 5 | n => n, fun | n => n⟩
theorem Tryz.laysM181 : Go.Proofs.LaysM.n181 Tryz.prog Tryz.laysM181_ren := {
  mixed := by kernel_rfl
  f181 := Tryz.func160.trans (congrArg some (by kernel_rfl))
  t0 := Tryz.underlying0
  a0 := Tryz.isAgg0
  z0 := Tryz.sizeOf0
  v0 := Tryz.zeroValue0
  t3 := Tryz.underlying3
  a3 := Tryz.isAgg3
  z3 := Tryz.sizeOf3
  v3 := Tryz.zeroValue3
  t37 := Tryz.underlying47
  a37 := Tryz.isAgg47
  z37 := Tryz.sizeOf47
  v37 := Tryz.zeroValue47
  t93 := Tryz.underlying75
  a93 := Tryz.isAgg75
  z93 := Tryz.sizeOf75
  v93 := Tryz.zeroValue75
  t130 := Tryz.underlying78
  a130 := Tryz.isAgg78
  z130 := Tryz.sizeOf78
  v130 := Tryz.zeroValue78
  t5 := Tryz.underlying5
  a5 := Tryz.isAgg5
  z5 := Tryz.sizeOf5
  v5 := Tryz.zeroValue5
  t91 := Tryz.underlying73
  a91 := Tryz.isAgg73
  z91 := Tryz.sizeOf73
  v91 := Tryz.zeroValue73
  i0 := by kernel_rfl
  i3 := by kernel_rfl
  i5 := by kernel_rfl
  i37 := by kernel_rfl
  i91 := by kernel_rfl
  i93 := by kernel_rfl
  i130 := by kernel_rfl }
open Go.RowKit in
/-- (*bytes.Buffer).Len: "Len returns the number of bytes of the unread portion of the buffer; b.Len() == len(b.Bytes()).": the world is as it was but for the count of draws (the statement has two reads: its order is drawn). (LAID: no walk: one application.) -/
theorem Tryz.Buffer_Len_at (T : TypeId) (R : Nat → Option Value) (B b q : Nat) (bs : List Value) (w : World) (h : LibA.IsBuffer T R 5 B b q bs w) :
    Calls Tryz.prog 160 #[.pointer (some ⟨b, q, none⟩)] w fun e w' => e = .returned (.int .i64 bs.length) ∧ ∃ n, w' = w.drewN n := Any.Buffer_Len_at Tryz.laysM181 T R B b q bs w h
def Tryz.laysM182_ren : Go.Shelf.Ren := ⟨fun | 182 => 29 | n => n, fun | 130 => 78 | 9 => 9 | 4 => 4 | 0 => 0 | 93 => 75 | 37 => 47 | 3 => 3 | 91 => 73 | 5 => 5 | n => n, fun | n => n⟩
theorem Tryz.laysM182 : Go.Proofs.LaysM.n182 Tryz.prog Tryz.laysM182_ren := {
  mixed := by kernel_rfl
  f182 := Tryz.func29.trans (congrArg some (by kernel_rfl))
  t0 := Tryz.underlying0
  a0 := Tryz.isAgg0
  z0 := Tryz.sizeOf0
  v0 := Tryz.zeroValue0
  t3 := Tryz.underlying3
  a3 := Tryz.isAgg3
  z3 := Tryz.sizeOf3
  v3 := Tryz.zeroValue3
  t4 := Tryz.underlying4
  a4 := Tryz.isAgg4
  z4 := Tryz.sizeOf4
  v4 := Tryz.zeroValue4
  t9 := Tryz.underlying9
  a9 := Tryz.isAgg9
  z9 := Tryz.sizeOf9
  v9 := Tryz.zeroValue9
  t37 := Tryz.underlying47
  a37 := Tryz.isAgg47
  z37 := Tryz.sizeOf47
  v37 := Tryz.zeroValue47
  t93 := Tryz.underlying75
  a93 := Tryz.isAgg75
  z93 := Tryz.sizeOf75
  v93 := Tryz.zeroValue75
  t130 := Tryz.underlying78
  a130 := Tryz.isAgg78
  z130 := Tryz.sizeOf78
  v130 := Tryz.zeroValue78
  t5 := Tryz.underlying5
  a5 := Tryz.isAgg5
  z5 := Tryz.sizeOf5
  v5 := Tryz.zeroValue5
  t91 := Tryz.underlying73
  a91 := Tryz.isAgg73
  z91 := Tryz.sizeOf73
  v91 := Tryz.zeroValue73
  i0 := by kernel_rfl
  i3 := by kernel_rfl
  i4 := by kernel_rfl
  i5 := by kernel_rfl
  i9 := by kernel_rfl
  i37 := by kernel_rfl
  i91 := by kernel_rfl
  i93 := by kernel_rfl
  i130 := by kernel_rfl }
open Go.RowKit in
/-- (*bytes.Buffer).String: "String returns the contents of the unread portion of the buffer as a string.": THE BYTES THAT WERE WRITTEN. The world is as it was but for the count of draws (the statement has two reads: its order is drawn). (LAID: no walk: one application.) -/
theorem Tryz.Buffer_String_at (T : TypeId) (R : Nat → Option Value) (B b q : Nat) (l : List UInt8) (w : World) (h : LibA.IsBuffer T R 5 B b q (Lib.byteCells l) w) :
    Calls Tryz.prog 29 #[.pointer (some ⟨b, q, none⟩)] w fun e w' => e = .returned (.string ⟨l.toArray⟩) ∧ ∃ n, w' = w.drewN n := Any.Buffer_String_at Tryz.laysM182 T R B b q l w h
def Tryz.laysM251_ren : Go.Shelf.Ren := ⟨fun | 251 => 158 | n => n, fun | 130 => 78 | 3 => 3 | 4 => 4 | 0 => 0 | 93 => 75 | 37 => 47 | 91 => 73 | 5 => 5 | n => n, fun | n => n⟩
theorem Tryz.laysM251 : Go.Proofs.LaysM.n251 Tryz.prog Tryz.laysM251_ren := {
  mixed := by kernel_rfl
  f251 := Tryz.func158.trans (congrArg some (by kernel_rfl))
  t0 := Tryz.underlying0
  a0 := Tryz.isAgg0
  z0 := Tryz.sizeOf0
  v0 := Tryz.zeroValue0
  t3 := Tryz.underlying3
  a3 := Tryz.isAgg3
  z3 := Tryz.sizeOf3
  v3 := Tryz.zeroValue3
  t4 := Tryz.underlying4
  a4 := Tryz.isAgg4
  z4 := Tryz.sizeOf4
  v4 := Tryz.zeroValue4
  t37 := Tryz.underlying47
  a37 := Tryz.isAgg47
  z37 := Tryz.sizeOf47
  v37 := Tryz.zeroValue47
  t93 := Tryz.underlying75
  a93 := Tryz.isAgg75
  z93 := Tryz.sizeOf75
  v93 := Tryz.zeroValue75
  t130 := Tryz.underlying78
  a130 := Tryz.isAgg78
  z130 := Tryz.sizeOf78
  v130 := Tryz.zeroValue78
  t5 := Tryz.underlying5
  a5 := Tryz.isAgg5
  z5 := Tryz.sizeOf5
  v5 := Tryz.zeroValue5
  t91 := Tryz.underlying73
  a91 := Tryz.isAgg73
  z91 := Tryz.sizeOf73
  v91 := Tryz.zeroValue73
  i0 := by kernel_rfl
  i3 := by kernel_rfl
  i4 := by kernel_rfl
  i5 := by kernel_rfl
  i37 := by kernel_rfl
  i91 := by kernel_rfl
  i93 := by kernel_rfl
  i130 := by kernel_rfl }
open Go.RowKit in
/-- (*bytes.Buffer).tryGrowByReslice: "tryGrowByReslice is an inlineable version of grow for the fast-case where the internal buffer only needs to be resliced. It returns the index where bytes should be written and whether it succeeded.": THERE IS ROOM: 'buf' is resliced to l + n. (LAID: no walk: one application.) -/
theorem Tryz.Buffer_tryGrow_room_at (b q : Nat) (ao : Option Addr) (l cap n : Nat) (w : World) (c0 : w.cell? ⟨b, q, none⟩ = some (.slice ao l cap)) (f0 : w.frozen? ⟨b, q, none⟩ = false) (hlc : l ≤ cap) (hcap : cap ≤ maxLen) (hn : n ≤ cap - l) :
    Calls Tryz.prog 158 #[.pointer (some ⟨b, q, none⟩), .int .i64 n] w fun e w' => e = .returned (.tuple #[.int .i64 l, .bool true]) ∧ w' = w.setCell ⟨b, q, none⟩ (.slice ao (l + n) cap) := Any.Buffer_tryGrow_room_at Tryz.laysM251 b q ao l cap n w c0 f0 hlc hcap hn
open Go.RowKit in
/-- .. THERE IS NONE: nothing turns. (LAID: no walk: one application.) -/
theorem Tryz.Buffer_tryGrow_none_at (b q : Nat) (ao : Option Addr) (l cap n : Nat) (w : World) (c0 : w.cell? ⟨b, q, none⟩ = some (.slice ao l cap)) (hlc : l ≤ cap) (hcap : cap ≤ maxLen) (hn : cap - l < n) :
    Calls Tryz.prog 158 #[.pointer (some ⟨b, q, none⟩), .int .i64 n] w fun e w' => e = .returned (.tuple #[.int .i64 0, .bool false]) ∧ w' = w := Any.Buffer_tryGrow_none_at Tryz.laysM251 b q ao l cap n w c0 hlc hcap hn
def Tryz.laysM252_ren : Go.Shelf.Ren := ⟨fun | 252 => 159 | 181 => 160 | 184 => 156 | 251 => 158 | 290 => 161 | 324 => 162 | n => n, fun | 130 => 78 | 3 => 3 | 4 => 4 | 0 => 0 | 93 => 75 | 131 => 179 | 37 => 47 | 75 => 42 | 91 => 73 | 20 => 20 | 5 => 5 | 80 => 79 | 9 => 9 | n => n, fun | 14 => 11 | n => n⟩
theorem Tryz.laysM252 : Go.Proofs.LaysM.n252 Tryz.prog Tryz.laysM252_ren := {
  mixed := by kernel_rfl
  f181 := Tryz.func160.trans (congrArg some (by kernel_rfl))
  f184 := Tryz.func156.trans (congrArg some (by kernel_rfl))
  f251 := Tryz.func158.trans (congrArg some (by kernel_rfl))
  f252 := Tryz.func159.trans (congrArg some (by kernel_rfl))
  f290 := Tryz.func161.trans (congrArg some (by kernel_rfl))
  f324 := Tryz.func162.trans (congrArg some (by kernel_rfl))
  t0 := Tryz.underlying0
  a0 := Tryz.isAgg0
  z0 := Tryz.sizeOf0
  v0 := Tryz.zeroValue0
  t3 := Tryz.underlying3
  a3 := Tryz.isAgg3
  z3 := Tryz.sizeOf3
  v3 := Tryz.zeroValue3
  t4 := Tryz.underlying4
  a4 := Tryz.isAgg4
  z4 := Tryz.sizeOf4
  v4 := Tryz.zeroValue4
  t20 := Tryz.underlying20
  a20 := Tryz.isAgg20
  z20 := Tryz.sizeOf20
  v20 := Tryz.zeroValue20
  t37 := Tryz.underlying47
  a37 := Tryz.isAgg47
  z37 := Tryz.sizeOf47
  v37 := Tryz.zeroValue47
  t75 := Tryz.underlying42
  a75 := Tryz.isAgg42
  z75 := Tryz.sizeOf42
  v75 := Tryz.zeroValue42
  t91 := Tryz.underlying73
  a91 := Tryz.isAgg73
  z91 := Tryz.sizeOf73
  v91 := Tryz.zeroValue73
  t93 := Tryz.underlying75
  a93 := Tryz.isAgg75
  z93 := Tryz.sizeOf75
  v93 := Tryz.zeroValue75
  t130 := Tryz.underlying78
  a130 := Tryz.isAgg78
  z130 := Tryz.sizeOf78
  v130 := Tryz.zeroValue78
  t131 := Tryz.underlying179
  a131 := Tryz.isAgg179
  z131 := Tryz.sizeOf179
  v131 := Tryz.zeroValue179
  g14 := by kernel_rfl
  t5 := Tryz.underlying5
  a5 := Tryz.isAgg5
  z5 := Tryz.sizeOf5
  v5 := Tryz.zeroValue5
  t9 := Tryz.underlying9
  a9 := Tryz.isAgg9
  z9 := Tryz.sizeOf9
  v9 := Tryz.zeroValue9
  t80 := Tryz.underlying79
  a80 := Tryz.isAgg79
  z80 := Tryz.sizeOf79
  v80 := Tryz.zeroValue79
  i0 := by kernel_rfl
  i3 := by kernel_rfl
  i4 := by kernel_rfl
  i5 := by kernel_rfl
  i9 := by kernel_rfl
  i20 := by kernel_rfl
  i37 := by kernel_rfl
  i75 := by kernel_rfl
  i80 := by kernel_rfl
  i91 := by kernel_rfl
  i93 := by kernel_rfl
  i130 := by kernel_rfl
  i131 := by kernel_rfl
  m14 := by kernel_rfl }
open Go.RowKit in
/-- grow, WHERE THE BUFFER HOLDS A ROW, NO BYTE IN IT (behind a Reset), AND THE ROW HAS NO ROOM: growSlice. (THE TEXT OF 'Buffer_grow_row' WITH 0 FOR l, BY PROGRAM: the walk parts on 'm == 0' and writes 0 for l throughout the goal: facts that still say l then do not strike: so l is laid in ahead of the walk.) (LAID: no walk: one application.) -/
theorem Tryz.Buffer_grow_row0_at (T : TypeId) (R : Nat → Option Value) (B b q g cap n : Nat) (lr : Int) (cur : Array Value) (bs : List Value) (w : World) (hB : B ≤ b) (hBw : B ≤ w.heap.size) (hbk : LibA.Three w b q T R (.slice (some ⟨g, 0, none⟩) 0 cap) (.int .i64 0) (.int .i8 lr)) (hl : bs.length = 0) (hBg : B ≤ g) (hg : w.heap[g]? = some (.cells cur 5 (0, 0))) (hlc : 0 ≤ cap) (hcm : cap ≤ maxLen) (hcs : cur.size = cap) (htake : cur.toList.take 0 = bs) (hgb : g ≠ b) (h1 : ∀ v ∈ bs, v.oneCell' = true) (hn : 1 ≤ n) (hroom : cap - 0 < n) (hlim : 0 + n ≤ 140737488355328) :
    Calls Tryz.prog 159 #[.pointer (some ⟨b, q, none⟩), .int .i64 n] w fun e w' => e = .returned (.int .i64 0) ∧ ∃ xs, xs.length = n ∧ LibA.IsBuffer T R 5 B b q (bs ++ xs) w' ∧ Below B w w' ∧ Lib.OthersKept 5 (some b) w w' ∧ w.grownBy w' (some b) := Any.Buffer_grow_row0_at Tryz.laysM252 T R B b q g cap n lr cur bs w hB hBw hbk hl hBg hg hlc hcm hcs htake hgb h1 hn hroom hlim
open Go.RowKit in
/-- grow, WHERE THE BUFFER HOLDS A ROW THAT HAS NO ROOM: growSlice. (LAID: no walk: one application.) -/
theorem Tryz.Buffer_grow_row_at (T : TypeId) (R : Nat → Option Value) (B b q g l cap n : Nat) (lr : Int) (cur : Array Value) (bs : List Value) (w : World) (hB : B ≤ b) (hBw : B ≤ w.heap.size) (hbk : LibA.Three w b q T R (.slice (some ⟨g, 0, none⟩) l cap) (.int .i64 0) (.int .i8 lr)) (hl : bs.length = l) (hBg : B ≤ g) (hg : w.heap[g]? = some (.cells cur 5 (0, 0))) (hlc : l ≤ cap) (hcm : cap ≤ maxLen) (hcs : cur.size = cap) (htake : cur.toList.take l = bs) (hgb : g ≠ b) (h1 : ∀ v ∈ bs, v.oneCell' = true) (hn : 1 ≤ n) (hroom : cap - l < n) (hlim : l + n ≤ 140737488355328) :
    Calls Tryz.prog 159 #[.pointer (some ⟨b, q, none⟩), .int .i64 n] w fun e w' => e = .returned (.int .i64 l) ∧ ∃ xs, xs.length = n ∧ LibA.IsBuffer T R 5 B b q (bs ++ xs) w' ∧ Below B w w' ∧ Lib.OthersKept 5 (some b) w w' ∧ w.grownBy w' (some b) := Any.Buffer_grow_row_at Tryz.laysM252 T R B b q g l cap n lr cur bs w hB hBw hbk hl hBg hg hlc hcm hcs htake hgb h1 hn hroom hlim
open Go.RowKit in
/-- grow, 'buf' nil, n AT MOST 64: 'b.buf = make([]byte, n, smallBufferSize)'. (LAID: no walk: one application.) -/
theorem Tryz.Buffer_grow_nil_small_at (T : TypeId) (R : Nat → Option Value) (B b q n : Nat) (lr : Int) (w : World) (hB : B ≤ b) (hBw : B ≤ w.heap.size) (hbk : LibA.Three w b q T R (.slice none 0 0) (.int .i64 0) (.int .i8 lr)) (hn : 1 ≤ n) (h64 : n ≤ 64) :
    Calls Tryz.prog 159 #[.pointer (some ⟨b, q, none⟩), .int .i64 n] w fun e w' => e = .returned (.int .i64 0) ∧ ∃ xs, xs.length = n ∧ LibA.IsBuffer T R 5 B b q xs w' ∧ Below B w w' ∧ Lib.OthersKept 5 (some b) w w' ∧ w.grownBy w' (some b) := Any.Buffer_grow_nil_small_at Tryz.laysM252 T R B b q n lr w hB hBw hbk hn h64
open Go.RowKit in
/-- grow, 'buf' nil, n ABOVE 64: growSlice of the nil slice. (LAID: no walk: one application.) -/
theorem Tryz.Buffer_grow_nil_big_at (T : TypeId) (R : Nat → Option Value) (B b q n : Nat) (lr : Int) (w : World) (hB : B ≤ b) (hBw : B ≤ w.heap.size) (hbk : LibA.Three w b q T R (.slice none 0 0) (.int .i64 0) (.int .i8 lr)) (h64 : 64 < n) (hlim : n ≤ 140737488355328) :
    Calls Tryz.prog 159 #[.pointer (some ⟨b, q, none⟩), .int .i64 n] w fun e w' => e = .returned (.int .i64 0) ∧ ∃ xs, xs.length = n ∧ LibA.IsBuffer T R 5 B b q xs w' ∧ Below B w w' ∧ Lib.OthersKept 5 (some b) w w' ∧ w.grownBy w' (some b) := Any.Buffer_grow_nil_big_at Tryz.laysM252 T R B b q n lr w hB hBw hbk h64 hlim
open Go.RowKit in
/-- tryGrowByReslice: EITHER there is room: the place to write at is the old length, and the buffer holds the old bytes and n more of whatever lay there; OR there is none: nothing turns, and 'Lib.NoRoom' is what grow asks. (LAID: no walk: one application.) -/
theorem Tryz.Buffer_tryGrow_at (T : TypeId) (R : Nat → Option Value) (B b q n : Nat) (bs : List Value) (w : World) (h : LibA.IsBuffer T R 5 B b q bs w) :
    Calls Tryz.prog 158 #[.pointer (some ⟨b, q, none⟩), .int .i64 n] w fun e w' =>
      (e = .returned (.tuple #[.int .i64 bs.length, .bool true]) ∧ ∃ xs, xs.length = n ∧ LibA.IsBuffer T R 5 B b q (bs ++ xs) w' ∧ Below B w w' ∧ Lib.OthersKept 5 (some b) w w' ∧ w.grownBy w' (some b)) ∨
      (e = .returned (.tuple #[.int .i64 0, .bool false]) ∧ w' = w ∧ LibA.NoRoom b q n w) := Any.Buffer_tryGrow_at Tryz.laysM251 T R B b q n bs w h
open Go.RowKit in
/-- (*bytes.Buffer).grow: "grow grows the buffer to guarantee space for n more bytes. It returns the index where bytes should be written.": WHERE THERE IS NO ROOM; UNDER Go's OWN LIMIT (the new length takes at most 2^47 bytes): the old length; the buffer holds the old bytes and n more of whatever. (LAID: no walk: one application.) -/
theorem Tryz.Buffer_grow_at (T : TypeId) (R : Nat → Option Value) (B b q n : Nat) (bs : List Value) (w : World) (h : LibA.IsBuffer T R 5 B b q bs w) (hnr : LibA.NoRoom b q n w) (hBw : B ≤ w.heap.size) (h1 : ∀ v ∈ bs, v.oneCell' = true) (hlim : bs.length + n ≤ 140737488355328) :
    Calls Tryz.prog 159 #[.pointer (some ⟨b, q, none⟩), .int .i64 n] w fun e w' => e = .returned (.int .i64 bs.length) ∧ ∃ xs, xs.length = n ∧ LibA.IsBuffer T R 5 B b q (bs ++ xs) w' ∧ Below B w w' ∧ Lib.OthersKept 5 (some b) w w' ∧ w.grownBy w' (some b) := Any.Buffer_grow_at Tryz.laysM252 T R B b q n bs w h hnr hBw h1 hlim
def Tryz.laysM180_ren : Go.Shelf.Ren := ⟨fun | 180 => 157 | 251 => 158 | 252 => 159 | 181 => 160 | 184 => 156 | 290 => 161 | 324 => 162 | n => n, fun | 130 => 78 | 37 => 47 | 3 => 3 | 75 => 42 | 0 => 0 | 93 => 75 | 91 => 73 | 131 => 179 | 4 => 4 | 20 => 20 | 5 => 5 | 80 => 79 | 9 => 9 | n => n, fun | 14 => 11 | n => n⟩
theorem Tryz.laysM180 : Go.Proofs.LaysM.n180 Tryz.prog Tryz.laysM180_ren := {
  mixed := by kernel_rfl
  f180 := Tryz.func157.trans (congrArg some (by kernel_rfl))
  f181 := Tryz.func160.trans (congrArg some (by kernel_rfl))
  f184 := Tryz.func156.trans (congrArg some (by kernel_rfl))
  f251 := Tryz.func158.trans (congrArg some (by kernel_rfl))
  f252 := Tryz.func159.trans (congrArg some (by kernel_rfl))
  f290 := Tryz.func161.trans (congrArg some (by kernel_rfl))
  f324 := Tryz.func162.trans (congrArg some (by kernel_rfl))
  t0 := Tryz.underlying0
  a0 := Tryz.isAgg0
  z0 := Tryz.sizeOf0
  v0 := Tryz.zeroValue0
  t3 := Tryz.underlying3
  a3 := Tryz.isAgg3
  z3 := Tryz.sizeOf3
  v3 := Tryz.zeroValue3
  t4 := Tryz.underlying4
  a4 := Tryz.isAgg4
  z4 := Tryz.sizeOf4
  v4 := Tryz.zeroValue4
  t20 := Tryz.underlying20
  a20 := Tryz.isAgg20
  z20 := Tryz.sizeOf20
  v20 := Tryz.zeroValue20
  t37 := Tryz.underlying47
  a37 := Tryz.isAgg47
  z37 := Tryz.sizeOf47
  v37 := Tryz.zeroValue47
  t75 := Tryz.underlying42
  a75 := Tryz.isAgg42
  z75 := Tryz.sizeOf42
  v75 := Tryz.zeroValue42
  t91 := Tryz.underlying73
  a91 := Tryz.isAgg73
  z91 := Tryz.sizeOf73
  v91 := Tryz.zeroValue73
  t93 := Tryz.underlying75
  a93 := Tryz.isAgg75
  z93 := Tryz.sizeOf75
  v93 := Tryz.zeroValue75
  t130 := Tryz.underlying78
  a130 := Tryz.isAgg78
  z130 := Tryz.sizeOf78
  v130 := Tryz.zeroValue78
  t131 := Tryz.underlying179
  a131 := Tryz.isAgg179
  z131 := Tryz.sizeOf179
  v131 := Tryz.zeroValue179
  g14 := by kernel_rfl
  t5 := Tryz.underlying5
  a5 := Tryz.isAgg5
  z5 := Tryz.sizeOf5
  v5 := Tryz.zeroValue5
  t9 := Tryz.underlying9
  a9 := Tryz.isAgg9
  z9 := Tryz.sizeOf9
  v9 := Tryz.zeroValue9
  t80 := Tryz.underlying79
  a80 := Tryz.isAgg79
  z80 := Tryz.sizeOf79
  v80 := Tryz.zeroValue79
  i0 := by kernel_rfl
  i3 := by kernel_rfl
  i4 := by kernel_rfl
  i5 := by kernel_rfl
  i9 := by kernel_rfl
  i20 := by kernel_rfl
  i37 := by kernel_rfl
  i75 := by kernel_rfl
  i80 := by kernel_rfl
  i91 := by kernel_rfl
  i93 := by kernel_rfl
  i130 := by kernel_rfl
  i131 := by kernel_rfl
  m14 := by kernel_rfl }
open Go.RowKit in
/-- (*bytes.Buffer).Write: "Write appends the contents of p to the buffer, growing the buffer as needed. The return value n is the length of p; err is always nil." (LAID: no walk: one application.) -/
theorem Tryz.Buffer_Write_at (T : TypeId) (R : Nat → Option Value) (B b q : Nat) (bs cs : List Value) (a : Addr) (n c : Nat) (w : World) (h : LibA.IsBuffer T R 5 B b q bs w) (hBw : B ≤ w.heap.size) (h1 : ∀ v ∈ bs, v.oneCell' = true) (hn : cs.length = n) (hab : a.block ≠ b) (hsrc : ∀ j v, cs[j]? = some v → w.cell? (a.add j) = some v) (h1c : ∀ v ∈ cs, v.oneCell' = true) (hlim : bs.length + n ≤ 140737488355328) :
    Calls Tryz.prog 157 #[.pointer (some ⟨b, q, none⟩), .slice (some a) n c] w fun e w' => e = .returned (.tuple #[.int .i64 n, .nilIface]) ∧ LibA.IsBuffer T R 5 B b q (bs ++ cs) w' ∧ Below B w w' ∧ Lib.OthersKept 5 (some b) w w' := Any.Buffer_Write_at Tryz.laysM180 T R B b q bs cs a n c w h hBw h1 hn hab hsrc h1c hlim
def Tryz.laysGg36_ren : Go.Shelf.Ren := ⟨fun | 36 => 110 | n => n, fun | 66 => 205 | 51 => 25 | 0 => 0 | 60 => 191 | 41 => 80 | n => n, fun | n => n⟩
theorem Tryz.laysGg36 : Go.Proofs.LaysGg.n36 Tryz.prog Tryz.laysGg36_ren := {
  mixed := by kernel_rfl
  f36 := Tryz.func110.trans (congrArg some (by kernel_rfl))
  t0 := Tryz.underlying0
  a0 := Tryz.isAgg0
  z0 := Tryz.sizeOf0
  v0 := Tryz.zeroValue0
  i0 := by kernel_rfl
  t41 := Tryz.underlying80
  a41 := Tryz.isAgg80
  z41 := Tryz.sizeOf80
  v41 := Tryz.zeroValue80
  i41 := by kernel_rfl
  t51 := Tryz.underlying25
  a51 := Tryz.isAgg25
  z51 := Tryz.sizeOf25
  v51 := Tryz.zeroValue25
  i51 := by kernel_rfl
  t60 := Tryz.underlying191
  a60 := Tryz.isAgg191
  z60 := Tryz.sizeOf191
  v60 := Tryz.zeroValue191
  i60 := by kernel_rfl
  t66 := Tryz.underlying205
  a66 := Tryz.isAgg205
  z66 := Tryz.sizeOf205
  v66 := Tryz.zeroValue205
  i66 := by kernel_rfl }
open Go.RowKit Go.Lib Go.Sort in
/-- '*r ^= *r << 13; *r ^= *r >> 7; *r ^= *r << 17; return uint64(*r)': the cell holds 'xorNextN X' and that is handed back; three draws; nothing else turns. (LAID: no walk: one application.) -/
theorem Tryz.xorshift_Next (rb ro X : Nat) (hX : X < 18446744073709551616) (w : World) (hc : w.cell? ⟨rb, ro, none⟩ = some (.int .u64 X)) (hf : w.frozen? ⟨rb, ro, none⟩ = false) :
    Calls Tryz.prog 110 #[.pointer (some ⟨rb, ro, none⟩)] w fun e w' => e = .returned (.int .u64 (xorNextN X : Nat)) ∧ w' = (w.setCell ⟨rb, ro, none⟩ (.int .u64 (xorNextN X : Nat))).drewN 3 := Any.xorshift_Next Tryz.laysGg36 rb ro X hX w hc hf
def Tryz.laysGg35_ren : Go.Shelf.Ren := ⟨fun | 35 => 109 | 13 => 66 | 24 => 89 | 25 => 68 | n => n, fun | 3 => 3 | 41 => 80 | 49 => 172 | 51 => 25 | 4 => 4 | 5 => 5 | 9 => 9 | n => n, fun | n => n⟩
theorem Tryz.laysGg35 : Go.Proofs.LaysGg.n35 Tryz.prog Tryz.laysGg35_ren := {
  mixed := by kernel_rfl
  f13 := Tryz.func66.trans (congrArg some (by kernel_rfl))
  f24 := Tryz.func89.trans (congrArg some (by kernel_rfl))
  f25 := Tryz.func68.trans (congrArg some (by kernel_rfl))
  f35 := Tryz.func109.trans (congrArg some (by kernel_rfl))
  t3 := Tryz.underlying3
  a3 := Tryz.isAgg3
  z3 := Tryz.sizeOf3
  v3 := Tryz.zeroValue3
  i3 := by kernel_rfl
  t4 := Tryz.underlying4
  a4 := Tryz.isAgg4
  z4 := Tryz.sizeOf4
  v4 := Tryz.zeroValue4
  i4 := by kernel_rfl
  t5 := Tryz.underlying5
  a5 := Tryz.isAgg5
  z5 := Tryz.sizeOf5
  v5 := Tryz.zeroValue5
  i5 := by kernel_rfl
  t9 := Tryz.underlying9
  a9 := Tryz.isAgg9
  z9 := Tryz.sizeOf9
  v9 := Tryz.zeroValue9
  i9 := by kernel_rfl
  t41 := Tryz.underlying80
  a41 := Tryz.isAgg80
  z41 := Tryz.sizeOf80
  v41 := Tryz.zeroValue80
  i41 := by kernel_rfl
  t49 := Tryz.underlying172
  a49 := Tryz.isAgg172
  z49 := Tryz.sizeOf172
  v49 := Tryz.zeroValue172
  i49 := by kernel_rfl
  t51 := Tryz.underlying25
  a51 := Tryz.isAgg25
  z51 := Tryz.sizeOf25
  v51 := Tryz.zeroValue25
  i51 := by kernel_rfl }
open Go.RowKit Go.Lib Go.Sort in
/-- 'return 1 << bits.Len(uint(length))'. (LAID: no walk: one application.) -/
theorem Tryz.nextPowerOfTwo (n : Nat) (hn : n < 4611686018427387904) (w : World) :
    Calls Tryz.prog 109 #[.int .i64 n] w fun e w' => e = .returned (.int .u64 ((1 <<< bitsLen n : Nat) : Int)) ∧ w' = w := Any.nextPowerOfTwo Tryz.laysGg35 n hn w
def Tryz.laysGg34_ren : Go.Shelf.Ren := ⟨fun | 34 => 108 | n => n, fun | 44 => 152 | 3 => 3 | 0 => 0 | 4 => 4 | 26 => 113 | 37 => 147 | n => n, fun | n => n⟩
theorem Tryz.laysGg34 : Go.Proofs.LaysGg.n34 Tryz.prog Tryz.laysGg34_ren := {
  mixed := by kernel_rfl
  f34 := Tryz.func108.trans (congrArg some (by kernel_rfl))
  t0 := Tryz.underlying0
  a0 := Tryz.isAgg0
  z0 := Tryz.sizeOf0
  v0 := Tryz.zeroValue0
  i0 := by kernel_rfl
  t3 := Tryz.underlying3
  a3 := Tryz.isAgg3
  z3 := Tryz.sizeOf3
  v3 := Tryz.zeroValue3
  i3 := by kernel_rfl
  t4 := Tryz.underlying4
  a4 := Tryz.isAgg4
  z4 := Tryz.sizeOf4
  v4 := Tryz.zeroValue4
  i4 := by kernel_rfl
  t26 := Tryz.underlying113
  a26 := Tryz.isAgg113
  z26 := Tryz.sizeOf113
  v26 := Tryz.zeroValue113
  i26 := by kernel_rfl
  t37 := Tryz.underlying147
  a37 := Tryz.isAgg147
  z37 := Tryz.sizeOf147
  v37 := Tryz.zeroValue147
  i37 := by kernel_rfl
  t44 := Tryz.underlying152
  a44 := Tryz.isAgg152
  z44 := Tryz.sizeOf152
  v44 := Tryz.zeroValue152
  i44 := by kernel_rfl }
open Go.RowKit Go.Lib Go.Sort in
theorem Tryz.siftDown_func_one {α : Type} [Inhabited α] (enc : α → Value) (lt : α → α → Bool) (g : Nat) (lb : Array Value) (sf : Nat) (sb : Array Value) (blk off lo hi first : Nat) (d : Array α) (w : World) (eg : ∀ args w, (callFunc g args).run Tryz.prog w = .ok (.enter g args) w) (hless : LessReads Tryz.prog g lb enc lt blk off d.size w) (hswap : SwapSwaps Tryz.prog sf sb enc blk off d.size) (hH : Holds enc w blk off d) (hblk : blk < w.heap.size) (hlo : lo ≤ hi) (hb : first + hi ≤ d.size) (hsz : d.size < 4611686018427387904) :
    Calls Tryz.prog 108 #[.agg #[.func (.func g) #[] lb, .func (.func sf) #[] sb], .int .i64 lo, .int .i64 hi, .int .i64 first] w fun e w' =>
      e = .returned (.tuple #[]) ∧ ∃ n, w' = putRow enc (Sort.ahead (w.alloc (.cells #[.func (.func g) #[] lb, .func (.func sf) #[] sb] 152)) n) blk off (siftDown lt hi first lo d) := Any.siftDown_func_one Tryz.laysGg34 enc lt g lb sf sb blk off lo hi first d w eg hless hswap hH hblk hlo hb hsz
open Go.RowKit Go.Lib Go.Sort in
/-- sort.siftDown_func, from a world to a 'sortWorld' of it. (LAID: no walk: one application.) -/
theorem Tryz.siftDown_func_w {α : Type} [Inhabited α] (enc : α → Value) (lt : α → α → Bool) (g : Nat) (lb : Array Value) (sf : Nat) (sb : Array Value) (blk off lo hi first : Nat) (d : Array α) (w : World) (eg : ∀ args w, (callFunc g args).run Tryz.prog w = .ok (.enter g args) w) (hless : LessReads Tryz.prog g lb enc lt blk off d.size w) (hswap : SwapSwaps Tryz.prog sf sb enc blk off d.size) (hH : Holds enc w blk off d) (hblk : blk < w.heap.size) (hlo : lo ≤ hi) (hb : first + hi ≤ d.size) (hsz : d.size < 4611686018427387904) :
    Calls Tryz.prog 108 #[.agg #[.func (.func g) #[] lb, .func (.func sf) #[] sb], .int .i64 lo, .int .i64 hi, .int .i64 first] w fun e w' => e = .returned (.tuple #[]) ∧ ∃ n os, w' = sortWorld enc w blk off n (siftDown lt hi first lo d) os := Any.siftDown_func_w Tryz.laysGg34 enc lt g lb sf sb blk off lo hi first d w eg hless hswap hH hblk hlo hb hsz
def Tryz.laysGg27_ren : Go.Shelf.Ren := ⟨fun | 27 => 91 | 34 => 108 | n => n, fun | 44 => 152 | 3 => 3 | 0 => 0 | 4 => 4 | 37 => 147 | 26 => 113 | n => n, fun | n => n⟩
theorem Tryz.laysGg27 : Go.Proofs.LaysGg.n27 Tryz.prog Tryz.laysGg27_ren := {
  mixed := by kernel_rfl
  f27 := Tryz.func91.trans (congrArg some (by kernel_rfl))
  f34 := Tryz.func108.trans (congrArg some (by kernel_rfl))
  t0 := Tryz.underlying0
  a0 := Tryz.isAgg0
  z0 := Tryz.sizeOf0
  v0 := Tryz.zeroValue0
  i0 := by kernel_rfl
  t3 := Tryz.underlying3
  a3 := Tryz.isAgg3
  z3 := Tryz.sizeOf3
  v3 := Tryz.zeroValue3
  i3 := by kernel_rfl
  t4 := Tryz.underlying4
  a4 := Tryz.isAgg4
  z4 := Tryz.sizeOf4
  v4 := Tryz.zeroValue4
  i4 := by kernel_rfl
  t26 := Tryz.underlying113
  a26 := Tryz.isAgg113
  z26 := Tryz.sizeOf113
  v26 := Tryz.zeroValue113
  i26 := by kernel_rfl
  t37 := Tryz.underlying147
  a37 := Tryz.isAgg147
  z37 := Tryz.sizeOf147
  v37 := Tryz.zeroValue147
  i37 := by kernel_rfl
  t44 := Tryz.underlying152
  a44 := Tryz.isAgg152
  z44 := Tryz.sizeOf152
  v44 := Tryz.zeroValue152
  i44 := by kernel_rfl }
open Go.RowKit Go.Lib Go.Sort in
theorem Tryz.heapSort_func_w {α : Type} [Inhabited α] (enc : α → Value) (lt : α → α → Bool) (g : Nat) (lb : Array Value) (sf : Nat) (sb : Array Value) (blk off a b : Nat) (d : Array α) (w : World) (eg : ∀ args w, (callFunc g args).run Tryz.prog w = .ok (.enter g args) w) (hless : LessReads Tryz.prog g lb enc lt blk off d.size w) (hswap : SwapSwaps Tryz.prog sf sb enc blk off d.size) (hH : Holds enc w blk off d) (hblk : blk < w.heap.size) (hab : a ≤ b) (hb : b ≤ d.size) (hsz : d.size < 4611686018427387904) :
    Calls Tryz.prog 91 #[.agg #[.func (.func g) #[] lb, .func (.func sf) #[] sb], .int .i64 a, .int .i64 b] w fun e w' => e = .returned (.tuple #[]) ∧ ∃ n os, w' = sortWorld enc w blk off n (heapSort lt d a b) os := Any.heapSort_func_w Tryz.laysGg27 enc lt g lb sf sb blk off a b d w eg hless hswap hH hblk hab hb hsz
def Tryz.laysGg31_ren : Go.Shelf.Ren := ⟨fun | 31 => 95 | n => n, fun | 44 => 152 | 3 => 3 | 4 => 4 | 0 => 0 | 26 => 113 | 37 => 147 | n => n, fun | n => n⟩
theorem Tryz.laysGg31 : Go.Proofs.LaysGg.n31 Tryz.prog Tryz.laysGg31_ren := {
  mixed := by kernel_rfl
  f31 := Tryz.func95.trans (congrArg some (by kernel_rfl))
  t0 := Tryz.underlying0
  a0 := Tryz.isAgg0
  z0 := Tryz.sizeOf0
  v0 := Tryz.zeroValue0
  i0 := by kernel_rfl
  t3 := Tryz.underlying3
  a3 := Tryz.isAgg3
  z3 := Tryz.sizeOf3
  v3 := Tryz.zeroValue3
  i3 := by kernel_rfl
  t4 := Tryz.underlying4
  a4 := Tryz.isAgg4
  z4 := Tryz.sizeOf4
  v4 := Tryz.zeroValue4
  i4 := by kernel_rfl
  t26 := Tryz.underlying113
  a26 := Tryz.isAgg113
  z26 := Tryz.sizeOf113
  v26 := Tryz.zeroValue113
  i26 := by kernel_rfl
  t37 := Tryz.underlying147
  a37 := Tryz.isAgg147
  z37 := Tryz.sizeOf147
  v37 := Tryz.zeroValue147
  i37 := by kernel_rfl
  t44 := Tryz.underlying152
  a44 := Tryz.isAgg152
  z44 := Tryz.sizeOf152
  v44 := Tryz.zeroValue152
  i44 := by kernel_rfl }
open Go.RowKit Go.Lib Go.Sort in
theorem Tryz.partialInsertionSort_func_one {α : Type} [Inhabited α] (enc : α → Value) (lt : α → α → Bool) (g : Nat) (lb : Array Value) (sf : Nat) (sb : Array Value) (blk off a b : Nat) (d : Array α) (w : World) (eg : ∀ args w, (callFunc g args).run Tryz.prog w = .ok (.enter g args) w) (hless : LessReads Tryz.prog g lb enc lt blk off d.size w) (hswap : SwapSwaps Tryz.prog sf sb enc blk off d.size) (hH : Holds enc w blk off d) (hblk : blk < w.heap.size) (hab : a < b) (hb : b ≤ d.size) (hsz : d.size < 4611686018427387904) :
    Calls Tryz.prog 95 #[.agg #[.func (.func g) #[] lb, .func (.func sf) #[] sb], .int .i64 a, .int .i64 b] w fun e w' =>
      e = .returned (.bool (Sort.partialInsertionSort lt d a b).2) ∧ ∃ n, w' = putRow enc (Sort.ahead (w.alloc (.cells #[.func (.func g) #[] lb, .func (.func sf) #[] sb] 152)) n) blk off (Sort.partialInsertionSort lt d a b).1 := Any.partialInsertionSort_func_one Tryz.laysGg31 enc lt g lb sf sb blk off a b d w eg hless hswap hH hblk hab hb hsz
open Go.RowKit Go.Lib Go.Sort in
/-- sort.partialInsertionSort_func, from a world to a 'sortWorld' of it. (LAID: no walk: one application.) -/
theorem Tryz.partialInsertionSort_func_w {α : Type} [Inhabited α] (enc : α → Value) (lt : α → α → Bool) (g : Nat) (lb : Array Value) (sf : Nat) (sb : Array Value) (blk off a b : Nat) (d : Array α) (w : World) (eg : ∀ args w, (callFunc g args).run Tryz.prog w = .ok (.enter g args) w) (hless : LessReads Tryz.prog g lb enc lt blk off d.size w) (hswap : SwapSwaps Tryz.prog sf sb enc blk off d.size) (hH : Holds enc w blk off d) (hblk : blk < w.heap.size) (hab : a < b) (hb : b ≤ d.size) (hsz : d.size < 4611686018427387904) :
    Calls Tryz.prog 95 #[.agg #[.func (.func g) #[] lb, .func (.func sf) #[] sb], .int .i64 a, .int .i64 b] w fun e w' => e = .returned (.bool (Sort.partialInsertionSort lt d a b).2) ∧ ∃ n os, w' = sortWorld enc w blk off n (Sort.partialInsertionSort lt d a b).1 os := Any.partialInsertionSort_func_w Tryz.laysGg31 enc lt g lb sf sb blk off a b d w eg hless hswap hH hblk hab hb hsz
end Go.Proofs
