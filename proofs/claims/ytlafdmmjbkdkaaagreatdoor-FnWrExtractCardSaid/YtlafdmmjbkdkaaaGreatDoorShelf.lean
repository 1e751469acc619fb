/-
  DERIVED: THE SHELF's CONTRACTS AT THIS DUMP, IN PLAIN WORDS (tools/lay-plain.mjs out of 'TryzShelf.lean', which tools/lay-shelf.mjs wrote): THE SAME DECLARATIONS UNDER THE SAME NAMES: 'import', 'namespace', 'open', 'def', 'theorem' AND NOTHING ELSE: no command of the shelf's: FOR A HAND-IN. Each laying: the table of numbers ('.._ren') and one theorem, a field a fact of the dump's own or the kernel's comparison; each contract: ONE APPLICATION.
-/
import Derived.Shelf.Small.Bits
import Derived.Shelf.Strconv.Itoa0
import Derived.Ground.MnProg
import Derived.Shelf.Bin.LEUint64
import Derived.Shelf.Bin.LEPutUint64
import Derived.Shelf.Bin.BEUint16
import Derived.Shelf.Bin.BEUint32
import Derived.Shelf.Bin.BEUint64
import Derived.Ground.GgsProg
import Derived.Shelf.GgSortFunc.Insertion
import Derived.Shelf.Bin.ReadersZ
import Derived.Shelf.GgSortFunc.Small
import Derived.Shelf.GgSortFunc.Tiny
import Derived.Shelf.GgSortFunc.Compose
import Derived.Shelf.GgSortFunc.LotD
import Derived.Shelf.GgSortFunc.Pivot
import Derived.Shelf.GgSortFunc.Partition
import Derived.Shelf.GgSortFunc.Pdq
import Derived.Ground.GgtProg
import Derived.Shelf.GgSortMore.Stable
import Derived.Shelf.SlSortFunc.Xorshift
import Derived.Shelf.SlSortFunc.SiftDown
import Derived.Shelf.SlSortFunc.HeapSort
import Derived.Shelf.SlSortFunc.PartialInsertion
import Derived.Test.YtlafdmmjbkdkaaaGreatDoorProg
namespace Go.Proofs
open Go.Shelf
def Tryz.lays128_ren : Go.Shelf.Ren := ⟨fun | 128 => 114 | n => n, fun | 51 => 201 | 3 => 3 | 4 => 4 | 46 => 97 | 5 => 5 | 9 => 9 | n => n, fun | n => n⟩
theorem Tryz.lays128 : Go.Proofs.Lays.n128 Tryz.prog Tryz.lays128_ren := {
  mixed := by kernel_rfl
  f128 := Tryz.func114.trans (congrArg some (by kernel_rfl))
  t3 := Tryz.underlying3
  a3 := Tryz.isAgg3
  z3 := Tryz.sizeOf3
  v3 := Tryz.zeroValue3
  t4 := Tryz.underlying4
  a4 := Tryz.isAgg4
  z4 := Tryz.sizeOf4
  v4 := Tryz.zeroValue4
  t5 := Tryz.underlying5
  a5 := Tryz.isAgg5
  z5 := Tryz.sizeOf5
  v5 := Tryz.zeroValue5
  t9 := Tryz.underlying9
  a9 := Tryz.isAgg9
  z9 := Tryz.sizeOf9
  v9 := Tryz.zeroValue9
  t46 := Tryz.underlying97
  a46 := Tryz.isAgg97
  z46 := Tryz.sizeOf97
  v46 := Tryz.zeroValue97
  t51 := Tryz.underlying201
  a51 := Tryz.isAgg201
  z51 := Tryz.sizeOf201
  v51 := Tryz.zeroValue201 }
/-- bits.Len32: "Len32 returns the minimum number of bits required to represent x; the result is 0 for x == 0.": IT RETURNS 'Lib.bitLen x'; the world is as it was. ('h0', 'h1': x is a uint32.) (LAID: no walk: one application.) -/
theorem Tryz.bits_Len32 (x : Int) (w : World) (h0 : 0 ≤ x) (h1 : x ≤ 4294967295) :
    Calls Tryz.prog 114 #[.int .u32 x] w fun e w' => e = .returned (.int .i64 (Lib.bitLen x.toNat)) ∧ w' = w := Any.bits_Len32 Tryz.lays128 x w h0 h1
def Tryz.lays125_ren : Go.Shelf.Ren := ⟨fun | 125 => 90 | 128 => 114 | 129 => 115 | n => n, fun | 46 => 97 | 3 => 3 | 51 => 201 | 53 => 26 | 4 => 4 | 5 => 5 | 9 => 9 | n => n, fun | n => n⟩
theorem Tryz.lays125 : Go.Proofs.Lays.n125 Tryz.prog Tryz.lays125_ren := {
  mixed := by kernel_rfl
  f125 := Tryz.func90.trans (congrArg some (by kernel_rfl))
  f128 := Tryz.func114.trans (congrArg some (by kernel_rfl))
  f129 := Tryz.func115.trans (congrArg some (by kernel_rfl))
  t3 := Tryz.underlying3
  a3 := Tryz.isAgg3
  z3 := Tryz.sizeOf3
  v3 := Tryz.zeroValue3
  t4 := Tryz.underlying4
  a4 := Tryz.isAgg4
  z4 := Tryz.sizeOf4
  v4 := Tryz.zeroValue4
  t5 := Tryz.underlying5
  a5 := Tryz.isAgg5
  z5 := Tryz.sizeOf5
  v5 := Tryz.zeroValue5
  t9 := Tryz.underlying9
  a9 := Tryz.isAgg9
  z9 := Tryz.sizeOf9
  v9 := Tryz.zeroValue9
  t46 := Tryz.underlying97
  a46 := Tryz.isAgg97
  z46 := Tryz.sizeOf97
  v46 := Tryz.zeroValue97
  t51 := Tryz.underlying201
  a51 := Tryz.isAgg201
  z51 := Tryz.sizeOf201
  v51 := Tryz.zeroValue201
  t53 := Tryz.underlying26
  a53 := Tryz.isAgg26
  z53 := Tryz.sizeOf26
  v53 := Tryz.zeroValue26 }
/-- bits.Len: "Len returns the minimum number of bits required to represent x; the result is 0 for x == 0.": IT RETURNS 'Lib.bitLen x'; the world is as it was. (A uint has 64 bits in the model.) ITS CALLEE bits.Len64 IS MET BY ITS OWN CONTRACT OFF THE SHELF (lay that first). (LAID: no walk: one application.) -/
theorem Tryz.bits_Len (x : Int) (w : World) (h0 : 0 ≤ x) (h1 : x ≤ 18446744073709551615) :
    Calls Tryz.prog 90 #[.int .u64 x] w fun e w' => e = .returned (.int .i64 (Lib.bitLen x.toNat)) ∧ w' = w := Any.bits_Len Tryz.lays125 x w h0 h1
def Tryz.lays129_ren : Go.Shelf.Ren := ⟨fun | 129 => 115 | n => n, fun | 53 => 26 | 3 => 3 | 4 => 4 | 46 => 97 | 5 => 5 | 9 => 9 | n => n, fun | n => n⟩
theorem Tryz.lays129 : Go.Proofs.Lays.n129 Tryz.prog Tryz.lays129_ren := {
  mixed := by kernel_rfl
  f129 := Tryz.func115.trans (congrArg some (by kernel_rfl))
  t3 := Tryz.underlying3
  a3 := Tryz.isAgg3
  z3 := Tryz.sizeOf3
  v3 := Tryz.zeroValue3
  t4 := Tryz.underlying4
  a4 := Tryz.isAgg4
  z4 := Tryz.sizeOf4
  v4 := Tryz.zeroValue4
  t5 := Tryz.underlying5
  a5 := Tryz.isAgg5
  z5 := Tryz.sizeOf5
  v5 := Tryz.zeroValue5
  t9 := Tryz.underlying9
  a9 := Tryz.isAgg9
  z9 := Tryz.sizeOf9
  v9 := Tryz.zeroValue9
  t46 := Tryz.underlying97
  a46 := Tryz.isAgg97
  z46 := Tryz.sizeOf97
  v46 := Tryz.zeroValue97
  t53 := Tryz.underlying26
  a53 := Tryz.isAgg26
  z53 := Tryz.sizeOf26
  v53 := Tryz.zeroValue26 }
/-- bits.Len64: "Len64 returns the minimum number of bits required to represent x; the result is 0 for x == 0.": IT RETURNS 'Lib.bitLen x'; the world is as it was. ('h0', 'h1': x is a uint64.) (LAID: no walk: one application.) -/
theorem Tryz.bits_Len64 (x : Int) (w : World) (h0 : 0 ≤ x) (h1 : x ≤ 18446744073709551615) :
    Calls Tryz.prog 115 #[.int .u64 x] w fun e w' => e = .returned (.int .i64 (Lib.bitLen x.toNat)) ∧ w' = w := Any.bits_Len64 Tryz.lays129 x w h0 h1
def Tryz.laysBin33_ren : Go.Shelf.Ren := ⟨fun | 33 => 52 | n => n, fun | 25 => 117 | 22 => 45 | 33 => 26 | 0 => 0 | 5 => 5 | 45 => 97 | n => n, fun | n => n⟩
theorem Tryz.laysBin33 : Go.Proofs.LaysBin.n33 Tryz.prog Tryz.laysBin33_ren := {
  mixed := by kernel_rfl
  f33 := Tryz.func52.trans (congrArg some (by kernel_rfl))
  t0 := Tryz.underlying0
  a0 := Tryz.isAgg0
  z0 := Tryz.sizeOf0
  v0 := Tryz.zeroValue0
  i0 := by kernel_rfl
  t5 := Tryz.underlying5
  a5 := Tryz.isAgg5
  z5 := Tryz.sizeOf5
  v5 := Tryz.zeroValue5
  i5 := by kernel_rfl
  t22 := Tryz.underlying45
  a22 := Tryz.isAgg45
  z22 := Tryz.sizeOf45
  v22 := Tryz.zeroValue45
  i22 := by kernel_rfl
  t25 := Tryz.underlying117
  a25 := Tryz.isAgg117
  z25 := Tryz.sizeOf117
  v25 := Tryz.zeroValue117
  i25 := by kernel_rfl
  t33 := Tryz.underlying26
  a33 := Tryz.isAgg26
  z33 := Tryz.sizeOf26
  v33 := Tryz.zeroValue26
  i33 := by kernel_rfl
  t45 := Tryz.underlying97
  a45 := Tryz.isAgg97
  z45 := Tryz.sizeOf97
  v45 := Tryz.zeroValue97
  i45 := by kernel_rfl }
open Go.RowKit in
/-- binary.LittleEndian.Uint64: "Uint64 returns the uint64 representation of b[0:8].": THE NUMBER THAT THE FIRST 8 BYTES SPELL, the least byte first ('Lib.leNat'). Of what was there nothing has turned (the receiver, an empty struct, is laid in a new block without cells; the statement's order is drawn). (LAID: no walk: one application.) -/
theorem Tryz.binary_LE_Uint64 (g o n c : Nat) (b0 b1 b2 b3 b4 b5 b6 b7 : UInt8) (w : World) (hn : 8 ≤ n) (c0 : w.cell? ⟨g, o, none⟩ = some (.int .u8 b0.toNat)) (c1 : w.cell? ⟨g, o + 1, none⟩ = some (.int .u8 b1.toNat)) (c2 : w.cell? ⟨g, o + 2, none⟩ = some (.int .u8 b2.toNat)) (c3 : w.cell? ⟨g, o + 3, none⟩ = some (.int .u8 b3.toNat)) (c4 : w.cell? ⟨g, o + 4, none⟩ = some (.int .u8 b4.toNat)) (c5 : w.cell? ⟨g, o + 5, none⟩ = some (.int .u8 b5.toNat)) (c6 : w.cell? ⟨g, o + 6, none⟩ = some (.int .u8 b6.toNat)) (c7 : w.cell? ⟨g, o + 7, none⟩ = some (.int .u8 b7.toNat)) :
    Calls Tryz.prog 52 #[.agg #[], .slice (some ⟨g, o, none⟩) n c] w fun e w' => e = .returned (.int .u64 (Lib.leNat [b0, b1, b2, b3, b4, b5, b6, b7])) ∧ Below w.heap.size w w' := Any.binary_LE_Uint64 Tryz.laysBin33 g o n c b0 b1 b2 b3 b4 b5 b6 b7 w hn c0 c1 c2 c3 c4 c5 c6 c7
def Tryz.laysBin34_ren : Go.Shelf.Ren := ⟨fun | 34 => 210 | n => n, fun | 25 => 117 | 22 => 45 | 33 => 26 | 0 => 0 | 5 => 5 | 45 => 97 | n => n, fun | n => n⟩
theorem Tryz.laysBin34 : Go.Proofs.LaysBin.n34 Tryz.prog Tryz.laysBin34_ren := {
  mixed := by kernel_rfl
  f34 := Tryz.func210.trans (congrArg some (by kernel_rfl))
  t0 := Tryz.underlying0
  a0 := Tryz.isAgg0
  z0 := Tryz.sizeOf0
  v0 := Tryz.zeroValue0
  i0 := by kernel_rfl
  t5 := Tryz.underlying5
  a5 := Tryz.isAgg5
  z5 := Tryz.sizeOf5
  v5 := Tryz.zeroValue5
  i5 := by kernel_rfl
  t22 := Tryz.underlying45
  a22 := Tryz.isAgg45
  z22 := Tryz.sizeOf45
  v22 := Tryz.zeroValue45
  i22 := by kernel_rfl
  t25 := Tryz.underlying117
  a25 := Tryz.isAgg117
  z25 := Tryz.sizeOf117
  v25 := Tryz.zeroValue117
  i25 := by kernel_rfl
  t33 := Tryz.underlying26
  a33 := Tryz.isAgg26
  z33 := Tryz.sizeOf26
  v33 := Tryz.zeroValue26
  i33 := by kernel_rfl
  t45 := Tryz.underlying97
  a45 := Tryz.isAgg97
  z45 := Tryz.sizeOf97
  v45 := Tryz.zeroValue97
  i45 := by kernel_rfl }
open Go.RowKit in
/-- binary.LittleEndian.PutUint64: "PutUint64 stores v into b[0:8].": v's 8 BYTES, the least first ('Lib.leBytes 8 v'), ARE LAID IN THE SLICE's FIRST 8 CELLS ('World.setCells'); nothing else turns (the receiver, an empty struct, is laid in a new block without cells). (LAID: no walk: one application.) -/
theorem Tryz.binary_LE_PutUint64 (g o n c v : Nat) (hv : v < 18446744073709551616) (x0 x1 x2 x3 x4 x5 x6 x7 : Value) (w : World) (hn : 8 ≤ n) (c0 : w.cell? ⟨g, o, none⟩ = some x0) (c1 : w.cell? ⟨g, o + 1, none⟩ = some x1) (c2 : w.cell? ⟨g, o + 2, none⟩ = some x2) (c3 : w.cell? ⟨g, o + 3, none⟩ = some x3) (c4 : w.cell? ⟨g, o + 4, none⟩ = some x4) (c5 : w.cell? ⟨g, o + 5, none⟩ = some x5) (c6 : w.cell? ⟨g, o + 6, none⟩ = some x6) (c7 : w.cell? ⟨g, o + 7, none⟩ = some x7) (f0 : w.frozen? ⟨g, o, none⟩ = false) (f1 : w.frozen? ⟨g, o + 1, none⟩ = false) (f2 : w.frozen? ⟨g, o + 2, none⟩ = false) (f3 : w.frozen? ⟨g, o + 3, none⟩ = false) (f4 : w.frozen? ⟨g, o + 4, none⟩ = false) (f5 : w.frozen? ⟨g, o + 5, none⟩ = false) (f6 : w.frozen? ⟨g, o + 6, none⟩ = false) (f7 : w.frozen? ⟨g, o + 7, none⟩ = false) :
    Calls Tryz.prog 210 #[.agg #[], .slice (some ⟨g, o, none⟩) n c, .int .u64 v] w fun e w' => e = .returned (.tuple #[]) ∧ w' = (w.alloc (.cells #[] 117)).setCells g o (Lib.byteCells (Lib.leBytes 8 v)) := Any.binary_LE_PutUint64 Tryz.laysBin34 g o n c v hv x0 x1 x2 x3 x4 x5 x6 x7 w hn c0 c1 c2 c3 c4 c5 c6 c7 f0 f1 f2 f3 f4 f5 f6 f7
def Tryz.laysBin36_ren : Go.Shelf.Ren := ⟨fun | 36 => 158 | n => n, fun | 37 => 272 | 22 => 45 | 23 => 271 | 0 => 0 | 5 => 5 | 45 => 97 | n => n, fun | n => n⟩
theorem Tryz.laysBin36 : Go.Proofs.LaysBin.n36 Tryz.prog Tryz.laysBin36_ren := {
  mixed := by kernel_rfl
  f36 := Tryz.func158.trans (congrArg some (by kernel_rfl))
  t0 := Tryz.underlying0
  a0 := Tryz.isAgg0
  z0 := Tryz.sizeOf0
  v0 := Tryz.zeroValue0
  i0 := by kernel_rfl
  t5 := Tryz.underlying5
  a5 := Tryz.isAgg5
  z5 := Tryz.sizeOf5
  v5 := Tryz.zeroValue5
  i5 := by kernel_rfl
  t22 := Tryz.underlying45
  a22 := Tryz.isAgg45
  z22 := Tryz.sizeOf45
  v22 := Tryz.zeroValue45
  i22 := by kernel_rfl
  t23 := Tryz.underlying271
  a23 := Tryz.isAgg271
  z23 := Tryz.sizeOf271
  v23 := Tryz.zeroValue271
  i23 := by kernel_rfl
  t37 := Tryz.underlying272
  a37 := Tryz.isAgg272
  z37 := Tryz.sizeOf272
  v37 := Tryz.zeroValue272
  i37 := by kernel_rfl
  t45 := Tryz.underlying97
  a45 := Tryz.isAgg97
  z45 := Tryz.sizeOf97
  v45 := Tryz.zeroValue97
  i45 := by kernel_rfl }
open Go.RowKit in
/-- binary.BigEndian.Uint16: "Uint16 returns the uint16 representation of b[0:2].": THE NUMBER THAT THE FIRST 2 BYTES SPELL, the greatest byte first ('Lib.beNat'). Of what was there nothing has turned (the receiver, an empty struct, is laid in a new block without cells; the statement's order is drawn). (LAID: no walk: one application.) -/
theorem Tryz.binary_BE_Uint16 (g o n c : Nat) (b0 b1 : UInt8) (w : World) (hn : 2 ≤ n) (c0 : w.cell? ⟨g, o, none⟩ = some (.int .u8 b0.toNat)) (c1 : w.cell? ⟨g, o + 1, none⟩ = some (.int .u8 b1.toNat)) :
    Calls Tryz.prog 158 #[.agg #[], .slice (some ⟨g, o, none⟩) n c] w fun e w' => e = .returned (.int .u16 (Lib.beNat [b0, b1])) ∧ Below w.heap.size w w' := Any.binary_BE_Uint16 Tryz.laysBin36 g o n c b0 b1 w hn c0 c1
def Tryz.laysBin39_ren : Go.Shelf.Ren := ⟨fun | 39 => 159 | n => n, fun | 37 => 272 | 22 => 45 | 29 => 201 | 0 => 0 | 5 => 5 | 45 => 97 | n => n, fun | n => n⟩
theorem Tryz.laysBin39 : Go.Proofs.LaysBin.n39 Tryz.prog Tryz.laysBin39_ren := {
  mixed := by kernel_rfl
  f39 := Tryz.func159.trans (congrArg some (by kernel_rfl))
  t0 := Tryz.underlying0
  a0 := Tryz.isAgg0
  z0 := Tryz.sizeOf0
  v0 := Tryz.zeroValue0
  i0 := by kernel_rfl
  t5 := Tryz.underlying5
  a5 := Tryz.isAgg5
  z5 := Tryz.sizeOf5
  v5 := Tryz.zeroValue5
  i5 := by kernel_rfl
  t22 := Tryz.underlying45
  a22 := Tryz.isAgg45
  z22 := Tryz.sizeOf45
  v22 := Tryz.zeroValue45
  i22 := by kernel_rfl
  t29 := Tryz.underlying201
  a29 := Tryz.isAgg201
  z29 := Tryz.sizeOf201
  v29 := Tryz.zeroValue201
  i29 := by kernel_rfl
  t37 := Tryz.underlying272
  a37 := Tryz.isAgg272
  z37 := Tryz.sizeOf272
  v37 := Tryz.zeroValue272
  i37 := by kernel_rfl
  t45 := Tryz.underlying97
  a45 := Tryz.isAgg97
  z45 := Tryz.sizeOf97
  v45 := Tryz.zeroValue97
  i45 := by kernel_rfl }
open Go.RowKit in
/-- binary.BigEndian.Uint32: "Uint32 returns the uint32 representation of b[0:4].": THE NUMBER THAT THE FIRST 4 BYTES SPELL, the greatest byte first ('Lib.beNat'). Of what was there nothing has turned (the receiver, an empty struct, is laid in a new block without cells; the statement's order is drawn). (LAID: no walk: one application.) -/
theorem Tryz.binary_BE_Uint32 (g o n c : Nat) (b0 b1 b2 b3 : UInt8) (w : World) (hn : 4 ≤ n) (c0 : w.cell? ⟨g, o, none⟩ = some (.int .u8 b0.toNat)) (c1 : w.cell? ⟨g, o + 1, none⟩ = some (.int .u8 b1.toNat)) (c2 : w.cell? ⟨g, o + 2, none⟩ = some (.int .u8 b2.toNat)) (c3 : w.cell? ⟨g, o + 3, none⟩ = some (.int .u8 b3.toNat)) :
    Calls Tryz.prog 159 #[.agg #[], .slice (some ⟨g, o, none⟩) n c] w fun e w' => e = .returned (.int .u32 (Lib.beNat [b0, b1, b2, b3])) ∧ Below w.heap.size w w' := Any.binary_BE_Uint32 Tryz.laysBin39 g o n c b0 b1 b2 b3 w hn c0 c1 c2 c3
def Tryz.laysBin42_ren : Go.Shelf.Ren := ⟨fun | 42 => 161 | n => n, fun | 37 => 272 | 22 => 45 | 33 => 26 | 0 => 0 | 5 => 5 | 45 => 97 | n => n, fun | n => n⟩
theorem Tryz.laysBin42 : Go.Proofs.LaysBin.n42 Tryz.prog Tryz.laysBin42_ren := {
  mixed := by kernel_rfl
  f42 := Tryz.func161.trans (congrArg some (by kernel_rfl))
  t0 := Tryz.underlying0
  a0 := Tryz.isAgg0
  z0 := Tryz.sizeOf0
  v0 := Tryz.zeroValue0
  i0 := by kernel_rfl
  t5 := Tryz.underlying5
  a5 := Tryz.isAgg5
  z5 := Tryz.sizeOf5
  v5 := Tryz.zeroValue5
  i5 := by kernel_rfl
  t22 := Tryz.underlying45
  a22 := Tryz.isAgg45
  z22 := Tryz.sizeOf45
  v22 := Tryz.zeroValue45
  i22 := by kernel_rfl
  t33 := Tryz.underlying26
  a33 := Tryz.isAgg26
  z33 := Tryz.sizeOf26
  v33 := Tryz.zeroValue26
  i33 := by kernel_rfl
  t37 := Tryz.underlying272
  a37 := Tryz.isAgg272
  z37 := Tryz.sizeOf272
  v37 := Tryz.zeroValue272
  i37 := by kernel_rfl
  t45 := Tryz.underlying97
  a45 := Tryz.isAgg97
  z45 := Tryz.sizeOf97
  v45 := Tryz.zeroValue97
  i45 := by kernel_rfl }
open Go.RowKit in
/-- binary.BigEndian.Uint64: "Uint64 returns the uint64 representation of b[0:8].": THE NUMBER THAT THE FIRST 8 BYTES SPELL, the greatest byte first ('Lib.beNat'). Of what was there nothing has turned (the receiver, an empty struct, is laid in a new block without cells; the statement's order is drawn). (LAID: no walk: one application.) -/
theorem Tryz.binary_BE_Uint64 (g o n c : Nat) (b0 b1 b2 b3 b4 b5 b6 b7 : UInt8) (w : World) (hn : 8 ≤ n) (c0 : w.cell? ⟨g, o, none⟩ = some (.int .u8 b0.toNat)) (c1 : w.cell? ⟨g, o + 1, none⟩ = some (.int .u8 b1.toNat)) (c2 : w.cell? ⟨g, o + 2, none⟩ = some (.int .u8 b2.toNat)) (c3 : w.cell? ⟨g, o + 3, none⟩ = some (.int .u8 b3.toNat)) (c4 : w.cell? ⟨g, o + 4, none⟩ = some (.int .u8 b4.toNat)) (c5 : w.cell? ⟨g, o + 5, none⟩ = some (.int .u8 b5.toNat)) (c6 : w.cell? ⟨g, o + 6, none⟩ = some (.int .u8 b6.toNat)) (c7 : w.cell? ⟨g, o + 7, none⟩ = some (.int .u8 b7.toNat)) :
    Calls Tryz.prog 161 #[.agg #[], .slice (some ⟨g, o, none⟩) n c] w fun e w' => e = .returned (.int .u64 (Lib.beNat [b0, b1, b2, b3, b4, b5, b6, b7])) ∧ Below w.heap.size w w' := Any.binary_BE_Uint64 Tryz.laysBin42 g o n c b0 b1 b2 b3 b4 b5 b6 b7 w hn c0 c1 c2 c3 c4 c5 c6 c7
def Tryz.laysGg26_ren : Go.Shelf.Ren := ⟨fun | 26 => 116 | n => n, fun | 44 => 180 | 3 => 3 | 0 => 0 | 4 => 4 | 26 => 144 | 37 => 174 | n => n, fun | n => n⟩
theorem Tryz.laysGg26 : Go.Proofs.LaysGg.n26 Tryz.prog Tryz.laysGg26_ren := {
  mixed := by kernel_rfl
  f26 := Tryz.func116.trans (congrArg some (by kernel_rfl))
  t0 := Tryz.underlying0
  a0 := Tryz.isAgg0
  z0 := Tryz.sizeOf0
  v0 := Tryz.zeroValue0
  i0 := by kernel_rfl
  t3 := Tryz.underlying3
  a3 := Tryz.isAgg3
  z3 := Tryz.sizeOf3
  v3 := Tryz.zeroValue3
  i3 := by kernel_rfl
  t4 := Tryz.underlying4
  a4 := Tryz.isAgg4
  z4 := Tryz.sizeOf4
  v4 := Tryz.zeroValue4
  i4 := by kernel_rfl
  t26 := Tryz.underlying144
  a26 := Tryz.isAgg144
  z26 := Tryz.sizeOf144
  v26 := Tryz.zeroValue144
  i26 := by kernel_rfl
  t37 := Tryz.underlying174
  a37 := Tryz.isAgg174
  z37 := Tryz.sizeOf174
  v37 := Tryz.zeroValue174
  i37 := by kernel_rfl
  t44 := Tryz.underlying180
  a44 := Tryz.isAgg180
  z44 := Tryz.sizeOf180
  v44 := Tryz.zeroValue180
  i44 := by kernel_rfl }
open Go.RowKit Go.Lib Go.Sort in
theorem Tryz.insertionSort_func_one {α : Type} [Inhabited α] (enc : α → Value) (lt : α → α → Bool) (g : Nat) (lb : Array Value) (sf : Nat) (sb : Array Value) (blk off a b : Nat) (d : Array α) (w : World) (eg : ∀ args w, (callFunc g args).run Tryz.prog w = .ok (.enter g args) w) (hless : LessReads Tryz.prog g lb enc lt blk off d.size w) (hswap : SwapSwaps Tryz.prog sf sb enc blk off d.size) (hH : Holds enc w blk off d) (hblk : blk < w.heap.size) (hab : a ≤ b) (hb : b ≤ d.size) (hsz : d.size < 4611686018427387904) :
    Calls Tryz.prog 116 #[.agg #[.func (.func g) #[] lb, .func (.func sf) #[] sb], .int .i64 a, .int .i64 b] w fun e w' =>
      e = .returned (.tuple #[]) ∧ ∃ n, w' = putRow enc (Sort.ahead (w.alloc (.cells #[.func (.func g) #[] lb, .func (.func sf) #[] sb] 180)) n) blk off (Sort.insertionSort lt d a b) := Any.insertionSort_func_one Tryz.laysGg26 enc lt g lb sf sb blk off a b d w eg hless hswap hH hblk hab hb hsz
open Go.RowKit in
/-- binary.LittleEndian.Uint64, ITS PREMISES 'open_ints'' CONCLUSION TO THE LETTER: a slice at WHATEVER address a, the numbers zs that its cells hold: THE NUMBER THAT THE FIRST 8 SPELL ('Lib.leZ'). (LAID: no walk: one application.) -/
theorem Tryz.binary_LE_Uint64_z (a : Addr) (n c : Nat) (zs : List Int) (w : World) (hn : 8 ≤ n) (hl : 8 ≤ zs.length) (hcell : ∀ i, i < zs.length → w.cell? (a.add i) = some (.int .u8 (zs.getD i 0))) (hw : ∀ z ∈ zs, (Lit.int .u8 z).wf = true) :
    Calls Tryz.prog 52 #[.agg #[], .slice (some a) n c] w fun e w' => e = .returned (.int .u64 (Lib.leZ (zs.take 8))) ∧ Below w.heap.size w w' := Any.binary_LE_Uint64_z Tryz.laysBin33 a n c zs w hn hl hcell hw
open Go.RowKit in
/-- binary.BigEndian.Uint16, ITS PREMISES 'open_ints'' CONCLUSION TO THE LETTER: a slice at WHATEVER address a, the numbers zs that its cells hold: THE NUMBER THAT THE FIRST 2 SPELL ('Lib.beZ'). (LAID: no walk: one application.) -/
theorem Tryz.binary_BE_Uint16_z (a : Addr) (n c : Nat) (zs : List Int) (w : World) (hn : 2 ≤ n) (hl : 2 ≤ zs.length) (hcell : ∀ i, i < zs.length → w.cell? (a.add i) = some (.int .u8 (zs.getD i 0))) (hw : ∀ z ∈ zs, (Lit.int .u8 z).wf = true) :
    Calls Tryz.prog 158 #[.agg #[], .slice (some a) n c] w fun e w' => e = .returned (.int .u16 (Lib.beZ (zs.take 2))) ∧ Below w.heap.size w w' := Any.binary_BE_Uint16_z Tryz.laysBin36 a n c zs w hn hl hcell hw
open Go.RowKit in
/-- binary.BigEndian.Uint32, ITS PREMISES 'open_ints'' CONCLUSION TO THE LETTER: a slice at WHATEVER address a, the numbers zs that its cells hold: THE NUMBER THAT THE FIRST 4 SPELL ('Lib.beZ'). (LAID: no walk: one application.) -/
theorem Tryz.binary_BE_Uint32_z (a : Addr) (n c : Nat) (zs : List Int) (w : World) (hn : 4 ≤ n) (hl : 4 ≤ zs.length) (hcell : ∀ i, i < zs.length → w.cell? (a.add i) = some (.int .u8 (zs.getD i 0))) (hw : ∀ z ∈ zs, (Lit.int .u8 z).wf = true) :
    Calls Tryz.prog 159 #[.agg #[], .slice (some a) n c] w fun e w' => e = .returned (.int .u32 (Lib.beZ (zs.take 4))) ∧ Below w.heap.size w w' := Any.binary_BE_Uint32_z Tryz.laysBin39 a n c zs w hn hl hcell hw
open Go.RowKit in
/-- binary.BigEndian.Uint64, ITS PREMISES 'open_ints'' CONCLUSION TO THE LETTER: a slice at WHATEVER address a, the numbers zs that its cells hold: THE NUMBER THAT THE FIRST 8 SPELL ('Lib.beZ'). (LAID: no walk: one application.) -/
theorem Tryz.binary_BE_Uint64_z (a : Addr) (n c : Nat) (zs : List Int) (w : World) (hn : 8 ≤ n) (hl : 8 ≤ zs.length) (hcell : ∀ i, i < zs.length → w.cell? (a.add i) = some (.int .u8 (zs.getD i 0))) (hw : ∀ z ∈ zs, (Lit.int .u8 z).wf = true) :
    Calls Tryz.prog 161 #[.agg #[], .slice (some a) n c] w fun e w' => e = .returned (.int .u64 (Lib.beZ (zs.take 8))) ∧ Below w.heap.size w w' := Any.binary_BE_Uint64_z Tryz.laysBin42 a n c zs w hn hl hcell hw
def Tryz.laysGg14_ren : Go.Shelf.Ren := ⟨fun | 14 => 91 | 26 => 116 | 27 => 117 | 28 => 118 | 29 => 119 | 30 => 120 | 31 => 121 | 32 => 122 | 33 => 123 | 34 => 128 | 35 => 129 | 36 => 130 | 37 => 131 | 38 => 132 | 13 => 90 | 39 => 155 | 24 => 114 | 25 => 115 | n => n, fun | 44 => 180 | 3 => 3 | 0 => 0 | 4 => 4 | 54 => 205 | 53 => 204 | 26 => 144 | 58 => 209 | 37 => 174 | 60 => 233 | 41 => 97 | 51 => 26 | 64 => 237 | 66 => 264 | 67 => 265 | 49 => 201 | 5 => 5 | 9 => 9 | n => n, fun | n => n⟩
theorem Tryz.laysGg14 : Go.Proofs.LaysGg.n14 Tryz.prog Tryz.laysGg14_ren := {
  mixed := by kernel_rfl
  f13 := Tryz.func90.trans (congrArg some (by kernel_rfl))
  f14 := Tryz.func91.trans (congrArg some (by kernel_rfl))
  f24 := Tryz.func114.trans (congrArg some (by kernel_rfl))
  f25 := Tryz.func115.trans (congrArg some (by kernel_rfl))
  f26 := Tryz.func116.trans (congrArg some (by kernel_rfl))
  f27 := Tryz.func117.trans (congrArg some (by kernel_rfl))
  f28 := Tryz.func118.trans (congrArg some (by kernel_rfl))
  f29 := Tryz.func119.trans (congrArg some (by kernel_rfl))
  f30 := Tryz.func120.trans (congrArg some (by kernel_rfl))
  f31 := Tryz.func121.trans (congrArg some (by kernel_rfl))
  f32 := Tryz.func122.trans (congrArg some (by kernel_rfl))
  f33 := Tryz.func123.trans (congrArg some (by kernel_rfl))
  f34 := Tryz.func128.trans (congrArg some (by kernel_rfl))
  f35 := Tryz.func129.trans (congrArg some (by kernel_rfl))
  f36 := Tryz.func130.trans (congrArg some (by kernel_rfl))
  f37 := Tryz.func131.trans (congrArg some (by kernel_rfl))
  f38 := Tryz.func132.trans (congrArg some (by kernel_rfl))
  f39 := Tryz.func155.trans (congrArg some (by kernel_rfl))
  t0 := Tryz.underlying0
  a0 := Tryz.isAgg0
  z0 := Tryz.sizeOf0
  v0 := Tryz.zeroValue0
  i0 := by kernel_rfl
  t3 := Tryz.underlying3
  a3 := Tryz.isAgg3
  z3 := Tryz.sizeOf3
  v3 := Tryz.zeroValue3
  i3 := by kernel_rfl
  t4 := Tryz.underlying4
  a4 := Tryz.isAgg4
  z4 := Tryz.sizeOf4
  v4 := Tryz.zeroValue4
  i4 := by kernel_rfl
  t5 := Tryz.underlying5
  a5 := Tryz.isAgg5
  z5 := Tryz.sizeOf5
  v5 := Tryz.zeroValue5
  i5 := by kernel_rfl
  t9 := Tryz.underlying9
  a9 := Tryz.isAgg9
  z9 := Tryz.sizeOf9
  v9 := Tryz.zeroValue9
  i9 := by kernel_rfl
  t26 := Tryz.underlying144
  a26 := Tryz.isAgg144
  z26 := Tryz.sizeOf144
  v26 := Tryz.zeroValue144
  i26 := by kernel_rfl
  t37 := Tryz.underlying174
  a37 := Tryz.isAgg174
  z37 := Tryz.sizeOf174
  v37 := Tryz.zeroValue174
  i37 := by kernel_rfl
  t41 := Tryz.underlying97
  a41 := Tryz.isAgg97
  z41 := Tryz.sizeOf97
  v41 := Tryz.zeroValue97
  i41 := by kernel_rfl
  t44 := Tryz.underlying180
  a44 := Tryz.isAgg180
  z44 := Tryz.sizeOf180
  v44 := Tryz.zeroValue180
  i44 := by kernel_rfl
  t49 := Tryz.underlying201
  a49 := Tryz.isAgg201
  z49 := Tryz.sizeOf201
  v49 := Tryz.zeroValue201
  i49 := by kernel_rfl
  t51 := Tryz.underlying26
  a51 := Tryz.isAgg26
  z51 := Tryz.sizeOf26
  v51 := Tryz.zeroValue26
  i51 := by kernel_rfl
  t53 := Tryz.underlying204
  a53 := Tryz.isAgg204
  z53 := Tryz.sizeOf204
  v53 := Tryz.zeroValue204
  i53 := by kernel_rfl
  t54 := Tryz.underlying205
  a54 := Tryz.isAgg205
  z54 := Tryz.sizeOf205
  v54 := Tryz.zeroValue205
  i54 := by kernel_rfl
  t58 := Tryz.underlying209
  a58 := Tryz.isAgg209
  z58 := Tryz.sizeOf209
  v58 := Tryz.zeroValue209
  i58 := by kernel_rfl
  t60 := Tryz.underlying233
  a60 := Tryz.isAgg233
  z60 := Tryz.sizeOf233
  v60 := Tryz.zeroValue233
  i60 := by kernel_rfl
  t64 := Tryz.underlying237
  a64 := Tryz.isAgg237
  z64 := Tryz.sizeOf237
  v64 := Tryz.zeroValue237
  i64 := by kernel_rfl
  t66 := Tryz.underlying264
  a66 := Tryz.isAgg264
  z66 := Tryz.sizeOf264
  v66 := Tryz.zeroValue264
  i66 := by kernel_rfl
  t67 := Tryz.underlying265
  a67 := Tryz.isAgg265
  z67 := Tryz.sizeOf265
  v67 := Tryz.zeroValue265
  i67 := by kernel_rfl }
open Go.RowKit Go.Lib Go.Sort in
/-- sort.pdqsort_func AT A RANGE OF AT MOST 12. (LAID: no walk: one application.) -/
theorem Tryz.pdqsort_func_small {α : Type} [Inhabited α] (enc : α → Value) (lt : α → α → Bool) (g : Nat) (lb : Array Value) (sf : Nat) (sb : Array Value) (blk off a b : Nat) (lim : Int) (d : Array α) (w : World) (eg : ∀ args w, (callFunc g args).run Tryz.prog w = .ok (.enter g args) w) (hless : LessReads Tryz.prog g lb enc lt blk off d.size w) (hswap : SwapSwaps Tryz.prog sf sb enc blk off d.size) (hH : Holds enc w blk off d) (hblk : blk < w.heap.size) (hab : a ≤ b) (hb : b ≤ d.size) (hsz : d.size < 4611686018427387904) (h12 : b - a ≤ 12) :
    Calls Tryz.prog 91 #[.agg #[.func (.func g) #[] lb, .func (.func sf) #[] sb], .int .i64 a, .int .i64 b, .int .i64 lim] w fun e w' =>
      e = .returned (.tuple #[]) ∧ ∃ n, w' = putRow enc (Sort.ahead ((w.alloc (.cells #[.func (.func g) #[] lb, .func (.func sf) #[] sb] 180)).alloc (.cells #[.func (.func g) #[] lb, .func (.func sf) #[] sb] 180)) n) blk off (Sort.insertionSort lt d a b) := Any.pdqsort_func_small Tryz.laysGg14 enc lt g lb sf sb blk off a b lim d w eg hless hswap hH hblk hab hb hsz h12
def Tryz.laysGg6_ren : Go.Shelf.Ren := ⟨fun | 6 => 78 | 10 => 87 | 11 => 88 | 12 => 89 | 13 => 90 | 14 => 91 | 24 => 114 | 25 => 115 | 26 => 116 | 27 => 117 | 28 => 118 | 29 => 119 | 30 => 120 | 31 => 121 | 32 => 122 | 33 => 123 | 34 => 128 | 35 => 129 | 36 => 130 | 37 => 131 | 38 => 132 | 39 => 155 | n => n, fun | 20 => 20 | 26 => 144 | 35 => 172 | 0 => 0 | 37 => 174 | 3 => 3 | 41 => 97 | 44 => 180 | 49 => 201 | 51 => 26 | 4 => 4 | 54 => 205 | 53 => 204 | 58 => 209 | 5 => 5 | 9 => 9 | 60 => 233 | 64 => 237 | 66 => 264 | 67 => 265 | 17 => 17 | 32 => 169 | 33 => 170 | 82 => 314 | 12 => 12 | 75 => 307 | 76 => 308 | 77 => 309 | 78 => 310 | 79 => 311 | 80 => 312 | n => n, fun | n => n⟩
theorem Tryz.laysGg6 : Go.Proofs.LaysGg.n6 Tryz.prog Tryz.laysGg6_ren := {
  mixed := by kernel_rfl
  f6 := Tryz.func78.trans (congrArg some (by kernel_rfl))
  f10 := Tryz.func87.trans (congrArg some (by kernel_rfl))
  f11 := Tryz.func88.trans (congrArg some (by kernel_rfl))
  f12 := Tryz.func89.trans (congrArg some (by kernel_rfl))
  f13 := Tryz.func90.trans (congrArg some (by kernel_rfl))
  f14 := Tryz.func91.trans (congrArg some (by kernel_rfl))
  f24 := Tryz.func114.trans (congrArg some (by kernel_rfl))
  f25 := Tryz.func115.trans (congrArg some (by kernel_rfl))
  f26 := Tryz.func116.trans (congrArg some (by kernel_rfl))
  f27 := Tryz.func117.trans (congrArg some (by kernel_rfl))
  f28 := Tryz.func118.trans (congrArg some (by kernel_rfl))
  f29 := Tryz.func119.trans (congrArg some (by kernel_rfl))
  f30 := Tryz.func120.trans (congrArg some (by kernel_rfl))
  f31 := Tryz.func121.trans (congrArg some (by kernel_rfl))
  f32 := Tryz.func122.trans (congrArg some (by kernel_rfl))
  f33 := Tryz.func123.trans (congrArg some (by kernel_rfl))
  f34 := Tryz.func128.trans (congrArg some (by kernel_rfl))
  f35 := Tryz.func129.trans (congrArg some (by kernel_rfl))
  f36 := Tryz.func130.trans (congrArg some (by kernel_rfl))
  f37 := Tryz.func131.trans (congrArg some (by kernel_rfl))
  f38 := Tryz.func132.trans (congrArg some (by kernel_rfl))
  f39 := Tryz.func155.trans (congrArg some (by kernel_rfl))
  t0 := Tryz.underlying0
  a0 := Tryz.isAgg0
  z0 := Tryz.sizeOf0
  v0 := Tryz.zeroValue0
  i0 := by kernel_rfl
  t3 := Tryz.underlying3
  a3 := Tryz.isAgg3
  z3 := Tryz.sizeOf3
  v3 := Tryz.zeroValue3
  i3 := by kernel_rfl
  t4 := Tryz.underlying4
  a4 := Tryz.isAgg4
  z4 := Tryz.sizeOf4
  v4 := Tryz.zeroValue4
  i4 := by kernel_rfl
  t5 := Tryz.underlying5
  a5 := Tryz.isAgg5
  z5 := Tryz.sizeOf5
  v5 := Tryz.zeroValue5
  i5 := by kernel_rfl
  t9 := Tryz.underlying9
  a9 := Tryz.isAgg9
  z9 := Tryz.sizeOf9
  v9 := Tryz.zeroValue9
  i9 := by kernel_rfl
  t12 := Tryz.underlying12
  a12 := Tryz.isAgg12
  z12 := Tryz.sizeOf12
  v12 := Tryz.zeroValue12
  i12 := by kernel_rfl
  t17 := Tryz.underlying17
  a17 := Tryz.isAgg17
  z17 := Tryz.sizeOf17
  v17 := Tryz.zeroValue17
  i17 := by kernel_rfl
  t20 := Tryz.underlying20
  a20 := Tryz.isAgg20
  z20 := Tryz.sizeOf20
  v20 := Tryz.zeroValue20
  i20 := by kernel_rfl
  t26 := Tryz.underlying144
  a26 := Tryz.isAgg144
  z26 := Tryz.sizeOf144
  v26 := Tryz.zeroValue144
  i26 := by kernel_rfl
  t32 := Tryz.underlying169
  a32 := Tryz.isAgg169
  z32 := Tryz.sizeOf169
  v32 := Tryz.zeroValue169
  i32 := by kernel_rfl
  t33 := Tryz.underlying170
  a33 := Tryz.isAgg170
  z33 := Tryz.sizeOf170
  v33 := Tryz.zeroValue170
  i33 := by kernel_rfl
  t35 := Tryz.underlying172
  a35 := Tryz.isAgg172
  z35 := Tryz.sizeOf172
  v35 := Tryz.zeroValue172
  i35 := by kernel_rfl
  t37 := Tryz.underlying174
  a37 := Tryz.isAgg174
  z37 := Tryz.sizeOf174
  v37 := Tryz.zeroValue174
  i37 := by kernel_rfl
  t41 := Tryz.underlying97
  a41 := Tryz.isAgg97
  z41 := Tryz.sizeOf97
  v41 := Tryz.zeroValue97
  i41 := by kernel_rfl
  t44 := Tryz.underlying180
  a44 := Tryz.isAgg180
  z44 := Tryz.sizeOf180
  v44 := Tryz.zeroValue180
  i44 := by kernel_rfl
  t49 := Tryz.underlying201
  a49 := Tryz.isAgg201
  z49 := Tryz.sizeOf201
  v49 := Tryz.zeroValue201
  i49 := by kernel_rfl
  t51 := Tryz.underlying26
  a51 := Tryz.isAgg26
  z51 := Tryz.sizeOf26
  v51 := Tryz.zeroValue26
  i51 := by kernel_rfl
  t53 := Tryz.underlying204
  a53 := Tryz.isAgg204
  z53 := Tryz.sizeOf204
  v53 := Tryz.zeroValue204
  i53 := by kernel_rfl
  t54 := Tryz.underlying205
  a54 := Tryz.isAgg205
  z54 := Tryz.sizeOf205
  v54 := Tryz.zeroValue205
  i54 := by kernel_rfl
  t58 := Tryz.underlying209
  a58 := Tryz.isAgg209
  z58 := Tryz.sizeOf209
  v58 := Tryz.zeroValue209
  i58 := by kernel_rfl
  t60 := Tryz.underlying233
  a60 := Tryz.isAgg233
  z60 := Tryz.sizeOf233
  v60 := Tryz.zeroValue233
  i60 := by kernel_rfl
  t64 := Tryz.underlying237
  a64 := Tryz.isAgg237
  z64 := Tryz.sizeOf237
  v64 := Tryz.zeroValue237
  i64 := by kernel_rfl
  t66 := Tryz.underlying264
  a66 := Tryz.isAgg264
  z66 := Tryz.sizeOf264
  v66 := Tryz.zeroValue264
  i66 := by kernel_rfl
  t67 := Tryz.underlying265
  a67 := Tryz.isAgg265
  z67 := Tryz.sizeOf265
  v67 := Tryz.zeroValue265
  i67 := by kernel_rfl
  t75 := Tryz.underlying307
  a75 := Tryz.isAgg307
  z75 := Tryz.sizeOf307
  v75 := Tryz.zeroValue307
  i75 := by kernel_rfl
  t76 := Tryz.underlying308
  a76 := Tryz.isAgg308
  z76 := Tryz.sizeOf308
  v76 := Tryz.zeroValue308
  i76 := by kernel_rfl
  t77 := Tryz.underlying309
  a77 := Tryz.isAgg309
  z77 := Tryz.sizeOf309
  v77 := Tryz.zeroValue309
  i77 := by kernel_rfl
  t78 := Tryz.underlying310
  a78 := Tryz.isAgg310
  z78 := Tryz.sizeOf310
  v78 := Tryz.zeroValue310
  i78 := by kernel_rfl
  t79 := Tryz.underlying311
  a79 := Tryz.isAgg311
  z79 := Tryz.sizeOf311
  v79 := Tryz.zeroValue311
  i79 := by kernel_rfl
  t80 := Tryz.underlying312
  a80 := Tryz.isAgg312
  z80 := Tryz.sizeOf312
  v80 := Tryz.zeroValue312
  i80 := by kernel_rfl
  t82 := Tryz.underlying314
  a82 := Tryz.isAgg314
  z82 := Tryz.sizeOf314
  v82 := Tryz.zeroValue314
  i82 := by kernel_rfl }
open Go.RowKit Go.Lib Go.Sort in
theorem Tryz.insertionSort_func_none (lf : Fn) (la lb : Array Value) (f : Nat) (sb : Array Value) (a b : Nat) (h : b ≤ a + 1) (ha : a < 4611686018427387904) (w : World) :
    Calls Tryz.prog 116 #[.agg #[.func lf la lb, .func (.func f) #[] sb], .int .i64 a, .int .i64 b] w fun e w' => e = .returned (.tuple #[]) ∧ w' = w.alloc (.cells #[.func lf la lb, .func (.func f) #[] sb] 180) := Any.insertionSort_func_none Tryz.laysGg26 lf la lb f sb a b h ha w
open Go.RowKit Go.Lib Go.Sort in
theorem Tryz.pdqsort_func_tiny (lf : Fn) (la lb : Array Value) (f : Nat) (sb : Array Value) (n : Nat) (h : n ≤ 1) (lim : Int) (w : World) :
    Calls Tryz.prog 91 #[.agg #[.func lf la lb, .func (.func f) #[] sb], .int .i64 0, .int .i64 n, .int .i64 lim] w fun e w' => e = .returned (.tuple #[]) ∧ w' = (w.alloc (.cells #[.func lf la lb, .func (.func f) #[] sb] 180)).alloc (.cells #[.func lf la lb, .func (.func f) #[] sb] 180) := Any.pdqsort_func_tiny Tryz.laysGg14 lf la lb f sb n h lim w
open Go.RowKit Go.Lib Go.Sort in
/-- sort.insertionSort_func, from a world to a 'sortWorld' of it. (LAID: no walk: one application.) -/
theorem Tryz.insertionSort_func_w {α : Type} [Inhabited α] (enc : α → Value) (lt : α → α → Bool) (g : Nat) (lb : Array Value) (sf : Nat) (sb : Array Value) (blk off a b : Nat) (d : Array α) (w : World) (eg : ∀ args w, (callFunc g args).run Tryz.prog w = .ok (.enter g args) w) (hless : LessReads Tryz.prog g lb enc lt blk off d.size w) (hswap : SwapSwaps Tryz.prog sf sb enc blk off d.size) (hH : Holds enc w blk off d) (hblk : blk < w.heap.size) (hab : a ≤ b) (hb : b ≤ d.size) (hsz : d.size < 4611686018427387904) :
    Calls Tryz.prog 116 #[.agg #[.func (.func g) #[] lb, .func (.func sf) #[] sb], .int .i64 a, .int .i64 b] w fun e w' => e = .returned (.tuple #[]) ∧ ∃ n os, w' = sortWorld enc w blk off n (Sort.insertionSort lt d a b) os := Any.insertionSort_func_w Tryz.laysGg26 enc lt g lb sf sb blk off a b d w eg hless hswap hH hblk hab hb hsz
def Tryz.laysGg30_ren : Go.Shelf.Ren := ⟨fun | 30 => 120 | n => n, fun | 44 => 180 | 3 => 3 | 0 => 0 | 4 => 4 | 37 => 174 | 26 => 144 | n => n, fun | n => n⟩
theorem Tryz.laysGg30 : Go.Proofs.LaysGg.n30 Tryz.prog Tryz.laysGg30_ren := {
  mixed := by kernel_rfl
  f30 := Tryz.func120.trans (congrArg some (by kernel_rfl))
  t0 := Tryz.underlying0
  a0 := Tryz.isAgg0
  z0 := Tryz.sizeOf0
  v0 := Tryz.zeroValue0
  i0 := by kernel_rfl
  t3 := Tryz.underlying3
  a3 := Tryz.isAgg3
  z3 := Tryz.sizeOf3
  v3 := Tryz.zeroValue3
  i3 := by kernel_rfl
  t4 := Tryz.underlying4
  a4 := Tryz.isAgg4
  z4 := Tryz.sizeOf4
  v4 := Tryz.zeroValue4
  i4 := by kernel_rfl
  t26 := Tryz.underlying144
  a26 := Tryz.isAgg144
  z26 := Tryz.sizeOf144
  v26 := Tryz.zeroValue144
  i26 := by kernel_rfl
  t37 := Tryz.underlying174
  a37 := Tryz.isAgg174
  z37 := Tryz.sizeOf174
  v37 := Tryz.zeroValue174
  i37 := by kernel_rfl
  t44 := Tryz.underlying180
  a44 := Tryz.isAgg180
  z44 := Tryz.sizeOf180
  v44 := Tryz.zeroValue180
  i44 := by kernel_rfl }
open Go.RowKit Go.Lib Go.Sort in
theorem Tryz.reverseRange_func_one {α : Type} [Inhabited α] (enc : α → Value) (lf : Fn) (la lb : Array Value) (sf : Nat) (sb : Array Value) (blk off a b : Nat) (d : Array α) (w : World) (hswap : SwapSwaps Tryz.prog sf sb enc blk off d.size) (hH : Holds enc w blk off d) (hblk : blk < w.heap.size) (hab : a ≤ b) (hb : b ≤ d.size) (hsz : d.size < 4611686018427387904) :
    Calls Tryz.prog 120 #[.agg #[.func lf la lb, .func (.func sf) #[] sb], .int .i64 a, .int .i64 b] w fun e w' => e = .returned (.tuple #[]) ∧ ∃ n, w' = putRow enc (Sort.ahead (w.alloc (.cells #[.func lf la lb, .func (.func sf) #[] sb] 180)) n) blk off (reverseRange d a b) := Any.reverseRange_func_one Tryz.laysGg30 enc lf la lb sf sb blk off a b d w hswap hH hblk hab hb hsz
open Go.RowKit Go.Lib Go.Sort in
/-- sort.reverseRange_func, from a world to a 'sortWorld' of it. (LAID: no walk: one application.) -/
theorem Tryz.reverseRange_func_w {α : Type} [Inhabited α] (enc : α → Value) (lf : Fn) (la lb : Array Value) (sf : Nat) (sb : Array Value) (blk off a b : Nat) (d : Array α) (w : World) (hswap : SwapSwaps Tryz.prog sf sb enc blk off d.size) (hH : Holds enc w blk off d) (hblk : blk < w.heap.size) (hab : a ≤ b) (hb : b ≤ d.size) (hsz : d.size < 4611686018427387904) :
    Calls Tryz.prog 120 #[.agg #[.func lf la lb, .func (.func sf) #[] sb], .int .i64 a, .int .i64 b] w fun e w' => e = .returned (.tuple #[]) ∧ ∃ n os, w' = sortWorld enc w blk off n (reverseRange d a b) os := Any.reverseRange_func_w Tryz.laysGg30 enc lf la lb sf sb blk off a b d w hswap hH hblk hab hb hsz
def Tryz.laysGg39_ren : Go.Shelf.Ren := ⟨fun | 39 => 155 | n => n, fun | 44 => 180 | 3 => 3 | 64 => 237 | 0 => 0 | 26 => 144 | 4 => 4 | 37 => 174 | n => n, fun | n => n⟩
theorem Tryz.laysGg39 : Go.Proofs.LaysGg.n39 Tryz.prog Tryz.laysGg39_ren := {
  mixed := by kernel_rfl
  f39 := Tryz.func155.trans (congrArg some (by kernel_rfl))
  t0 := Tryz.underlying0
  a0 := Tryz.isAgg0
  z0 := Tryz.sizeOf0
  v0 := Tryz.zeroValue0
  i0 := by kernel_rfl
  t3 := Tryz.underlying3
  a3 := Tryz.isAgg3
  z3 := Tryz.sizeOf3
  v3 := Tryz.zeroValue3
  i3 := by kernel_rfl
  t4 := Tryz.underlying4
  a4 := Tryz.isAgg4
  z4 := Tryz.sizeOf4
  v4 := Tryz.zeroValue4
  i4 := by kernel_rfl
  t26 := Tryz.underlying144
  a26 := Tryz.isAgg144
  z26 := Tryz.sizeOf144
  v26 := Tryz.zeroValue144
  i26 := by kernel_rfl
  t37 := Tryz.underlying174
  a37 := Tryz.isAgg174
  z37 := Tryz.sizeOf174
  v37 := Tryz.zeroValue174
  i37 := by kernel_rfl
  t44 := Tryz.underlying180
  a44 := Tryz.isAgg180
  z44 := Tryz.sizeOf180
  v44 := Tryz.zeroValue180
  i44 := by kernel_rfl
  t64 := Tryz.underlying237
  a64 := Tryz.isAgg237
  z64 := Tryz.sizeOf237
  v64 := Tryz.zeroValue237
  i64 := by kernel_rfl }
open Go.RowKit Go.Lib Go.Sort in
theorem Tryz.order2_func {α : Type} [Inhabited α] (enc : α → Value) (lt : α → α → Bool) (g : Nat) (lb : Array Value) (sfn : Fn) (sa sb : Array Value) (blk off : Nat) (w0 W : World) (d : Array α) (a b cb co s : Nat) (eg : ∀ args w, (callFunc g args).run Tryz.prog w = .ok (.enter g args) w) (hL : LessReads Tryz.prog g lb enc lt blk off d.size w0) (hW : SW enc w0 blk off d W) (ha : a < d.size) (hb : b < d.size) (hS : Holds (Value.int .i64) W cb co (one s)) (hcb : cb < W.heap.size) (hs : s < 4611686018427387904) :
    Calls Tryz.prog 155 #[.agg #[.func (.func g) #[] lb, .func sfn sa sb], .int .i64 a, .int .i64 b, .pointer (some ⟨cb, co, none⟩)] W fun e w' =>
      e = .returned (.tuple #[.int .i64 (order2 lt d a b s).1, .int .i64 (order2 lt d a b s).2.1]) ∧ ∃ n os, w' = sortWorld (Value.int .i64) W cb co n (one (order2 lt d a b s).2.2) os := Any.order2_func Tryz.laysGg39 enc lt g lb sfn sa sb blk off w0 W d a b cb co s eg hL hW ha hb hS hcb hs
def Tryz.laysGg38_ren : Go.Shelf.Ren := ⟨fun | 38 => 132 | 39 => 155 | n => n, fun | 44 => 180 | 3 => 3 | 64 => 237 | 0 => 0 | 67 => 265 | 26 => 144 | 4 => 4 | 37 => 174 | n => n, fun | n => n⟩
theorem Tryz.laysGg38 : Go.Proofs.LaysGg.n38 Tryz.prog Tryz.laysGg38_ren := {
  mixed := by kernel_rfl
  f38 := Tryz.func132.trans (congrArg some (by kernel_rfl))
  f39 := Tryz.func155.trans (congrArg some (by kernel_rfl))
  t0 := Tryz.underlying0
  a0 := Tryz.isAgg0
  z0 := Tryz.sizeOf0
  v0 := Tryz.zeroValue0
  i0 := by kernel_rfl
  t3 := Tryz.underlying3
  a3 := Tryz.isAgg3
  z3 := Tryz.sizeOf3
  v3 := Tryz.zeroValue3
  i3 := by kernel_rfl
  t4 := Tryz.underlying4
  a4 := Tryz.isAgg4
  z4 := Tryz.sizeOf4
  v4 := Tryz.zeroValue4
  i4 := by kernel_rfl
  t26 := Tryz.underlying144
  a26 := Tryz.isAgg144
  z26 := Tryz.sizeOf144
  v26 := Tryz.zeroValue144
  i26 := by kernel_rfl
  t37 := Tryz.underlying174
  a37 := Tryz.isAgg174
  z37 := Tryz.sizeOf174
  v37 := Tryz.zeroValue174
  i37 := by kernel_rfl
  t44 := Tryz.underlying180
  a44 := Tryz.isAgg180
  z44 := Tryz.sizeOf180
  v44 := Tryz.zeroValue180
  i44 := by kernel_rfl
  t64 := Tryz.underlying237
  a64 := Tryz.isAgg237
  z64 := Tryz.sizeOf237
  v64 := Tryz.zeroValue237
  i64 := by kernel_rfl
  t67 := Tryz.underlying265
  a67 := Tryz.isAgg265
  z67 := Tryz.sizeOf265
  v67 := Tryz.zeroValue265
  i67 := by kernel_rfl }
open Go.RowKit Go.Lib Go.Sort in
theorem Tryz.median_func {α : Type} [Inhabited α] (enc : α → Value) (lt : α → α → Bool) (g : Nat) (lb : Array Value) (sfn : Fn) (sa sb : Array Value) (blk off : Nat) (w0 W : World) (d : Array α) (a b c cb co s : Nat) (eg : ∀ args w, (callFunc g args).run Tryz.prog w = .ok (.enter g args) w) (hL : LessReads Tryz.prog g lb enc lt blk off d.size w0) (hW : SW enc w0 blk off d W) (ha : a < d.size) (hb : b < d.size) (hc : c < d.size) (hS : Holds (Value.int .i64) W cb co (one s)) (hcb0 : w0.heap.size ≤ cb) (hcb : cb < W.heap.size) (hs : s + 3 < 4611686018427387904) :
    Calls Tryz.prog 132 #[.agg #[.func (.func g) #[] lb, .func sfn sa sb], .int .i64 a, .int .i64 b, .int .i64 c, .pointer (some ⟨cb, co, none⟩)] W fun e w' =>
      e = .returned (.int .i64 (median lt d a b c s).1) ∧ ∃ n os, w' = sortWorld (Value.int .i64) W cb co n (one (median lt d a b c s).2) os := Any.median_func Tryz.laysGg38 enc lt g lb sfn sa sb blk off w0 W d a b c cb co s eg hL hW ha hb hc hS hcb0 hcb hs
def Tryz.laysGg37_ren : Go.Shelf.Ren := ⟨fun | 37 => 131 | 38 => 132 | 39 => 155 | n => n, fun | 44 => 180 | 3 => 3 | 64 => 237 | 0 => 0 | 67 => 265 | 26 => 144 | 4 => 4 | 37 => 174 | n => n, fun | n => n⟩
theorem Tryz.laysGg37 : Go.Proofs.LaysGg.n37 Tryz.prog Tryz.laysGg37_ren := {
  mixed := by kernel_rfl
  f37 := Tryz.func131.trans (congrArg some (by kernel_rfl))
  f38 := Tryz.func132.trans (congrArg some (by kernel_rfl))
  f39 := Tryz.func155.trans (congrArg some (by kernel_rfl))
  t0 := Tryz.underlying0
  a0 := Tryz.isAgg0
  z0 := Tryz.sizeOf0
  v0 := Tryz.zeroValue0
  i0 := by kernel_rfl
  t3 := Tryz.underlying3
  a3 := Tryz.isAgg3
  z3 := Tryz.sizeOf3
  v3 := Tryz.zeroValue3
  i3 := by kernel_rfl
  t4 := Tryz.underlying4
  a4 := Tryz.isAgg4
  z4 := Tryz.sizeOf4
  v4 := Tryz.zeroValue4
  i4 := by kernel_rfl
  t26 := Tryz.underlying144
  a26 := Tryz.isAgg144
  z26 := Tryz.sizeOf144
  v26 := Tryz.zeroValue144
  i26 := by kernel_rfl
  t37 := Tryz.underlying174
  a37 := Tryz.isAgg174
  z37 := Tryz.sizeOf174
  v37 := Tryz.zeroValue174
  i37 := by kernel_rfl
  t44 := Tryz.underlying180
  a44 := Tryz.isAgg180
  z44 := Tryz.sizeOf180
  v44 := Tryz.zeroValue180
  i44 := by kernel_rfl
  t64 := Tryz.underlying237
  a64 := Tryz.isAgg237
  z64 := Tryz.sizeOf237
  v64 := Tryz.zeroValue237
  i64 := by kernel_rfl
  t67 := Tryz.underlying265
  a67 := Tryz.isAgg265
  z67 := Tryz.sizeOf265
  v67 := Tryz.zeroValue265
  i67 := by kernel_rfl }
open Go.RowKit Go.Lib Go.Sort in
theorem Tryz.medianAdjacent_func {α : Type} [Inhabited α] (enc : α → Value) (lt : α → α → Bool) (g : Nat) (lb : Array Value) (sfn : Fn) (sa sb : Array Value) (blk off : Nat) (w0 W : World) (d : Array α) (a cb co s : Nat) (eg : ∀ args w, (callFunc g args).run Tryz.prog w = .ok (.enter g args) w) (hL : LessReads Tryz.prog g lb enc lt blk off d.size w0) (hW : SW enc w0 blk off d W) (ha1 : 1 ≤ a) (ha2 : a + 1 < d.size) (hsz : d.size < 4611686018427387904) (hS : Holds (Value.int .i64) W cb co (one s)) (hcb0 : w0.heap.size ≤ cb) (hcb : cb < W.heap.size) (hs : s + 3 < 4611686018427387904) :
    Calls Tryz.prog 131 #[.agg #[.func (.func g) #[] lb, .func sfn sa sb], .int .i64 a, .pointer (some ⟨cb, co, none⟩)] W fun e w' =>
      e = .returned (.int .i64 (medianAdjacent lt d a s).1) ∧ ∃ n os, w' = sortWorld (Value.int .i64) W cb co n (one (medianAdjacent lt d a s).2) os := Any.medianAdjacent_func Tryz.laysGg37 enc lt g lb sfn sa sb blk off w0 W d a cb co s eg hL hW ha1 ha2 hsz hS hcb0 hcb hs
def Tryz.laysGg29_ren : Go.Shelf.Ren := ⟨fun | 29 => 119 | 37 => 131 | 38 => 132 | 39 => 155 | n => n, fun | 44 => 180 | 3 => 3 | 53 => 204 | 0 => 0 | 4 => 4 | 64 => 237 | 67 => 265 | 26 => 144 | 37 => 174 | n => n, fun | n => n⟩
theorem Tryz.laysGg29 : Go.Proofs.LaysGg.n29 Tryz.prog Tryz.laysGg29_ren := {
  mixed := by kernel_rfl
  f29 := Tryz.func119.trans (congrArg some (by kernel_rfl))
  f37 := Tryz.func131.trans (congrArg some (by kernel_rfl))
  f38 := Tryz.func132.trans (congrArg some (by kernel_rfl))
  f39 := Tryz.func155.trans (congrArg some (by kernel_rfl))
  t0 := Tryz.underlying0
  a0 := Tryz.isAgg0
  z0 := Tryz.sizeOf0
  v0 := Tryz.zeroValue0
  i0 := by kernel_rfl
  t3 := Tryz.underlying3
  a3 := Tryz.isAgg3
  z3 := Tryz.sizeOf3
  v3 := Tryz.zeroValue3
  i3 := by kernel_rfl
  t4 := Tryz.underlying4
  a4 := Tryz.isAgg4
  z4 := Tryz.sizeOf4
  v4 := Tryz.zeroValue4
  i4 := by kernel_rfl
  t26 := Tryz.underlying144
  a26 := Tryz.isAgg144
  z26 := Tryz.sizeOf144
  v26 := Tryz.zeroValue144
  i26 := by kernel_rfl
  t37 := Tryz.underlying174
  a37 := Tryz.isAgg174
  z37 := Tryz.sizeOf174
  v37 := Tryz.zeroValue174
  i37 := by kernel_rfl
  t44 := Tryz.underlying180
  a44 := Tryz.isAgg180
  z44 := Tryz.sizeOf180
  v44 := Tryz.zeroValue180
  i44 := by kernel_rfl
  t53 := Tryz.underlying204
  a53 := Tryz.isAgg204
  z53 := Tryz.sizeOf204
  v53 := Tryz.zeroValue204
  i53 := by kernel_rfl
  t64 := Tryz.underlying237
  a64 := Tryz.isAgg237
  z64 := Tryz.sizeOf237
  v64 := Tryz.zeroValue237
  i64 := by kernel_rfl
  t67 := Tryz.underlying265
  a67 := Tryz.isAgg265
  z67 := Tryz.sizeOf265
  v67 := Tryz.zeroValue265
  i67 := by kernel_rfl }
open Go.RowKit Go.Lib Go.Sort in
/-- sort.choosePivot_func: THE LIBRARY's OWN TEXT COMPUTES 'Sort.choosePivot lt d a b'; the row is not turned; W is grown. (After Derived/Sort/Walk11.lean's 'So.choosePivot_int', row for row.) (LAID: no walk: one application.) -/
theorem Tryz.choosePivot_func {α : Type} [Inhabited α] (enc : α → Value) (lt : α → α → Bool) (g : Nat) (lb : Array Value) (sfn : Fn) (sa sb : Array Value) (blk off a b : Nat) (W : World) (d : Array α) (eg : ∀ args w, (callFunc g args).run Tryz.prog w = .ok (.enter g args) w) (hless : LessReads Tryz.prog g lb enc lt blk off d.size W) (hH : Holds enc W blk off d) (hab : a < b) (hb : b ≤ d.size) (hsz : d.size < 4611686018427387904) :
    Calls Tryz.prog 119 #[.agg #[.func (.func g) #[] lb, .func sfn sa sb], .int .i64 a, .int .i64 b] W fun e w' =>
      e = .returned (.tuple #[.int .i64 (choosePivot lt d a b).1, .int .i64 (hintCode (choosePivot lt d a b).2)]) ∧ ∃ n os, w' = grow (Sort.ahead W n) os := Any.choosePivot_func Tryz.laysGg29 enc lt g lb sfn sa sb blk off a b W d eg hless hH hab hb hsz
def Tryz.laysGg32_ren : Go.Shelf.Ren := ⟨fun | 32 => 122 | n => n, fun | 44 => 180 | 3 => 3 | 0 => 0 | 37 => 174 | 4 => 4 | 26 => 144 | n => n, fun | n => n⟩
theorem Tryz.laysGg32 : Go.Proofs.LaysGg.n32 Tryz.prog Tryz.laysGg32_ren := {
  mixed := by kernel_rfl
  f32 := Tryz.func122.trans (congrArg some (by kernel_rfl))
  t0 := Tryz.underlying0
  a0 := Tryz.isAgg0
  z0 := Tryz.sizeOf0
  v0 := Tryz.zeroValue0
  i0 := by kernel_rfl
  t3 := Tryz.underlying3
  a3 := Tryz.isAgg3
  z3 := Tryz.sizeOf3
  v3 := Tryz.zeroValue3
  i3 := by kernel_rfl
  t4 := Tryz.underlying4
  a4 := Tryz.isAgg4
  z4 := Tryz.sizeOf4
  v4 := Tryz.zeroValue4
  i4 := by kernel_rfl
  t26 := Tryz.underlying144
  a26 := Tryz.isAgg144
  z26 := Tryz.sizeOf144
  v26 := Tryz.zeroValue144
  i26 := by kernel_rfl
  t37 := Tryz.underlying174
  a37 := Tryz.isAgg174
  z37 := Tryz.sizeOf174
  v37 := Tryz.zeroValue174
  i37 := by kernel_rfl
  t44 := Tryz.underlying180
  a44 := Tryz.isAgg180
  z44 := Tryz.sizeOf180
  v44 := Tryz.zeroValue180
  i44 := by kernel_rfl }
open Go.RowKit Go.Lib Go.Sort in
theorem Tryz.partitionEqual_func_one {α : Type} [Inhabited α] (enc : α → Value) (lt : α → α → Bool) (g : Nat) (lb : Array Value) (sf : Nat) (sb : Array Value) (blk off a b pivot : Nat) (d : Array α) (W : World) (eg : ∀ args w, (callFunc g args).run Tryz.prog w = .ok (.enter g args) w) (hless : LessReads Tryz.prog g lb enc lt blk off d.size W) (hswap : SwapSwaps Tryz.prog sf sb enc blk off d.size) (hH : Holds enc W blk off d) (hblk : blk < W.heap.size) (hap : a ≤ pivot) (hpb : pivot < b) (hb : b ≤ d.size) (hsz : d.size < 4611686018427387904) :
    Calls Tryz.prog 122 #[.agg #[.func (.func g) #[] lb, .func (.func sf) #[] sb], .int .i64 a, .int .i64 b, .int .i64 pivot] W fun e w' =>
      e = .returned (.int .i64 (Sort.partitionEqual lt d a b pivot).1) ∧ ∃ n, w' = (putRow enc (W.alloc (.cells #[.func (.func g) #[] lb, .func (.func sf) #[] sb] 180)) blk off (Sort.partitionEqual lt d a b pivot).2).drewN n := Any.partitionEqual_func_one Tryz.laysGg32 enc lt g lb sf sb blk off a b pivot d W eg hless hswap hH hblk hap hpb hb hsz
def Tryz.laysGg33_ren : Go.Shelf.Ren := ⟨fun | 33 => 123 | n => n, fun | 44 => 180 | 3 => 3 | 4 => 4 | 0 => 0 | 37 => 174 | 26 => 144 | n => n, fun | n => n⟩
theorem Tryz.laysGg33 : Go.Proofs.LaysGg.n33 Tryz.prog Tryz.laysGg33_ren := {
  mixed := by kernel_rfl
  f33 := Tryz.func123.trans (congrArg some (by kernel_rfl))
  t0 := Tryz.underlying0
  a0 := Tryz.isAgg0
  z0 := Tryz.sizeOf0
  v0 := Tryz.zeroValue0
  i0 := by kernel_rfl
  t3 := Tryz.underlying3
  a3 := Tryz.isAgg3
  z3 := Tryz.sizeOf3
  v3 := Tryz.zeroValue3
  i3 := by kernel_rfl
  t4 := Tryz.underlying4
  a4 := Tryz.isAgg4
  z4 := Tryz.sizeOf4
  v4 := Tryz.zeroValue4
  i4 := by kernel_rfl
  t26 := Tryz.underlying144
  a26 := Tryz.isAgg144
  z26 := Tryz.sizeOf144
  v26 := Tryz.zeroValue144
  i26 := by kernel_rfl
  t37 := Tryz.underlying174
  a37 := Tryz.isAgg174
  z37 := Tryz.sizeOf174
  v37 := Tryz.zeroValue174
  i37 := by kernel_rfl
  t44 := Tryz.underlying180
  a44 := Tryz.isAgg180
  z44 := Tryz.sizeOf180
  v44 := Tryz.zeroValue180
  i44 := by kernel_rfl }
open Go.RowKit Go.Lib Go.Sort in
theorem Tryz.partition_func_one {α : Type} [Inhabited α] (enc : α → Value) (lt : α → α → Bool) (g : Nat) (lb : Array Value) (sf : Nat) (sb : Array Value) (blk off a b pivot : Nat) (d : Array α) (W : World) (eg : ∀ args w, (callFunc g args).run Tryz.prog w = .ok (.enter g args) w) (hless : LessReads Tryz.prog g lb enc lt blk off d.size W) (hswap : SwapSwaps Tryz.prog sf sb enc blk off d.size) (hH : Holds enc W blk off d) (hblk : blk < W.heap.size) (hap : a ≤ pivot) (hpb : pivot < b) (hb : b ≤ d.size) (hsz : d.size < 4611686018427387904) :
    Calls Tryz.prog 123 #[.agg #[.func (.func g) #[] lb, .func (.func sf) #[] sb], .int .i64 a, .int .i64 b, .int .i64 pivot] W fun e w' =>
      e = .returned (.tuple #[.int .i64 (Sort.partition lt d a b pivot).1, .bool (Sort.partition lt d a b pivot).2.1]) ∧ ∃ n, w' = (putRow enc (W.alloc (.cells #[.func (.func g) #[] lb, .func (.func sf) #[] sb] 180)) blk off (Sort.partition lt d a b pivot).2.2).drewN n := Any.partition_func_one Tryz.laysGg33 enc lt g lb sf sb blk off a b pivot d W eg hless hswap hH hblk hap hpb hb hsz
open Go.RowKit Go.Lib Go.Sort in
/-- sort.partitionEqual_func, from a world to a 'sortWorld' of it. (LAID: no walk: one application.) -/
theorem Tryz.partitionEqual_func_w {α : Type} [Inhabited α] (enc : α → Value) (lt : α → α → Bool) (g : Nat) (lb : Array Value) (sf : Nat) (sb : Array Value) (blk off a b pivot : Nat) (d : Array α) (W : World) (eg : ∀ args w, (callFunc g args).run Tryz.prog w = .ok (.enter g args) w) (hless : LessReads Tryz.prog g lb enc lt blk off d.size W) (hswap : SwapSwaps Tryz.prog sf sb enc blk off d.size) (hH : Holds enc W blk off d) (hblk : blk < W.heap.size) (hap : a ≤ pivot) (hpb : pivot < b) (hb : b ≤ d.size) (hsz : d.size < 4611686018427387904) :
    Calls Tryz.prog 122 #[.agg #[.func (.func g) #[] lb, .func (.func sf) #[] sb], .int .i64 a, .int .i64 b, .int .i64 pivot] W fun e w' => e = .returned (.int .i64 (Sort.partitionEqual lt d a b pivot).1) ∧ ∃ n os, w' = sortWorld enc W blk off n (Sort.partitionEqual lt d a b pivot).2 os := Any.partitionEqual_func_w Tryz.laysGg32 enc lt g lb sf sb blk off a b pivot d W eg hless hswap hH hblk hap hpb hb hsz
open Go.RowKit Go.Lib Go.Sort in
/-- sort.partition_func, from a world to a 'sortWorld' of it. (LAID: no walk: one application.) -/
theorem Tryz.partition_func_w {α : Type} [Inhabited α] (enc : α → Value) (lt : α → α → Bool) (g : Nat) (lb : Array Value) (sf : Nat) (sb : Array Value) (blk off a b pivot : Nat) (d : Array α) (W : World) (eg : ∀ args w, (callFunc g args).run Tryz.prog w = .ok (.enter g args) w) (hless : LessReads Tryz.prog g lb enc lt blk off d.size W) (hswap : SwapSwaps Tryz.prog sf sb enc blk off d.size) (hH : Holds enc W blk off d) (hblk : blk < W.heap.size) (hap : a ≤ pivot) (hpb : pivot < b) (hb : b ≤ d.size) (hsz : d.size < 4611686018427387904) :
    Calls Tryz.prog 123 #[.agg #[.func (.func g) #[] lb, .func (.func sf) #[] sb], .int .i64 a, .int .i64 b, .int .i64 pivot] W fun e w' => e = .returned (.tuple #[.int .i64 (Sort.partition lt d a b pivot).1, .bool (Sort.partition lt d a b pivot).2.1]) ∧ ∃ n os, w' = sortWorld enc W blk off n (Sort.partition lt d a b pivot).2.2 os := Any.partition_func_w Tryz.laysGg33 enc lt g lb sf sb blk off a b pivot d W eg hless hswap hH hblk hap hpb hb hsz
open Go.RowKit Go.Lib Go.Sort in
theorem Tryz.pdqsort_func_all {α : Type} [Inhabited α] (enc : α → Value) (lt : α → α → Bool) (hO : SWO lt) (g : Nat) (lb : Array Value) (sf : Nat) (sb : Array Value) (eg : ∀ args w, (callFunc g args).run Tryz.prog w = .ok (.enter g args) w) :
    ∀ (N blk off a b limit : Nat) (d : Array α) (w : World), b - a < N → LessReads Tryz.prog g lb enc lt blk off d.size w → SwapSwaps Tryz.prog sf sb enc blk off d.size → Holds enc w blk off d → blk < w.heap.size → a ≤ b → b ≤ d.size → d.size < 4611686018427387904 → limit < 4611686018427387904 → Below lt a b d →
    Calls Tryz.prog 91 #[.agg #[.func (.func g) #[] lb, .func (.func sf) #[] sb], .int .i64 a, .int .i64 b, .int .i64 limit] w fun e w' => e = .returned (.tuple #[]) ∧ At enc w blk off (pdq lt d a b limit true true) w' := Any.pdqsort_func_all Tryz.laysGg14 enc lt hO g lb sf sb eg
def Tryz.laysGt15_ren : Go.Shelf.Ren := ⟨fun | 15 => 104 | 29 => 116 | 30 => 127 | 42 => 154 | 49 => 173 | n => n, fun | 42 => 180 | 3 => 3 | 0 => 0 | 4 => 4 | 26 => 144 | 38 => 174 | 47 => 97 | n => n, fun | n => n⟩
theorem Tryz.laysGt15 : Go.Proofs.LaysGt.n15 Tryz.prog Tryz.laysGt15_ren := {
  mixed := by kernel_rfl
  f15 := Tryz.func104.trans (congrArg some (by kernel_rfl))
  f29 := Tryz.func116.trans (congrArg some (by kernel_rfl))
  f30 := Tryz.func127.trans (congrArg some (by kernel_rfl))
  f42 := Tryz.func154.trans (congrArg some (by kernel_rfl))
  f49 := Tryz.func173.trans (congrArg some (by kernel_rfl))
  t0 := Tryz.underlying0
  a0 := Tryz.isAgg0
  z0 := Tryz.sizeOf0
  v0 := Tryz.zeroValue0
  i0 := by kernel_rfl
  t3 := Tryz.underlying3
  a3 := Tryz.isAgg3
  z3 := Tryz.sizeOf3
  v3 := Tryz.zeroValue3
  i3 := by kernel_rfl
  t4 := Tryz.underlying4
  a4 := Tryz.isAgg4
  z4 := Tryz.sizeOf4
  v4 := Tryz.zeroValue4
  i4 := by kernel_rfl
  t26 := Tryz.underlying144
  a26 := Tryz.isAgg144
  z26 := Tryz.sizeOf144
  v26 := Tryz.zeroValue144
  i26 := by kernel_rfl
  t38 := Tryz.underlying174
  a38 := Tryz.isAgg174
  z38 := Tryz.sizeOf174
  v38 := Tryz.zeroValue174
  i38 := by kernel_rfl
  t42 := Tryz.underlying180
  a42 := Tryz.isAgg180
  z42 := Tryz.sizeOf180
  v42 := Tryz.zeroValue180
  i42 := by kernel_rfl
  t47 := Tryz.underlying97
  a47 := Tryz.isAgg97
  z47 := Tryz.sizeOf97
  v47 := Tryz.zeroValue97
  i47 := by kernel_rfl }
open Go.RowKit Go.Lib Go.Sort in
theorem Tryz.stable_func_under20 {α : Type} [Inhabited α] (enc : α → Value) (lt : α → α → Bool) (g : Nat) (lb : Array Value) (sf : Nat) (sb : Array Value) (blk off : Nat) (d : Array α) (W : World) (eg : ∀ args w, (callFunc g args).run Tryz.prog w = .ok (.enter g args) w) (hless : LessReads Tryz.prog g lb enc lt blk off d.size W) (hswap : SwapSwaps Tryz.prog sf sb enc blk off d.size) (hH : Holds enc W blk off d) (hblk : blk < W.heap.size) (h20 : d.size < 20) :
    Calls Tryz.prog 104 #[.agg #[.func (.func g) #[] lb, .func (.func sf) #[] sb], .int .i64 d.size] W fun e w' => e = .returned (.tuple #[]) ∧ ∃ n os, w' = sortWorld enc W blk off n (Sort.insertionSort lt d 0 d.size) os := Any.stable_func_under20 Tryz.laysGt15 enc lt g lb sf sb blk off d W eg hless hswap hH hblk h20
open Go.RowKit Go.Lib Go.Sort in
theorem Tryz.stable_func_at20 {α : Type} [Inhabited α] (enc : α → Value) (lt : α → α → Bool) (g : Nat) (lb : Array Value) (sf : Nat) (sb : Array Value) (blk off : Nat) (d : Array α) (W : World) (eg : ∀ args w, (callFunc g args).run Tryz.prog w = .ok (.enter g args) w) (hless : LessReads Tryz.prog g lb enc lt blk off d.size W) (hswap : SwapSwaps Tryz.prog sf sb enc blk off d.size) (hH : Holds enc W blk off d) (hblk : blk < W.heap.size) (h20 : d.size = 20) :
    Calls Tryz.prog 104 #[.agg #[.func (.func g) #[] lb, .func (.func sf) #[] sb], .int .i64 d.size] W fun e w' => e = .returned (.tuple #[]) ∧ ∃ n os, w' = sortWorld enc W blk off n (Sort.insertionSort lt d 0 d.size) os := Any.stable_func_at20 Tryz.laysGt15 enc lt g lb sf sb blk off d W eg hless hswap hH hblk h20
open Go.RowKit Go.Lib Go.Sort in
/-- **sort.stable_func AT ONE BLOCK (20 elements or fewer): IT IS THE INSERTION SORT: THE STABLE ORDER.** (LAID: no walk: one application.) -/
theorem Tryz.stable_func_small {α : Type} [Inhabited α] (enc : α → Value) (lt : α → α → Bool) (g : Nat) (lb : Array Value) (sf : Nat) (sb : Array Value) (blk off : Nat) (d : Array α) (W : World) (eg : ∀ args w, (callFunc g args).run Tryz.prog w = .ok (.enter g args) w) (hless : LessReads Tryz.prog g lb enc lt blk off d.size W) (hswap : SwapSwaps Tryz.prog sf sb enc blk off d.size) (hH : Holds enc W blk off d) (hblk : blk < W.heap.size) (h20 : d.size ≤ 20) :
    Calls Tryz.prog 104 #[.agg #[.func (.func g) #[] lb, .func (.func sf) #[] sb], .int .i64 d.size] W fun e w' => e = .returned (.tuple #[]) ∧ ∃ n os, w' = sortWorld enc W blk off n (Sort.insertionSort lt d 0 d.size) os := Any.stable_func_small Tryz.laysGt15 enc lt g lb sf sb blk off d W eg hless hswap hH hblk h20
open Go.RowKit Go.Lib Go.Sort in
/-- sort.stable_func at no element or one: nothing is asked of 'less' or of 'swap'. (LAID: no walk: one application.) -/
theorem Tryz.stable_func_tiny {α : Type} [Inhabited α] (lf : Fn) (la lb : Array Value) (f : Nat) (sb : Array Value) (n : Nat) (hn : n ≤ 1) (W : World) :
    Calls Tryz.prog 104 #[.agg #[.func lf la lb, .func (.func f) #[] sb], .int .i64 n] W fun e w' => e = .returned (.tuple #[]) ∧ ∃ os, w' = grow W os := Any.stable_func_tiny Tryz.laysGt15 lf la lb f sb n hn W
def Tryz.laysGt8_ren : Go.Shelf.Ren := ⟨fun | 8 => 85 | 13 => 87 | 14 => 88 | 16 => 89 | 15 => 104 | 29 => 116 | 30 => 127 | 42 => 154 | 49 => 173 | n => n, fun | 20 => 20 | 26 => 144 | 36 => 172 | 0 => 0 | 38 => 174 | 42 => 180 | 3 => 3 | 4 => 4 | 47 => 97 | 17 => 17 | 33 => 169 | 34 => 170 | 89 => 314 | 12 => 12 | 56 => 201 | 82 => 307 | 5 => 5 | 83 => 308 | 84 => 309 | 85 => 310 | 86 => 311 | 87 => 312 | n => n, fun | n => n⟩
theorem Tryz.laysGt8 : Go.Proofs.LaysGt.n8 Tryz.prog Tryz.laysGt8_ren := {
  mixed := by kernel_rfl
  f8 := Tryz.func85.trans (congrArg some (by kernel_rfl))
  f13 := Tryz.func87.trans (congrArg some (by kernel_rfl))
  f14 := Tryz.func88.trans (congrArg some (by kernel_rfl))
  f15 := Tryz.func104.trans (congrArg some (by kernel_rfl))
  f16 := Tryz.func89.trans (congrArg some (by kernel_rfl))
  f29 := Tryz.func116.trans (congrArg some (by kernel_rfl))
  f30 := Tryz.func127.trans (congrArg some (by kernel_rfl))
  f42 := Tryz.func154.trans (congrArg some (by kernel_rfl))
  f49 := Tryz.func173.trans (congrArg some (by kernel_rfl))
  t0 := Tryz.underlying0
  a0 := Tryz.isAgg0
  z0 := Tryz.sizeOf0
  v0 := Tryz.zeroValue0
  i0 := by kernel_rfl
  t3 := Tryz.underlying3
  a3 := Tryz.isAgg3
  z3 := Tryz.sizeOf3
  v3 := Tryz.zeroValue3
  i3 := by kernel_rfl
  t4 := Tryz.underlying4
  a4 := Tryz.isAgg4
  z4 := Tryz.sizeOf4
  v4 := Tryz.zeroValue4
  i4 := by kernel_rfl
  t5 := Tryz.underlying5
  a5 := Tryz.isAgg5
  z5 := Tryz.sizeOf5
  v5 := Tryz.zeroValue5
  i5 := by kernel_rfl
  t12 := Tryz.underlying12
  a12 := Tryz.isAgg12
  z12 := Tryz.sizeOf12
  v12 := Tryz.zeroValue12
  i12 := by kernel_rfl
  t17 := Tryz.underlying17
  a17 := Tryz.isAgg17
  z17 := Tryz.sizeOf17
  v17 := Tryz.zeroValue17
  i17 := by kernel_rfl
  t20 := Tryz.underlying20
  a20 := Tryz.isAgg20
  z20 := Tryz.sizeOf20
  v20 := Tryz.zeroValue20
  i20 := by kernel_rfl
  t26 := Tryz.underlying144
  a26 := Tryz.isAgg144
  z26 := Tryz.sizeOf144
  v26 := Tryz.zeroValue144
  i26 := by kernel_rfl
  t33 := Tryz.underlying169
  a33 := Tryz.isAgg169
  z33 := Tryz.sizeOf169
  v33 := Tryz.zeroValue169
  i33 := by kernel_rfl
  t34 := Tryz.underlying170
  a34 := Tryz.isAgg170
  z34 := Tryz.sizeOf170
  v34 := Tryz.zeroValue170
  i34 := by kernel_rfl
  t36 := Tryz.underlying172
  a36 := Tryz.isAgg172
  z36 := Tryz.sizeOf172
  v36 := Tryz.zeroValue172
  i36 := by kernel_rfl
  t38 := Tryz.underlying174
  a38 := Tryz.isAgg174
  z38 := Tryz.sizeOf174
  v38 := Tryz.zeroValue174
  i38 := by kernel_rfl
  t42 := Tryz.underlying180
  a42 := Tryz.isAgg180
  z42 := Tryz.sizeOf180
  v42 := Tryz.zeroValue180
  i42 := by kernel_rfl
  t47 := Tryz.underlying97
  a47 := Tryz.isAgg97
  z47 := Tryz.sizeOf97
  v47 := Tryz.zeroValue97
  i47 := by kernel_rfl
  t56 := Tryz.underlying201
  a56 := Tryz.isAgg201
  z56 := Tryz.sizeOf201
  v56 := Tryz.zeroValue201
  i56 := by kernel_rfl
  t82 := Tryz.underlying307
  a82 := Tryz.isAgg307
  z82 := Tryz.sizeOf307
  v82 := Tryz.zeroValue307
  i82 := by kernel_rfl
  t83 := Tryz.underlying308
  a83 := Tryz.isAgg308
  z83 := Tryz.sizeOf308
  v83 := Tryz.zeroValue308
  i83 := by kernel_rfl
  t84 := Tryz.underlying309
  a84 := Tryz.isAgg309
  z84 := Tryz.sizeOf309
  v84 := Tryz.zeroValue309
  i84 := by kernel_rfl
  t85 := Tryz.underlying310
  a85 := Tryz.isAgg310
  z85 := Tryz.sizeOf310
  v85 := Tryz.zeroValue310
  i85 := by kernel_rfl
  t86 := Tryz.underlying311
  a86 := Tryz.isAgg311
  z86 := Tryz.sizeOf311
  v86 := Tryz.zeroValue311
  i86 := by kernel_rfl
  t87 := Tryz.underlying312
  a87 := Tryz.isAgg312
  z87 := Tryz.sizeOf312
  v87 := Tryz.zeroValue312
  i87 := by kernel_rfl
  t89 := Tryz.underlying314
  a89 := Tryz.isAgg314
  z89 := Tryz.sizeOf314
  v89 := Tryz.zeroValue314
  i89 := by kernel_rfl }
def Tryz.laysGg36_ren : Go.Shelf.Ren := ⟨fun | 36 => 130 | n => n, fun | 66 => 264 | 51 => 26 | 0 => 0 | 60 => 233 | 41 => 97 | n => n, fun | n => n⟩
theorem Tryz.laysGg36 : Go.Proofs.LaysGg.n36 Tryz.prog Tryz.laysGg36_ren := {
  mixed := by kernel_rfl
  f36 := Tryz.func130.trans (congrArg some (by kernel_rfl))
  t0 := Tryz.underlying0
  a0 := Tryz.isAgg0
  z0 := Tryz.sizeOf0
  v0 := Tryz.zeroValue0
  i0 := by kernel_rfl
  t41 := Tryz.underlying97
  a41 := Tryz.isAgg97
  z41 := Tryz.sizeOf97
  v41 := Tryz.zeroValue97
  i41 := by kernel_rfl
  t51 := Tryz.underlying26
  a51 := Tryz.isAgg26
  z51 := Tryz.sizeOf26
  v51 := Tryz.zeroValue26
  i51 := by kernel_rfl
  t60 := Tryz.underlying233
  a60 := Tryz.isAgg233
  z60 := Tryz.sizeOf233
  v60 := Tryz.zeroValue233
  i60 := by kernel_rfl
  t66 := Tryz.underlying264
  a66 := Tryz.isAgg264
  z66 := Tryz.sizeOf264
  v66 := Tryz.zeroValue264
  i66 := by kernel_rfl }
open Go.RowKit Go.Lib Go.Sort in
/-- '*r ^= *r << 13; *r ^= *r >> 7; *r ^= *r << 17; return uint64(*r)': the cell holds 'xorNextN X' and that is handed back; three draws; nothing else turns. (LAID: no walk: one application.) -/
theorem Tryz.xorshift_Next (rb ro X : Nat) (hX : X < 18446744073709551616) (w : World) (hc : w.cell? ⟨rb, ro, none⟩ = some (.int .u64 X)) (hf : w.frozen? ⟨rb, ro, none⟩ = false) :
    Calls Tryz.prog 130 #[.pointer (some ⟨rb, ro, none⟩)] w fun e w' => e = .returned (.int .u64 (xorNextN X : Nat)) ∧ w' = (w.setCell ⟨rb, ro, none⟩ (.int .u64 (xorNextN X : Nat))).drewN 3 := Any.xorshift_Next Tryz.laysGg36 rb ro X hX w hc hf
def Tryz.laysGg35_ren : Go.Shelf.Ren := ⟨fun | 35 => 129 | 13 => 90 | 24 => 114 | 25 => 115 | n => n, fun | 3 => 3 | 41 => 97 | 49 => 201 | 51 => 26 | 4 => 4 | 5 => 5 | 9 => 9 | n => n, fun | n => n⟩
theorem Tryz.laysGg35 : Go.Proofs.LaysGg.n35 Tryz.prog Tryz.laysGg35_ren := {
  mixed := by kernel_rfl
  f13 := Tryz.func90.trans (congrArg some (by kernel_rfl))
  f24 := Tryz.func114.trans (congrArg some (by kernel_rfl))
  f25 := Tryz.func115.trans (congrArg some (by kernel_rfl))
  f35 := Tryz.func129.trans (congrArg some (by kernel_rfl))
  t3 := Tryz.underlying3
  a3 := Tryz.isAgg3
  z3 := Tryz.sizeOf3
  v3 := Tryz.zeroValue3
  i3 := by kernel_rfl
  t4 := Tryz.underlying4
  a4 := Tryz.isAgg4
  z4 := Tryz.sizeOf4
  v4 := Tryz.zeroValue4
  i4 := by kernel_rfl
  t5 := Tryz.underlying5
  a5 := Tryz.isAgg5
  z5 := Tryz.sizeOf5
  v5 := Tryz.zeroValue5
  i5 := by kernel_rfl
  t9 := Tryz.underlying9
  a9 := Tryz.isAgg9
  z9 := Tryz.sizeOf9
  v9 := Tryz.zeroValue9
  i9 := by kernel_rfl
  t41 := Tryz.underlying97
  a41 := Tryz.isAgg97
  z41 := Tryz.sizeOf97
  v41 := Tryz.zeroValue97
  i41 := by kernel_rfl
  t49 := Tryz.underlying201
  a49 := Tryz.isAgg201
  z49 := Tryz.sizeOf201
  v49 := Tryz.zeroValue201
  i49 := by kernel_rfl
  t51 := Tryz.underlying26
  a51 := Tryz.isAgg26
  z51 := Tryz.sizeOf26
  v51 := Tryz.zeroValue26
  i51 := by kernel_rfl }
open Go.RowKit Go.Lib Go.Sort in
/-- 'return 1 << bits.Len(uint(length))'. (LAID: no walk: one application.) -/
theorem Tryz.nextPowerOfTwo (n : Nat) (hn : n < 4611686018427387904) (w : World) :
    Calls Tryz.prog 129 #[.int .i64 n] w fun e w' => e = .returned (.int .u64 ((1 <<< bitsLen n : Nat) : Int)) ∧ w' = w := Any.nextPowerOfTwo Tryz.laysGg35 n hn w
def Tryz.laysGg34_ren : Go.Shelf.Ren := ⟨fun | 34 => 128 | n => n, fun | 44 => 180 | 3 => 3 | 0 => 0 | 4 => 4 | 26 => 144 | 37 => 174 | n => n, fun | n => n⟩
theorem Tryz.laysGg34 : Go.Proofs.LaysGg.n34 Tryz.prog Tryz.laysGg34_ren := {
  mixed := by kernel_rfl
  f34 := Tryz.func128.trans (congrArg some (by kernel_rfl))
  t0 := Tryz.underlying0
  a0 := Tryz.isAgg0
  z0 := Tryz.sizeOf0
  v0 := Tryz.zeroValue0
  i0 := by kernel_rfl
  t3 := Tryz.underlying3
  a3 := Tryz.isAgg3
  z3 := Tryz.sizeOf3
  v3 := Tryz.zeroValue3
  i3 := by kernel_rfl
  t4 := Tryz.underlying4
  a4 := Tryz.isAgg4
  z4 := Tryz.sizeOf4
  v4 := Tryz.zeroValue4
  i4 := by kernel_rfl
  t26 := Tryz.underlying144
  a26 := Tryz.isAgg144
  z26 := Tryz.sizeOf144
  v26 := Tryz.zeroValue144
  i26 := by kernel_rfl
  t37 := Tryz.underlying174
  a37 := Tryz.isAgg174
  z37 := Tryz.sizeOf174
  v37 := Tryz.zeroValue174
  i37 := by kernel_rfl
  t44 := Tryz.underlying180
  a44 := Tryz.isAgg180
  z44 := Tryz.sizeOf180
  v44 := Tryz.zeroValue180
  i44 := by kernel_rfl }
open Go.RowKit Go.Lib Go.Sort in
theorem Tryz.siftDown_func_one {α : Type} [Inhabited α] (enc : α → Value) (lt : α → α → Bool) (g : Nat) (lb : Array Value) (sf : Nat) (sb : Array Value) (blk off lo hi first : Nat) (d : Array α) (w : World) (eg : ∀ args w, (callFunc g args).run Tryz.prog w = .ok (.enter g args) w) (hless : LessReads Tryz.prog g lb enc lt blk off d.size w) (hswap : SwapSwaps Tryz.prog sf sb enc blk off d.size) (hH : Holds enc w blk off d) (hblk : blk < w.heap.size) (hlo : lo ≤ hi) (hb : first + hi ≤ d.size) (hsz : d.size < 4611686018427387904) :
    Calls Tryz.prog 128 #[.agg #[.func (.func g) #[] lb, .func (.func sf) #[] sb], .int .i64 lo, .int .i64 hi, .int .i64 first] w fun e w' =>
      e = .returned (.tuple #[]) ∧ ∃ n, w' = putRow enc (Sort.ahead (w.alloc (.cells #[.func (.func g) #[] lb, .func (.func sf) #[] sb] 180)) n) blk off (siftDown lt hi first lo d) := Any.siftDown_func_one Tryz.laysGg34 enc lt g lb sf sb blk off lo hi first d w eg hless hswap hH hblk hlo hb hsz
open Go.RowKit Go.Lib Go.Sort in
/-- sort.siftDown_func, from a world to a 'sortWorld' of it. (LAID: no walk: one application.) -/
theorem Tryz.siftDown_func_w {α : Type} [Inhabited α] (enc : α → Value) (lt : α → α → Bool) (g : Nat) (lb : Array Value) (sf : Nat) (sb : Array Value) (blk off lo hi first : Nat) (d : Array α) (w : World) (eg : ∀ args w, (callFunc g args).run Tryz.prog w = .ok (.enter g args) w) (hless : LessReads Tryz.prog g lb enc lt blk off d.size w) (hswap : SwapSwaps Tryz.prog sf sb enc blk off d.size) (hH : Holds enc w blk off d) (hblk : blk < w.heap.size) (hlo : lo ≤ hi) (hb : first + hi ≤ d.size) (hsz : d.size < 4611686018427387904) :
    Calls Tryz.prog 128 #[.agg #[.func (.func g) #[] lb, .func (.func sf) #[] sb], .int .i64 lo, .int .i64 hi, .int .i64 first] w fun e w' => e = .returned (.tuple #[]) ∧ ∃ n os, w' = sortWorld enc w blk off n (siftDown lt hi first lo d) os := Any.siftDown_func_w Tryz.laysGg34 enc lt g lb sf sb blk off lo hi first d w eg hless hswap hH hblk hlo hb hsz
def Tryz.laysGg27_ren : Go.Shelf.Ren := ⟨fun | 27 => 117 | 34 => 128 | n => n, fun | 44 => 180 | 3 => 3 | 0 => 0 | 4 => 4 | 37 => 174 | 26 => 144 | n => n, fun | n => n⟩
theorem Tryz.laysGg27 : Go.Proofs.LaysGg.n27 Tryz.prog Tryz.laysGg27_ren := {
  mixed := by kernel_rfl
  f27 := Tryz.func117.trans (congrArg some (by kernel_rfl))
  f34 := Tryz.func128.trans (congrArg some (by kernel_rfl))
  t0 := Tryz.underlying0
  a0 := Tryz.isAgg0
  z0 := Tryz.sizeOf0
  v0 := Tryz.zeroValue0
  i0 := by kernel_rfl
  t3 := Tryz.underlying3
  a3 := Tryz.isAgg3
  z3 := Tryz.sizeOf3
  v3 := Tryz.zeroValue3
  i3 := by kernel_rfl
  t4 := Tryz.underlying4
  a4 := Tryz.isAgg4
  z4 := Tryz.sizeOf4
  v4 := Tryz.zeroValue4
  i4 := by kernel_rfl
  t26 := Tryz.underlying144
  a26 := Tryz.isAgg144
  z26 := Tryz.sizeOf144
  v26 := Tryz.zeroValue144
  i26 := by kernel_rfl
  t37 := Tryz.underlying174
  a37 := Tryz.isAgg174
  z37 := Tryz.sizeOf174
  v37 := Tryz.zeroValue174
  i37 := by kernel_rfl
  t44 := Tryz.underlying180
  a44 := Tryz.isAgg180
  z44 := Tryz.sizeOf180
  v44 := Tryz.zeroValue180
  i44 := by kernel_rfl }
open Go.RowKit Go.Lib Go.Sort in
theorem Tryz.heapSort_func_w {α : Type} [Inhabited α] (enc : α → Value) (lt : α → α → Bool) (g : Nat) (lb : Array Value) (sf : Nat) (sb : Array Value) (blk off a b : Nat) (d : Array α) (w : World) (eg : ∀ args w, (callFunc g args).run Tryz.prog w = .ok (.enter g args) w) (hless : LessReads Tryz.prog g lb enc lt blk off d.size w) (hswap : SwapSwaps Tryz.prog sf sb enc blk off d.size) (hH : Holds enc w blk off d) (hblk : blk < w.heap.size) (hab : a ≤ b) (hb : b ≤ d.size) (hsz : d.size < 4611686018427387904) :
    Calls Tryz.prog 117 #[.agg #[.func (.func g) #[] lb, .func (.func sf) #[] sb], .int .i64 a, .int .i64 b] w fun e w' => e = .returned (.tuple #[]) ∧ ∃ n os, w' = sortWorld enc w blk off n (heapSort lt d a b) os := Any.heapSort_func_w Tryz.laysGg27 enc lt g lb sf sb blk off a b d w eg hless hswap hH hblk hab hb hsz
def Tryz.laysGg31_ren : Go.Shelf.Ren := ⟨fun | 31 => 121 | n => n, fun | 44 => 180 | 3 => 3 | 4 => 4 | 0 => 0 | 26 => 144 | 37 => 174 | n => n, fun | n => n⟩
theorem Tryz.laysGg31 : Go.Proofs.LaysGg.n31 Tryz.prog Tryz.laysGg31_ren := {
  mixed := by kernel_rfl
  f31 := Tryz.func121.trans (congrArg some (by kernel_rfl))
  t0 := Tryz.underlying0
  a0 := Tryz.isAgg0
  z0 := Tryz.sizeOf0
  v0 := Tryz.zeroValue0
  i0 := by kernel_rfl
  t3 := Tryz.underlying3
  a3 := Tryz.isAgg3
  z3 := Tryz.sizeOf3
  v3 := Tryz.zeroValue3
  i3 := by kernel_rfl
  t4 := Tryz.underlying4
  a4 := Tryz.isAgg4
  z4 := Tryz.sizeOf4
  v4 := Tryz.zeroValue4
  i4 := by kernel_rfl
  t26 := Tryz.underlying144
  a26 := Tryz.isAgg144
  z26 := Tryz.sizeOf144
  v26 := Tryz.zeroValue144
  i26 := by kernel_rfl
  t37 := Tryz.underlying174
  a37 := Tryz.isAgg174
  z37 := Tryz.sizeOf174
  v37 := Tryz.zeroValue174
  i37 := by kernel_rfl
  t44 := Tryz.underlying180
  a44 := Tryz.isAgg180
  z44 := Tryz.sizeOf180
  v44 := Tryz.zeroValue180
  i44 := by kernel_rfl }
open Go.RowKit Go.Lib Go.Sort in
theorem Tryz.partialInsertionSort_func_one {α : Type} [Inhabited α] (enc : α → Value) (lt : α → α → Bool) (g : Nat) (lb : Array Value) (sf : Nat) (sb : Array Value) (blk off a b : Nat) (d : Array α) (w : World) (eg : ∀ args w, (callFunc g args).run Tryz.prog w = .ok (.enter g args) w) (hless : LessReads Tryz.prog g lb enc lt blk off d.size w) (hswap : SwapSwaps Tryz.prog sf sb enc blk off d.size) (hH : Holds enc w blk off d) (hblk : blk < w.heap.size) (hab : a < b) (hb : b ≤ d.size) (hsz : d.size < 4611686018427387904) :
    Calls Tryz.prog 121 #[.agg #[.func (.func g) #[] lb, .func (.func sf) #[] sb], .int .i64 a, .int .i64 b] w fun e w' =>
      e = .returned (.bool (Sort.partialInsertionSort lt d a b).2) ∧ ∃ n, w' = putRow enc (Sort.ahead (w.alloc (.cells #[.func (.func g) #[] lb, .func (.func sf) #[] sb] 180)) n) blk off (Sort.partialInsertionSort lt d a b).1 := Any.partialInsertionSort_func_one Tryz.laysGg31 enc lt g lb sf sb blk off a b d w eg hless hswap hH hblk hab hb hsz
open Go.RowKit Go.Lib Go.Sort in
/-- sort.partialInsertionSort_func, from a world to a 'sortWorld' of it. (LAID: no walk: one application.) -/
theorem Tryz.partialInsertionSort_func_w {α : Type} [Inhabited α] (enc : α → Value) (lt : α → α → Bool) (g : Nat) (lb : Array Value) (sf : Nat) (sb : Array Value) (blk off a b : Nat) (d : Array α) (w : World) (eg : ∀ args w, (callFunc g args).run Tryz.prog w = .ok (.enter g args) w) (hless : LessReads Tryz.prog g lb enc lt blk off d.size w) (hswap : SwapSwaps Tryz.prog sf sb enc blk off d.size) (hH : Holds enc w blk off d) (hblk : blk < w.heap.size) (hab : a < b) (hb : b ≤ d.size) (hsz : d.size < 4611686018427387904) :
    Calls Tryz.prog 121 #[.agg #[.func (.func g) #[] lb, .func (.func sf) #[] sb], .int .i64 a, .int .i64 b] w fun e w' => e = .returned (.bool (Sort.partialInsertionSort lt d a b).2) ∧ ∃ n os, w' = sortWorld enc w blk off n (Sort.partialInsertionSort lt d a b).1 os := Any.partialInsertionSort_func_w Tryz.laysGg31 enc lt g lb sf sb blk off a b d w eg hless hswap hH hblk hab hb hsz
end Go.Proofs
