/-
  FnWrExtract: for every input the law returns true, and its arguments read behind the call as they read before; the variables that the row lists are as the program's text lays them. Conditions: none but the row's own.
-/
import Derived.Test.YtlafdmmjbkdkaaaGreatDoorJPs
import Derived.Test.YtlafdmmjbkdkaaaGreatDoorJLaid
import Derived.Test.YtlafdmmjbkdkaaaGreatDoorCards
import Derived.Test.YtlafdmmjbkdkaaaGreatDoorTie
import Derived.WalkKit
import Derived.ProofKit
import Derived.OpenShut
import Derived.Deep.DeepHandedRow
import Derived.Lib.LaidTab
import Derived.Stop.LaidErr
import Derived.Stop.ErrReads
import Derived.Deep.DeepLaidRun
import Derived.ChangeMaps5
namespace Go.Proofs.YtlafdmmjbkdkaaaGreatDoor.fnWrExtract
open Go.ChangeShapes Go.WideShapes Go.ChangeAt Go.RowKit Go.Joins Go.Deep

theorem own : ownKnob Tryz.prog.godebug = none := by kernel_rfl
theorem laidOut : laidOutB Tryz.prog = true := by kernel_rfl
theorem cellsEs : Tryz.prog.cellsOf 112 = 1 := by kernel_rfl
theorem cellsStr : Tryz.prog.cellsOf 9 = 1 := by kernel_rfl
theorem star : "*" ++ "errors.errorString" = "*errors.errorString" := by decide
theorem rowEs (u : TypeId) (h : Tryz.prog.typeName? 3 u = some "*errors.errorString") : u = 110 :=
  typeName_ptr_named (nm := "errors.errorString") (by rw [star]; kernel_rfl) (by kernel_rfl) (by decide) u (by rw [star]; exact h)
/-- The listed errors: where each lies; none lies where io.EOF does. -/
theorem errs {W : World} (h : laidMetH Tryz.prog Rows.fnWrExtractRow.laid W) : ∃ a0 a1 a2 a3 a4 a5 a6 a7 a8 a9 a10 a11 a12 a13 a14 a15 a16 a18 a19 a20 a21 : Addr, (Ee W 9 a0 ∧ Eh W a0) ∧ (Ee W 8 a1 ∧ Eh W a1) ∧ (Ee W 6 a2 ∧ Eh W a2) ∧ (Ee W 2 a3 ∧ Eh W a3) ∧ (Ee W 7 a4 ∧ Eh W a4) ∧ (Ee W 14 a5 ∧ Eh W a5) ∧ (Ee W 21 a6 ∧ Eh W a6) ∧ (Ee W 18 a7 ∧ Eh W a7) ∧ (Ee W 16 a8 ∧ Eh W a8) ∧ (Ee W 17 a9 ∧ Eh W a9) ∧ (Ee W 13 a10 ∧ Eh W a10) ∧ (Ee W 10 a11 ∧ Eh W a11) ∧ (Ee W 19 a12 ∧ Eh W a12) ∧ (Ee W 11 a13 ∧ Eh W a13) ∧ (Ee W 22 a14 ∧ Eh W a14) ∧ (Ee W 23 a15 ∧ Eh W a15) ∧ (Ee W 24 a16 ∧ Eh W a16) ∧ (Ee W 3 a18 ∧ Eh W a18) ∧ (Ee W 4 a19 ∧ Eh W a19) ∧ (Ee W 5 a20 ∧ Eh W a20) ∧ (Ee W 0 a21 ∧ Eh W a21) ∧ a0 ≠ a3 ∧ a1 ≠ a3 ∧ a2 ≠ a3 ∧ a4 ≠ a3 ∧ a5 ≠ a3 ∧ a6 ≠ a3 ∧ a7 ≠ a3 ∧ a8 ≠ a3 ∧ a9 ≠ a3 ∧ a10 ≠ a3 ∧ a11 ≠ a3 ∧ a12 ≠ a3 ∧ a13 ≠ a3 ∧ a14 ≠ a3 ∧ a15 ≠ a3 ∧ a16 ≠ a3 ∧ a18 ≠ a3 ∧ a19 ≠ a3 ∧ a20 ≠ a3 ∧ a21 ≠ a3 := by
  have h0 : laidMet Tryz.prog [("io.ErrShortWrite", Rows.laid_io_ErrShortWrite), ("io.errInvalidWrite", Rows.laid_io_errInvalidWrite), ("io.ErrShortBuffer", Rows.laid_io_ErrShortBuffer), ("io.EOF", Rows.laid_io_EOF), ("io.ErrUnexpectedEOF", Rows.laid_io_ErrUnexpectedEOF), ("pub-droshky/pub/cbor.ErrIndefiniteLength", Rows.laid_pub_droshky_pub_cbor_ErrIndefiniteLength), ("pub-droshky/pub/cbor.ErrIndefiniteSizeExceeded", Rows.laid_pub_droshky_pub_cbor_ErrIndefiniteSizeExceeded), ("pub-droshky/pub/cbor.ErrNonMinimalInteger", Rows.laid_pub_droshky_pub_cbor_ErrNonMinimalInteger), ("pub-droshky/pub/cbor.ErrFloatNaN", Rows.laid_pub_droshky_pub_cbor_ErrFloatNaN), ("pub-droshky/pub/cbor.ErrFloatInfinity", Rows.laid_pub_droshky_pub_cbor_ErrFloatInfinity), ("pub-droshky/pub/cbor.ErrNarrowFloat", Rows.laid_pub_droshky_pub_cbor_ErrNarrowFloat), ("pub-droshky/pub/varint.ErrOverflow", Rows.laid_pub_droshky_pub_varint_ErrOverflow), ("pub-droshky/pub/varint.ErrUnderflow", Rows.laid_pub_droshky_pub_varint_ErrUnderflow), ("pub-droshky/pub/varint.ErrNotMinimal", Rows.laid_pub_droshky_pub_varint_ErrNotMinimal), ("pub-droshky/pub/multihash.ErrTooShort", Rows.laid_pub_droshky_pub_multihash_ErrTooShort), ("pub-droshky/pub/multihash.ErrVarintBufferShort", Rows.laid_pub_droshky_pub_multihash_ErrVarintBufferShort), ("pub-droshky/pub/multihash.ErrVarintTooLong", Rows.laid_pub_droshky_pub_multihash_ErrVarintTooLong), ("pub-droshky/pub/cid.Undef", Rows.laid_pub_droshky_pub_cid_Undef), ("pub-droshky/pub/util.ErrSectionTooLarge", Rows.laid_pub_droshky_pub_util_ErrSectionTooLarge), ("pub-droshky/pub/util.ErrHeaderTooLarge", Rows.laid_pub_droshky_pub_util_ErrHeaderTooLarge), ("pub-droshky/pub/carv1.errHeader", Rows.laid_pub_droshky_pub_carv1_errHeader), ("pub-droshky/pub/car.ErrAlreadyV1", Rows.laid_pub_droshky_pub_car_ErrAlreadyV1)] W := h
  have g0 : Tryz.prog.globalNamed "io.ErrShortWrite" = some 9 := by kernel_rfl
  obtain ⟨a0, s0, hv0, hc0, hs0, he0⟩ := laid_one h0 g0 (ti := 49) (by kernel_rfl) Tryz.underlying49 rowEs Tryz.underlying110 Tryz.underlying112 rfl rfl Tryz.underlying9 cellsEs cellsStr
  have h1 := h0.tail
  have g1 : Tryz.prog.globalNamed "io.errInvalidWrite" = some 8 := by kernel_rfl
  obtain ⟨a1, s1, hv1, hc1, hs1, he1⟩ := laid_one h1 g1 (ti := 49) (by kernel_rfl) Tryz.underlying49 rowEs Tryz.underlying110 Tryz.underlying112 rfl rfl Tryz.underlying9 cellsEs cellsStr
  have h2 := h1.tail
  have g2 : Tryz.prog.globalNamed "io.ErrShortBuffer" = some 6 := by kernel_rfl
  obtain ⟨a2, s2, hv2, hc2, hs2, he2⟩ := laid_one h2 g2 (ti := 49) (by kernel_rfl) Tryz.underlying49 rowEs Tryz.underlying110 Tryz.underlying112 rfl rfl Tryz.underlying9 cellsEs cellsStr
  have h3 := h2.tail
  have g3 : Tryz.prog.globalNamed "io.EOF" = some 2 := by kernel_rfl
  obtain ⟨a3, s3, hv3, hc3, hs3, he3⟩ := laid_one h3 g3 (ti := 49) (by kernel_rfl) Tryz.underlying49 rowEs Tryz.underlying110 Tryz.underlying112 rfl rfl Tryz.underlying9 cellsEs cellsStr
  have h4 := h3.tail
  have g4 : Tryz.prog.globalNamed "io.ErrUnexpectedEOF" = some 7 := by kernel_rfl
  obtain ⟨a4, s4, hv4, hc4, hs4, he4⟩ := laid_one h4 g4 (ti := 49) (by kernel_rfl) Tryz.underlying49 rowEs Tryz.underlying110 Tryz.underlying112 rfl rfl Tryz.underlying9 cellsEs cellsStr
  have h5 := h4.tail
  have g5 : Tryz.prog.globalNamed "pub-droshky/pub/cbor.ErrIndefiniteLength" = some 14 := by kernel_rfl
  obtain ⟨a5, s5, hv5, hc5, hs5, he5⟩ := laid_one h5 g5 (ti := 49) (by kernel_rfl) Tryz.underlying49 rowEs Tryz.underlying110 Tryz.underlying112 rfl rfl Tryz.underlying9 cellsEs cellsStr
  have h6 := h5.tail
  have g6 : Tryz.prog.globalNamed "pub-droshky/pub/cbor.ErrIndefiniteSizeExceeded" = some 21 := by kernel_rfl
  obtain ⟨a6, s6, hv6, hc6, hs6, he6⟩ := laid_one h6 g6 (ti := 49) (by kernel_rfl) Tryz.underlying49 rowEs Tryz.underlying110 Tryz.underlying112 rfl rfl Tryz.underlying9 cellsEs cellsStr
  have h7 := h6.tail
  have g7 : Tryz.prog.globalNamed "pub-droshky/pub/cbor.ErrNonMinimalInteger" = some 18 := by kernel_rfl
  obtain ⟨a7, s7, hv7, hc7, hs7, he7⟩ := laid_one h7 g7 (ti := 49) (by kernel_rfl) Tryz.underlying49 rowEs Tryz.underlying110 Tryz.underlying112 rfl rfl Tryz.underlying9 cellsEs cellsStr
  have h8 := h7.tail
  have g8 : Tryz.prog.globalNamed "pub-droshky/pub/cbor.ErrFloatNaN" = some 16 := by kernel_rfl
  obtain ⟨a8, s8, hv8, hc8, hs8, he8⟩ := laid_one h8 g8 (ti := 49) (by kernel_rfl) Tryz.underlying49 rowEs Tryz.underlying110 Tryz.underlying112 rfl rfl Tryz.underlying9 cellsEs cellsStr
  have h9 := h8.tail
  have g9 : Tryz.prog.globalNamed "pub-droshky/pub/cbor.ErrFloatInfinity" = some 17 := by kernel_rfl
  obtain ⟨a9, s9, hv9, hc9, hs9, he9⟩ := laid_one h9 g9 (ti := 49) (by kernel_rfl) Tryz.underlying49 rowEs Tryz.underlying110 Tryz.underlying112 rfl rfl Tryz.underlying9 cellsEs cellsStr
  have h10 := h9.tail
  have g10 : Tryz.prog.globalNamed "pub-droshky/pub/cbor.ErrNarrowFloat" = some 13 := by kernel_rfl
  obtain ⟨a10, s10, hv10, hc10, hs10, he10⟩ := laid_one h10 g10 (ti := 49) (by kernel_rfl) Tryz.underlying49 rowEs Tryz.underlying110 Tryz.underlying112 rfl rfl Tryz.underlying9 cellsEs cellsStr
  have h11 := h10.tail
  have g11 : Tryz.prog.globalNamed "pub-droshky/pub/varint.ErrOverflow" = some 10 := by kernel_rfl
  obtain ⟨a11, s11, hv11, hc11, hs11, he11⟩ := laid_one h11 g11 (ti := 49) (by kernel_rfl) Tryz.underlying49 rowEs Tryz.underlying110 Tryz.underlying112 rfl rfl Tryz.underlying9 cellsEs cellsStr
  have h12 := h11.tail
  have g12 : Tryz.prog.globalNamed "pub-droshky/pub/varint.ErrUnderflow" = some 19 := by kernel_rfl
  obtain ⟨a12, s12, hv12, hc12, hs12, he12⟩ := laid_one h12 g12 (ti := 49) (by kernel_rfl) Tryz.underlying49 rowEs Tryz.underlying110 Tryz.underlying112 rfl rfl Tryz.underlying9 cellsEs cellsStr
  have h13 := h12.tail
  have g13 : Tryz.prog.globalNamed "pub-droshky/pub/varint.ErrNotMinimal" = some 11 := by kernel_rfl
  obtain ⟨a13, s13, hv13, hc13, hs13, he13⟩ := laid_one h13 g13 (ti := 49) (by kernel_rfl) Tryz.underlying49 rowEs Tryz.underlying110 Tryz.underlying112 rfl rfl Tryz.underlying9 cellsEs cellsStr
  have h14 := h13.tail
  have g14 : Tryz.prog.globalNamed "pub-droshky/pub/multihash.ErrTooShort" = some 22 := by kernel_rfl
  obtain ⟨a14, s14, hv14, hc14, hs14, he14⟩ := laid_one h14 g14 (ti := 49) (by kernel_rfl) Tryz.underlying49 rowEs Tryz.underlying110 Tryz.underlying112 rfl rfl Tryz.underlying9 cellsEs cellsStr
  have h15 := h14.tail
  have g15 : Tryz.prog.globalNamed "pub-droshky/pub/multihash.ErrVarintBufferShort" = some 23 := by kernel_rfl
  obtain ⟨a15, s15, hv15, hc15, hs15, he15⟩ := laid_one h15 g15 (ti := 49) (by kernel_rfl) Tryz.underlying49 rowEs Tryz.underlying110 Tryz.underlying112 rfl rfl Tryz.underlying9 cellsEs cellsStr
  have h16 := h15.tail
  have g16 : Tryz.prog.globalNamed "pub-droshky/pub/multihash.ErrVarintTooLong" = some 24 := by kernel_rfl
  obtain ⟨a16, s16, hv16, hc16, hs16, he16⟩ := laid_one h16 g16 (ti := 49) (by kernel_rfl) Tryz.underlying49 rowEs Tryz.underlying110 Tryz.underlying112 rfl rfl Tryz.underlying9 cellsEs cellsStr
  have h17 := h16.tail
  have h18 := h17.tail
  have g18 : Tryz.prog.globalNamed "pub-droshky/pub/util.ErrSectionTooLarge" = some 3 := by kernel_rfl
  obtain ⟨a18, s18, hv18, hc18, hs18, he18⟩ := laid_one h18 g18 (ti := 49) (by kernel_rfl) Tryz.underlying49 rowEs Tryz.underlying110 Tryz.underlying112 rfl rfl Tryz.underlying9 cellsEs cellsStr
  have h19 := h18.tail
  have g19 : Tryz.prog.globalNamed "pub-droshky/pub/util.ErrHeaderTooLarge" = some 4 := by kernel_rfl
  obtain ⟨a19, s19, hv19, hc19, hs19, he19⟩ := laid_one h19 g19 (ti := 49) (by kernel_rfl) Tryz.underlying49 rowEs Tryz.underlying110 Tryz.underlying112 rfl rfl Tryz.underlying9 cellsEs cellsStr
  have h20 := h19.tail
  have g20 : Tryz.prog.globalNamed "pub-droshky/pub/carv1.errHeader" = some 5 := by kernel_rfl
  obtain ⟨a20, s20, hv20, hc20, hs20, he20⟩ := laid_one h20 g20 (ti := 49) (by kernel_rfl) Tryz.underlying49 rowEs Tryz.underlying110 Tryz.underlying112 rfl rfl Tryz.underlying9 cellsEs cellsStr
  have h21 := h20.tail
  have g21 : Tryz.prog.globalNamed "pub-droshky/pub/car.ErrAlreadyV1" = some 0 := by kernel_rfl
  obtain ⟨a21, s21, hv21, hc21, hs21, he21⟩ := laid_one h21 g21 (ti := 49) (by kernel_rfl) Tryz.underlying49 rowEs Tryz.underlying110 Tryz.underlying112 rfl rfl Tryz.underlying9 cellsEs cellsStr
  exact ⟨a0, a1, a2, a3, a4, a5, a6, a7, a8, a9, a10, a11, a12, a13, a14, a15, a16, a18, a19, a20, a21, ⟨by unfold Ee; simpa using World.var?_cell g0 hv0 0, he0⟩, ⟨by unfold Ee; simpa using World.var?_cell g1 hv1 0, he1⟩, ⟨by unfold Ee; simpa using World.var?_cell g2 hv2 0, he2⟩, ⟨by unfold Ee; simpa using World.var?_cell g3 hv3 0, he3⟩, ⟨by unfold Ee; simpa using World.var?_cell g4 hv4 0, he4⟩, ⟨by unfold Ee; simpa using World.var?_cell g5 hv5 0, he5⟩, ⟨by unfold Ee; simpa using World.var?_cell g6 hv6 0, he6⟩, ⟨by unfold Ee; simpa using World.var?_cell g7 hv7 0, he7⟩, ⟨by unfold Ee; simpa using World.var?_cell g8 hv8 0, he8⟩, ⟨by unfold Ee; simpa using World.var?_cell g9 hv9 0, he9⟩, ⟨by unfold Ee; simpa using World.var?_cell g10 hv10 0, he10⟩, ⟨by unfold Ee; simpa using World.var?_cell g11 hv11 0, he11⟩, ⟨by unfold Ee; simpa using World.var?_cell g12 hv12 0, he12⟩, ⟨by unfold Ee; simpa using World.var?_cell g13 hv13 0, he13⟩, ⟨by unfold Ee; simpa using World.var?_cell g14 hv14 0, he14⟩, ⟨by unfold Ee; simpa using World.var?_cell g15 hv15 0, he15⟩, ⟨by unfold Ee; simpa using World.var?_cell g16 hv16 0, he16⟩, ⟨by unfold Ee; simpa using World.var?_cell g18 hv18 0, he18⟩, ⟨by unfold Ee; simpa using World.var?_cell g19 hv19 0, he19⟩, ⟨by unfold Ee; simpa using World.var?_cell g20 hv20 0, he20⟩, ⟨by unfold Ee; simpa using World.var?_cell g21 hv21 0, he21⟩, laid_apart hc0 hs0 hc3 hs3 (by decide), laid_apart hc1 hs1 hc3 hs3 (by decide), laid_apart hc2 hs2 hc3 hs3 (by decide), laid_apart hc4 hs4 hc3 hs3 (by decide), laid_apart hc5 hs5 hc3 hs3 (by decide), laid_apart hc6 hs6 hc3 hs3 (by decide), laid_apart hc7 hs7 hc3 hs3 (by decide), laid_apart hc8 hs8 hc3 hs3 (by decide), laid_apart hc9 hs9 hc3 hs3 (by decide), laid_apart hc10 hs10 hc3 hs3 (by decide), laid_apart hc11 hs11 hc3 hs3 (by decide), laid_apart hc12 hs12 hc3 hs3 (by decide), laid_apart hc13 hs13 hc3 hs3 (by decide), laid_apart hc14 hs14 hc3 hs3 (by decide), laid_apart hc15 hs15 hc3 hs3 (by decide), laid_apart hc16 hs16 hc3 hs3 (by decide), laid_apart hc18 hs18 hc3 hs3 (by decide), laid_apart hc19 hs19 hc3 hs3 (by decide), laid_apart hc20 hs20 hc3 hs3 (by decide), laid_apart hc21 hs21 hc3 hs3 (by decide)⟩
theorem text17 {W : World} (h : laidMetH Tryz.prog Rows.fnWrExtractRow.laid W) : ∃ s : ByteArray, W.cell? ⟨12, 0, none⟩ = some (.string s) := by
  have h0 : laidMet Tryz.prog [("io.ErrShortWrite", Rows.laid_io_ErrShortWrite), ("io.errInvalidWrite", Rows.laid_io_errInvalidWrite), ("io.ErrShortBuffer", Rows.laid_io_ErrShortBuffer), ("io.EOF", Rows.laid_io_EOF), ("io.ErrUnexpectedEOF", Rows.laid_io_ErrUnexpectedEOF), ("pub-droshky/pub/cbor.ErrIndefiniteLength", Rows.laid_pub_droshky_pub_cbor_ErrIndefiniteLength), ("pub-droshky/pub/cbor.ErrIndefiniteSizeExceeded", Rows.laid_pub_droshky_pub_cbor_ErrIndefiniteSizeExceeded), ("pub-droshky/pub/cbor.ErrNonMinimalInteger", Rows.laid_pub_droshky_pub_cbor_ErrNonMinimalInteger), ("pub-droshky/pub/cbor.ErrFloatNaN", Rows.laid_pub_droshky_pub_cbor_ErrFloatNaN), ("pub-droshky/pub/cbor.ErrFloatInfinity", Rows.laid_pub_droshky_pub_cbor_ErrFloatInfinity), ("pub-droshky/pub/cbor.ErrNarrowFloat", Rows.laid_pub_droshky_pub_cbor_ErrNarrowFloat), ("pub-droshky/pub/varint.ErrOverflow", Rows.laid_pub_droshky_pub_varint_ErrOverflow), ("pub-droshky/pub/varint.ErrUnderflow", Rows.laid_pub_droshky_pub_varint_ErrUnderflow), ("pub-droshky/pub/varint.ErrNotMinimal", Rows.laid_pub_droshky_pub_varint_ErrNotMinimal), ("pub-droshky/pub/multihash.ErrTooShort", Rows.laid_pub_droshky_pub_multihash_ErrTooShort), ("pub-droshky/pub/multihash.ErrVarintBufferShort", Rows.laid_pub_droshky_pub_multihash_ErrVarintBufferShort), ("pub-droshky/pub/multihash.ErrVarintTooLong", Rows.laid_pub_droshky_pub_multihash_ErrVarintTooLong), ("pub-droshky/pub/cid.Undef", Rows.laid_pub_droshky_pub_cid_Undef), ("pub-droshky/pub/util.ErrSectionTooLarge", Rows.laid_pub_droshky_pub_util_ErrSectionTooLarge), ("pub-droshky/pub/util.ErrHeaderTooLarge", Rows.laid_pub_droshky_pub_util_ErrHeaderTooLarge), ("pub-droshky/pub/carv1.errHeader", Rows.laid_pub_droshky_pub_carv1_errHeader), ("pub-droshky/pub/car.ErrAlreadyV1", Rows.laid_pub_droshky_pub_car_ErrAlreadyV1)] W := h
  have h1 := h0.tail
  have h2 := h1.tail
  have h3 := h2.tail
  have h4 := h3.tail
  have h5 := h4.tail
  have h6 := h5.tail
  have h7 := h6.tail
  have h8 := h7.tail
  have h9 := h8.tail
  have h10 := h9.tail
  have h11 := h10.tail
  have h12 := h11.tail
  have h13 := h12.tail
  have h14 := h13.tail
  have h15 := h14.tail
  have h16 := h15.tail
  have h17 := h16.tail
  exact laid_text h17 (show Tryz.prog.globalNamed "pub-droshky/pub/cid.Undef" = some 12 by kernel_rfl) (ti := 193) (by kernel_rfl) Tryz.underlying193 rfl rfl Tryz.underlying9

theorem cells25 : Tryz.prog.cellsOf 25 = 2 := by kernel_rfl
theorem cells38 : Tryz.prog.cellsOf 38 = 4 := by kernel_rfl
theorem cellsK : Tryz.prog.cellsOf 41 = 5 := by kernel_rfl
theorem cellsC : Tryz.prog.cellsOf 38 = 4 := by kernel_rfl
theorem cellsU : Tryz.prog.cellsOf 26 = 1 := by kernel_rfl
theorem cellsS : Tryz.prog.cellsOf 9 = 1 := by kernel_rfl
set_option maxRecDepth 100000 in
theorem contract (H : Type) (enc : TypeId × Value → H) (W : World) (base : Nat) (args : Array Value) (ds gs : List (DataW H)) (before : List MemPlace)
    (hval : ∀ (j : Nat) t v, Tryz.f3.params[j]? = some t → args[j]? = some v → Value.okWide Tryz.prog W .any base t v)
    (hW : DataW.Whole enc Tryz.prog Tryz.f3.params.toList Rows.fnWrExtractSpec.vars false W args.toList ds gs before) (hL : laidMetH Tryz.prog Rows.fnWrExtractRow.laid W) :
    Calls Tryz.prog 3 args W fun e W' => ∃ v, e = .returned v ∧ Rows.fnWrExtractSpec.post enc Tryz.prog Tryz.f3 false true false false W args v W' := by
  have hW' := hW
  obtain ⟨p, q, hA0, hV, rfl, hfz, hnd⟩ := hW
  have hA : DataW.TrodAll enc Tryz.prog W 0 (fun _ => true) true Tryz.f3.params.toList args.toList ds p := hA0
  rw [Tryz.params3] at hA hval
  obtain ⟨v0, vs0, d0, ds0, p0, q0, hargs, rfl, rfl, h0, r0⟩ := trodAll_cons hA
  obtain ⟨v1, vs1, d1, ds1, p1, q1, rfl, rfl, rfl, h1, r1⟩ := trodAll_cons r0
  obtain ⟨v2, vs2, d2, ds2, p2, q2, rfl, rfl, rfl, h2, r2⟩ := trodAll_cons r1
  obtain ⟨v3, vs3, d3, ds3, p3, q3, rfl, rfl, rfl, h3, r3⟩ := trodAll_cons r2
  obtain ⟨v4, vs4, d4, ds4, p4, q4, rfl, rfl, rfl, h4, r4⟩ := trodAll_cons r3
  obtain ⟨rfl, rfl, rfl⟩ := trodAll_nil r4
  obtain rfl : args = #[v0, v1, v2, v3, v4] := by cases args; simp_all
  obtain ⟨rfl, rfl⟩ := trodVars_none hV
  obtain ⟨x0_0, x0_1, y0_0, y0_1, m0, rfl, rfl, k0_0, k0_1⟩ := open_agg2 Tryz.underlying25 (by kernel_rfl) cells25 (hval 0 25 v0 rfl rfl) h0
  obtain ⟨sa0, sn0, sc0, sL0, rfl, shL0, shn0, shf0, shc0⟩ := open_cidsF Tryz.underlying22 Tryz.underlying38 cells38 rfl rfl rfl rfl cellsU cellsU cellsU cellsS Tryz.underlying26 Tryz.underlying26 Tryz.underlying26 Tryz.underlying9 k0_0
  obtain ⟨sb0, sm0, sd0, sB0, rfl, thL0, thn0, thf0, thc0⟩ := open_blocksF Tryz.underlying23 Tryz.underlying41 cellsK rfl rfl cellsC cellsS Tryz.underlying38 rfl rfl rfl rfl cellsU cellsU cellsU cellsS Tryz.underlying26 Tryz.underlying26 Tryz.underlying26 Tryz.underlying9 Tryz.underlying9 k0_1
  obtain ⟨a1, rfl, rfl, rfl, wa1⟩ := open_int Tryz.underlying26 (hval 1 26 v1 rfl rfl) h1
  have b1 : 0 ≤ a1 := by simp [Lit.wf, IntKind.min, IntKind.signed] at wa1; omega
  have c1 : a1 < 18446744073709551616 := by simp [Lit.wf, IntKind.max, IntKind.min, IntKind.signed, IntKind.bits] at wa1; omega
  obtain ⟨a2, rfl, rfl, rfl, wa2⟩ := open_int Tryz.underlying5 (hval 2 5 v2 rfl rfl) h2
  have b2 : 0 ≤ a2 := by simp [Lit.wf, IntKind.min, IntKind.signed] at wa2; omega
  have c2 : a2 < 256 := by simp [Lit.wf, IntKind.max, IntKind.min, IntKind.signed, IntKind.bits] at wa2; omega
  obtain ⟨a3, rfl, rfl, rfl, wa3⟩ := open_int Tryz.underlying5 (hval 3 5 v3 rfl rfl) h3
  have b3 : 0 ≤ a3 := by simp [Lit.wf, IntKind.min, IntKind.signed] at wa3; omega
  have c3 : a3 < 256 := by simp [Lit.wf, IntKind.max, IntKind.min, IntKind.signed, IntKind.bits] at wa3; omega
  obtain ⟨s4, rfl, rfl, rfl, hs4⟩ := Go.ChangeMaps.open_string Tryz.underlying9 (hval 4 9 v4 rfl rfl) h4
  obtain ⟨a4, rfl⟩ : ∃ l : List UInt8, s4 = ⟨l.toArray⟩ := ⟨s4.data.toList, rfl⟩
  have b4 : a4.length ≤ 9223372036854775807 := hs4
  obtain ⟨ad_ErrShortWrite, ad_errInvalidWrite, ad_ErrShortBuffer, ad_EOF, ad_ErrUnexpectedEOF, ad_ErrIndefiniteLength, ad_ErrIndefiniteSizeExceeded, ad_ErrNonMinimalInteger, ad_ErrFloatNaN, ad_ErrFloatInfinity, ad_ErrNarrowFloat, ad_ErrOverflow, ad_ErrUnderflow, ad_ErrNotMinimal, ad_ErrTooShort, ad_ErrVarintBufferShort, ad_ErrVarintTooLong, ad_ErrSectionTooLarge, ad_ErrHeaderTooLarge, ad_errHeader, ad_ErrAlreadyV1, ⟨ee_ErrShortWrite, eh_ErrShortWrite⟩, ⟨ee_errInvalidWrite, eh_errInvalidWrite⟩, ⟨ee_ErrShortBuffer, eh_ErrShortBuffer⟩, ⟨ee_EOF, eh_EOF⟩, ⟨ee_ErrUnexpectedEOF, eh_ErrUnexpectedEOF⟩, ⟨ee_ErrIndefiniteLength, eh_ErrIndefiniteLength⟩, ⟨ee_ErrIndefiniteSizeExceeded, eh_ErrIndefiniteSizeExceeded⟩, ⟨ee_ErrNonMinimalInteger, eh_ErrNonMinimalInteger⟩, ⟨ee_ErrFloatNaN, eh_ErrFloatNaN⟩, ⟨ee_ErrFloatInfinity, eh_ErrFloatInfinity⟩, ⟨ee_ErrNarrowFloat, eh_ErrNarrowFloat⟩, ⟨ee_ErrOverflow, eh_ErrOverflow⟩, ⟨ee_ErrUnderflow, eh_ErrUnderflow⟩, ⟨ee_ErrNotMinimal, eh_ErrNotMinimal⟩, ⟨ee_ErrTooShort, eh_ErrTooShort⟩, ⟨ee_ErrVarintBufferShort, eh_ErrVarintBufferShort⟩, ⟨ee_ErrVarintTooLong, eh_ErrVarintTooLong⟩, ⟨ee_ErrSectionTooLarge, eh_ErrSectionTooLarge⟩, ⟨ee_ErrHeaderTooLarge, eh_ErrHeaderTooLarge⟩, ⟨ee_errHeader, eh_errHeader⟩, ⟨ee_ErrAlreadyV1, eh_ErrAlreadyV1⟩, ne_ErrShortWrite, ne_errInvalidWrite, ne_ErrShortBuffer, ne_ErrUnexpectedEOF, ne_ErrIndefiniteLength, ne_ErrIndefiniteSizeExceeded, ne_ErrNonMinimalInteger, ne_ErrFloatNaN, ne_ErrFloatInfinity, ne_ErrNarrowFloat, ne_ErrOverflow, ne_ErrUnderflow, ne_ErrNotMinimal, ne_ErrTooShort, ne_ErrVarintBufferShort, ne_ErrVarintTooLong, ne_ErrSectionTooLarge, ne_ErrHeaderTooLarge, ne_errHeader, ne_ErrAlreadyV1⟩ := errs hL
  have er_ErrShortWrite := ee_ErrShortWrite.er
  have er_errInvalidWrite := ee_errInvalidWrite.er
  have er_ErrShortBuffer := ee_ErrShortBuffer.er
  have er_EOF := ee_EOF.er
  have er_ErrUnexpectedEOF := ee_ErrUnexpectedEOF.er
  have er_ErrIndefiniteLength := ee_ErrIndefiniteLength.er
  have er_ErrIndefiniteSizeExceeded := ee_ErrIndefiniteSizeExceeded.er
  have er_ErrNonMinimalInteger := ee_ErrNonMinimalInteger.er
  have er_ErrFloatNaN := ee_ErrFloatNaN.er
  have er_ErrFloatInfinity := ee_ErrFloatInfinity.er
  have er_ErrNarrowFloat := ee_ErrNarrowFloat.er
  have er_ErrOverflow := ee_ErrOverflow.er
  have er_ErrUnderflow := ee_ErrUnderflow.er
  have er_ErrNotMinimal := ee_ErrNotMinimal.er
  have er_ErrTooShort := ee_ErrTooShort.er
  have er_ErrVarintBufferShort := ee_ErrVarintBufferShort.er
  have er_ErrVarintTooLong := ee_ErrVarintTooLong.er
  have er_ErrSectionTooLarge := ee_ErrSectionTooLarge.er
  have er_ErrHeaderTooLarge := ee_ErrHeaderTooLarge.er
  have er_errHeader := ee_errHeader.er
  have er_ErrAlreadyV1 := ee_ErrAlreadyV1.er
  have sr_Undef := text17 hL
  refine (fnWrExtract_law sa0 sn0 sc0 sL0 sb0 sm0 sd0 sB0 a1 a2 a3 a4 ad_EOF ad_ErrUnexpectedEOF ad_ErrOverflow ad_ErrNotMinimal ad_ErrSectionTooLarge ad_ErrAlreadyV1 W shL0 shn0 shf0 shc0 thL0 thn0 thf0 thc0 b1 b2 c2 b3 c3 b4 ⟨ee_EOF, ee_ErrUnexpectedEOF, ee_ErrOverflow, ee_ErrNotMinimal, ee_ErrSectionTooLarge, ee_ErrAlreadyV1, ⟨er_ErrOverflow, er_ErrNotMinimal, er_ErrUnderflow, er_ErrTooShort, sr_Undef⟩⟩).mono fun e W' ⟨he, hb⟩ => ?_
  subst he
  exact ⟨_, rfl, law_post laidOut (by rw [Tryz.params3]; intro t ht; simp at ht; rcases ht with rfl | rfl | rfl | rfl | rfl <;> exact ⟨by kernel_rfl, of_decide_eq_true (by kernel_rfl)⟩) rfl Tryz.underlying4 rfl rfl rfl rfl hW' hb⟩

abbrev str0 : ByteArray := { data := #[115, 104, 111, 114, 116, 32, 119, 114, 105, 116, 101] }
abbrev str1 : ByteArray := { data := #[105, 110, 118, 97, 108, 105, 100, 32, 119, 114, 105, 116, 101, 32, 114, 101, 115, 117, 108, 116] }
abbrev str2 : ByteArray := { data := #[115, 104, 111, 114, 116, 32, 98, 117, 102, 102, 101, 114] }
abbrev str3 : ByteArray := { data := #[69, 79, 70] }
abbrev str4 : ByteArray := { data := #[117, 110, 101, 120, 112, 101, 99, 116, 101, 100, 32, 69, 79, 70] }
abbrev str5 : ByteArray := { data := #[99, 98, 111, 114, 58, 32, 105, 110, 100, 101, 102, 105, 110, 105, 116, 101, 45, 108, 101, 110, 103, 116, 104, 32, 101, 110, 99, 111, 100, 105, 110, 103, 32, 114, 101, 106, 101, 99, 116, 101, 100] }
abbrev str6 : ByteArray := { data := #[99, 98, 111, 114, 58, 32, 105, 110, 100, 101, 102, 105, 110, 105, 116, 101, 45, 108, 101, 110, 103, 116, 104, 32, 115, 116, 114, 105, 110, 103, 47, 98, 121, 116, 101, 115, 32, 116, 111, 116, 97, 108, 32, 115, 105, 122, 101, 32, 101, 120, 99, 101, 101, 100, 115, 32, 108, 105, 109, 105, 116] }
abbrev str7 : ByteArray := { data := #[99, 98, 111, 114, 58, 32, 105, 110, 116, 101, 103, 101, 114, 32, 110, 111, 116, 32, 109, 105, 110, 105, 109, 97, 108, 108, 121, 32, 101, 110, 99, 111, 100, 101, 100] }
abbrev str8 : ByteArray := { data := #[99, 98, 111, 114, 58, 32, 78, 97, 78, 32, 102, 108, 111, 97, 116, 32, 118, 97, 108, 117, 101, 32, 114, 101, 106, 101, 99, 116, 101, 100] }
abbrev str9 : ByteArray := { data := #[99, 98, 111, 114, 58, 32, 105, 110, 102, 105, 110, 105, 116, 101, 32, 102, 108, 111, 97, 116, 32, 118, 97, 108, 117, 101, 32, 114, 101, 106, 101, 99, 116, 101, 100] }
abbrev str10 : ByteArray := { data := #[99, 98, 111, 114, 58, 32, 102, 108, 111, 97, 116, 32, 110, 97, 114, 114, 111, 119, 101, 114, 32, 116, 104, 97, 110, 32, 54, 52, 32, 98, 105, 116, 115, 32, 114, 101, 106, 101, 99, 116, 101, 100] }
abbrev str11 : ByteArray := { data := #[118, 97, 114, 105, 110, 116, 115, 32, 108, 97, 114, 103, 101, 114, 32, 116, 104, 97, 110, 32, 117, 105, 110, 116, 54, 51, 32, 110, 111, 116, 32, 115, 117, 112, 112, 111, 114, 116, 101, 100] }
abbrev str12 : ByteArray := { data := #[118, 97, 114, 105, 110, 116, 115, 32, 109, 97, 108, 102, 111, 114, 109, 101, 100, 44, 32, 99, 111, 117, 108, 100, 32, 110, 111, 116, 32, 114, 101, 97, 99, 104, 32, 116, 104, 101, 32, 101, 110, 100] }
abbrev str13 : ByteArray := { data := #[118, 97, 114, 105, 110, 116, 32, 110, 111, 116, 32, 109, 105, 110, 105, 109, 97, 108, 108, 121, 32, 101, 110, 99, 111, 100, 101, 100] }
abbrev str14 : ByteArray := { data := #[109, 117, 108, 116, 105, 104, 97, 115, 104, 32, 116, 111, 111, 32, 115, 104, 111, 114, 116, 46, 32, 109, 117, 115, 116, 32, 98, 101, 32, 62, 61, 32, 50, 32, 98, 121, 116, 101, 115] }
abbrev str15 : ByteArray := { data := #[117, 118, 97, 114, 105, 110, 116, 58, 32, 98, 117, 102, 102, 101, 114, 32, 116, 111, 111, 32, 115, 109, 97, 108, 108] }
abbrev str16 : ByteArray := { data := #[117, 118, 97, 114, 105, 110, 116, 58, 32, 118, 97, 114, 105, 110, 116, 32, 116, 111, 111, 32, 98, 105, 103, 32, 40, 109, 97, 120, 32, 54, 52, 98, 105, 116, 41] }
abbrev str18 : ByteArray := { data := #[105, 110, 118, 97, 108, 105, 100, 32, 115, 101, 99, 116, 105, 111, 110, 32, 100, 97, 116, 97, 44, 32, 108, 101, 110, 103, 116, 104, 32, 111, 102, 32, 114, 101, 97, 100, 32, 98, 101, 121, 111, 110, 100, 32, 97, 108, 108, 111, 119, 97, 98, 108, 101, 32, 109, 97, 120, 105, 109, 117, 109] }
abbrev str19 : ByteArray := { data := #[105, 110, 118, 97, 108, 105, 100, 32, 104, 101, 97, 100, 101, 114, 32, 100, 97, 116, 97, 44, 32, 108, 101, 110, 103, 116, 104, 32, 111, 102, 32, 114, 101, 97, 100, 32, 98, 101, 121, 111, 110, 100, 32, 97, 108, 108, 111, 119, 97, 98, 108, 101, 32, 109, 97, 120, 105, 109, 117, 109] }
abbrev str20 : ByteArray := { data := #[105, 110, 118, 97, 108, 105, 100, 32, 104, 101, 97, 100, 101, 114] }
abbrev str21 : ByteArray := { data := #[97, 108, 114, 101, 97, 100, 121, 32, 97, 32, 67, 65, 82, 118, 49] }
noncomputable def low : Nat := (World.holding Tryz.prog default ⟨#[], #[], []⟩).heap.size
/-- A world for the witness: the settled one, each listed variable holding an error that leads to its text. -/
noncomputable def laidWorld (os : Os) : World :=
  let w0 := World.holding Tryz.prog os ⟨#[.cells #[.string str0] 112, .cells #[.string str1] 112, .cells #[.string str2] 112, .cells #[.string str3] 112, .cells #[.string str4] 112, .cells #[.string str5] 112, .cells #[.string str6] 112, .cells #[.string str7] 112, .cells #[.string str8] 112, .cells #[.string str9] 112, .cells #[.string str10] 112, .cells #[.string str11] 112, .cells #[.string str12] 112, .cells #[.string str13] 112, .cells #[.string str14] 112, .cells #[.string str15] 112, .cells #[.string str16] 112, .cells #[.string str18] 112, .cells #[.string str19] 112, .cells #[.string str20] 112, .cells #[.string str21] 112], #[], []⟩
  { w0 with heap := (((((((((((((((((((((w0.heap.modify 9 fun | .cells _ t frozen => .cells #[.iface 110 (.pointer (some ⟨low + 0, 0, none⟩))] t frozen | o => o).modify 8 fun | .cells _ t frozen => .cells #[.iface 110 (.pointer (some ⟨low + 1, 0, none⟩))] t frozen | o => o).modify 6 fun | .cells _ t frozen => .cells #[.iface 110 (.pointer (some ⟨low + 2, 0, none⟩))] t frozen | o => o).modify 2 fun | .cells _ t frozen => .cells #[.iface 110 (.pointer (some ⟨low + 3, 0, none⟩))] t frozen | o => o).modify 7 fun | .cells _ t frozen => .cells #[.iface 110 (.pointer (some ⟨low + 4, 0, none⟩))] t frozen | o => o).modify 14 fun | .cells _ t frozen => .cells #[.iface 110 (.pointer (some ⟨low + 5, 0, none⟩))] t frozen | o => o).modify 21 fun | .cells _ t frozen => .cells #[.iface 110 (.pointer (some ⟨low + 6, 0, none⟩))] t frozen | o => o).modify 18 fun | .cells _ t frozen => .cells #[.iface 110 (.pointer (some ⟨low + 7, 0, none⟩))] t frozen | o => o).modify 16 fun | .cells _ t frozen => .cells #[.iface 110 (.pointer (some ⟨low + 8, 0, none⟩))] t frozen | o => o).modify 17 fun | .cells _ t frozen => .cells #[.iface 110 (.pointer (some ⟨low + 9, 0, none⟩))] t frozen | o => o).modify 13 fun | .cells _ t frozen => .cells #[.iface 110 (.pointer (some ⟨low + 10, 0, none⟩))] t frozen | o => o).modify 10 fun | .cells _ t frozen => .cells #[.iface 110 (.pointer (some ⟨low + 11, 0, none⟩))] t frozen | o => o).modify 19 fun | .cells _ t frozen => .cells #[.iface 110 (.pointer (some ⟨low + 12, 0, none⟩))] t frozen | o => o).modify 11 fun | .cells _ t frozen => .cells #[.iface 110 (.pointer (some ⟨low + 13, 0, none⟩))] t frozen | o => o).modify 22 fun | .cells _ t frozen => .cells #[.iface 110 (.pointer (some ⟨low + 14, 0, none⟩))] t frozen | o => o).modify 23 fun | .cells _ t frozen => .cells #[.iface 110 (.pointer (some ⟨low + 15, 0, none⟩))] t frozen | o => o).modify 24 fun | .cells _ t frozen => .cells #[.iface 110 (.pointer (some ⟨low + 16, 0, none⟩))] t frozen | o => o).modify 3 fun | .cells _ t frozen => .cells #[.iface 110 (.pointer (some ⟨low + 17, 0, none⟩))] t frozen | o => o).modify 4 fun | .cells _ t frozen => .cells #[.iface 110 (.pointer (some ⟨low + 18, 0, none⟩))] t frozen | o => o).modify 5 fun | .cells _ t frozen => .cells #[.iface 110 (.pointer (some ⟨low + 19, 0, none⟩))] t frozen | o => o).modify 0 fun | .cells _ t frozen => .cells #[.iface 110 (.pointer (some ⟨low + 20, 0, none⟩))] t frozen | o => o) }
theorem laid_met (os : Os) : laidMet Tryz.prog Rows.fnWrExtractRow.laid ((laidWorld os).forCall (fun _ _ => 0) ⟨#[], #[.agg #[.slice none 0 0, .slice none 0 0], .int .u64 0, .int .u8 0, .int .u8 0, .string ByteArray.empty], []⟩).memory :=
  laidMet_of_run' 8 (by kernel_rfl) (by kernel_rfl)
theorem reads (os : Os) {H : Type} (enc : TypeId × Value → H) : ∃ places, DataW.whole enc Tryz.prog ((laidWorld os).forCall (fun _ _ => 0) ⟨#[], #[.agg #[.slice none 0 0, .slice none 0 0], .int .u64 0, .int .u8 0, .int .u8 0, .string ByteArray.empty], []⟩).memory Tryz.f3.params.toList Rows.fnWrExtractSpec.vars false (#[.agg #[.slice none 0 0, .slice none 0 0], .int .u64 0, .int .u8 0, .int .u8 0, .string ByteArray.empty] : Array Value).toList 8 = some ([.agg [.nil, .nil], .lit (.int .u64 0), .lit (.int .u8 0), .lit (.int .u8 0), .lit (.string [])], [], places) :=
  ⟨[], by kernel_rfl⟩
set_option maxRecDepth 100000 in
theorem lifted (os : Os) (started : os.Started) (H : Type) (enc : TypeId × Value → H) (F : Stop.Interp) :
    ReturnsInHanded {} Tryz.checked os 3 .any ((OpenSpec.ofChange Rows.fnWrExtractSpec).preRow enc Tryz.prog Tryz.f3 Rows.fnWrExtractRow.domain false Rows.fnWrExtractRow.laid) (((OpenSpec.ofChange Rows.fnWrExtractSpec).at F).post enc Tryz.prog Tryz.f3 false true false false) := by
  obtain ⟨places, hx⟩ := reads os enc
  refine returnsInHanded_of_row (C := Tryz.checked) (s := OpenSpec.ofChange Rows.fnWrExtractSpec) own started (by kernel_rfl) Tryz.func3
    (witness_row_at (enc := enc) (C := Tryz.checked) false (laidWorld os) #[.agg #[.slice none 0 0, .slice none 0 0], .int .u64 0, .int .u8 0, .int .u8 0, .string ByteArray.empty] rfl (by kernel_rfl) (by kernel_rfl) (by kernel_rfl)
      (OpenSpec.preRow_of_cond 8 hx (by kernel_rfl) (fun k hk => by cases hk) (by kernel_rfl) (laid_met os))) ?_
  intro W base args ds gs before hval hW _ _ _ hL _ _
  exact contract H enc W base args ds gs before hval hW hL
theorem said : Rows.FnWrExtractSaid :=
  OpenClaim.holds_of_cond 3 Tryz.f3 rfl rfl rfl rfl rfl rfl rfl ⟨rfl, rfl, rfl, rfl, rfl⟩ rfl rfl rfl rfl rfl (by kernel_rfl) Tryz.func3 (by kernel_rfl)
    (of_decide_eq_true (by kernel_rfl)) (by unfold Func.isWrapper; first | (rw [if_pos (by decide +kernel)]; kernel_rfl) | (rw [if_neg (by decide +kernel)]; exact ⟨rfl, rfl⟩))
    (fun os started H enc _ F => by rw [OpenClaim.pre_eq_preRow]; exact lifted os started H enc F)
theorem plain (f : FuncId) (fn : Func) (hf : Tryz.pinned.checked.prog.funcNamed "pub-droshky/laws.FnWrExtract" = some f) (hfn : Tryz.pinned.checked.prog.funcs[f]? = some fn) :
    true = Tryz.pinned.checked.prog.looks [] ∧ ∀ (j : Nat) t, fn.params[j]? = some t → Tryz.pinned.checked.prog.wantsStandIn t = false := by
  obtain rfl : f = 3 := Option.some.inj ((show Tryz.prog.funcNamed "pub-droshky/laws.FnWrExtract" = some 3 by kernel_rfl).symm.trans hf) |>.symm
  obtain rfl : fn = Tryz.f3 := (Option.some.inj (Tryz.func3.symm.trans hfn)).symm
  refine ⟨by kernel_rfl, fun j t ht => ?_⟩
  rw [Tryz.params3] at ht
  have hm := Array.mem_of_getElem? ht
  simp at hm
  rcases hm with rfl | rfl | rfl | rfl
  · exact (show Tryz.prog.wantsStandIn 25 = false by kernel_rfl)
  · exact (show Tryz.prog.wantsStandIn 26 = false by kernel_rfl)
  · exact (show Tryz.prog.wantsStandIn 5 = false by kernel_rfl)
  · exact (show Tryz.prog.wantsStandIn 9 = false by kernel_rfl)
/-- THE CARD. -/
theorem card : Rows.FnWrExtractCardSaid :=
  Claim7.holds_tied_plain_at .later [] _ _ _ _ said (fun _ h => by cases h) (by kernel_rfl) (fun _ h => by cases h) fnWrExtract_row_tie rfl ⟨rfl, rfl⟩ (by kernel_rfl) rfl plain (by kernel_rfl)
#print axioms card
end Go.Proofs.YtlafdmmjbkdkaaaGreatDoor.fnWrExtract
