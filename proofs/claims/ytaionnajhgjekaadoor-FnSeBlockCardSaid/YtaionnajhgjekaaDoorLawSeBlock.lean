/-
  FnSeBlock: for every input the law returns true, and its arguments read behind the call as they read before; the variables that the row lists are as the program's text lays them. Conditions: none but the row's own.
-/
import Derived.Test.YtaionnajhgjekaaDoorCards
import Derived.Test.YtaionnajhgjekaaDoorTie
import Derived.Test.YtaionnajhgjekaaDoorSk
import Derived.Test.YtaionnajhgjekaaDoorLaid
import Derived.WalkKit
import Derived.ProofKit
import Derived.OpenShut
import Derived.Deep.DeepHandedRow
import Derived.Lib.LaidTab
import Derived.Stop.LaidErr
import Derived.Stop.ErrReads
import Derived.Deep.DeepLaidRun
import Derived.ChangeMaps5
namespace Go.Proofs.YtaionnajhgjekaaDoor.fnSeBlock
open Go.ChangeShapes Go.WideShapes Go.ChangeAt Go.RowKit Go.Joins Go.Deep

theorem own : ownKnob Tryd.prog.godebug = none := by kernel_rfl
theorem laidOut : laidOutB Tryd.prog = true := by kernel_rfl
theorem cellsEs : Tryd.prog.cellsOf 156 = 1 := by kernel_rfl
theorem cellsStr : Tryd.prog.cellsOf 9 = 1 := by kernel_rfl
theorem star : "*" ++ "errors.errorString" = "*errors.errorString" := by decide
theorem rowEs (u : TypeId) (h : Tryd.prog.typeName? 3 u = some "*errors.errorString") : u = 154 :=
  typeName_ptr_named (nm := "errors.errorString") (by rw [star]; kernel_rfl) (by kernel_rfl) (by decide) u (by rw [star]; exact h)
/-- The listed errors: where each lies; none lies where io.EOF does. -/
theorem errs {W : World} (h : laidMetH Tryd.prog Rows.fnSeBlockRow.laid W) : ∃ a0 a1 a2 a3 a4 a5 a6 a7 a8 a10 : Addr, (Ee W 6 a0 ∧ Eh W a0) ∧ (Ee W 0 a1 ∧ Eh W a1) ∧ (Ee W 2 a2 ∧ Eh W a2) ∧ (Ee W 4 a3 ∧ Eh W a3) ∧ (Ee W 7 a4 ∧ Eh W a4) ∧ (Ee W 5 a5 ∧ Eh W a5) ∧ (Ee W 8 a6 ∧ Eh W a6) ∧ (Ee W 9 a7 ∧ Eh W a7) ∧ (Ee W 10 a8 ∧ Eh W a8) ∧ (Ee W 3 a10 ∧ Eh W a10) ∧ a0 ≠ a1 ∧ a2 ≠ a1 ∧ a3 ≠ a1 ∧ a4 ≠ a1 ∧ a5 ≠ a1 ∧ a6 ≠ a1 ∧ a7 ≠ a1 ∧ a8 ≠ a1 ∧ a10 ≠ a1 := by
  have h0 : laidMet Tryd.prog [("io.ErrShortBuffer", Rows.laid_io_ErrShortBuffer), ("io.EOF", Rows.laid_io_EOF), ("io.ErrUnexpectedEOF", Rows.laid_io_ErrUnexpectedEOF), ("pub-droshky/pub/varint.ErrOverflow", Rows.laid_pub_droshky_pub_varint_ErrOverflow), ("pub-droshky/pub/varint.ErrUnderflow", Rows.laid_pub_droshky_pub_varint_ErrUnderflow), ("pub-droshky/pub/varint.ErrNotMinimal", Rows.laid_pub_droshky_pub_varint_ErrNotMinimal), ("pub-droshky/pub/multihash.ErrTooShort", Rows.laid_pub_droshky_pub_multihash_ErrTooShort), ("pub-droshky/pub/multihash.ErrVarintBufferShort", Rows.laid_pub_droshky_pub_multihash_ErrVarintBufferShort), ("pub-droshky/pub/multihash.ErrVarintTooLong", Rows.laid_pub_droshky_pub_multihash_ErrVarintTooLong), ("pub-droshky/pub/cid.Undef", Rows.laid_pub_droshky_pub_cid_Undef), ("pub-droshky/pub/util.ErrSectionTooLarge", Rows.laid_pub_droshky_pub_util_ErrSectionTooLarge)] W := h
  have g0 : Tryd.prog.globalNamed "io.ErrShortBuffer" = some 6 := by kernel_rfl
  obtain ⟨a0, s0, hv0, hc0, hs0, he0⟩ := laid_one h0 g0 (ti := 54) (by kernel_rfl) Tryd.underlying54 rowEs Tryd.underlying154 Tryd.underlying156 rfl rfl Tryd.underlying9 cellsEs cellsStr
  have h1 := h0.tail
  have g1 : Tryd.prog.globalNamed "io.EOF" = some 0 := by kernel_rfl
  obtain ⟨a1, s1, hv1, hc1, hs1, he1⟩ := laid_one h1 g1 (ti := 54) (by kernel_rfl) Tryd.underlying54 rowEs Tryd.underlying154 Tryd.underlying156 rfl rfl Tryd.underlying9 cellsEs cellsStr
  have h2 := h1.tail
  have g2 : Tryd.prog.globalNamed "io.ErrUnexpectedEOF" = some 2 := by kernel_rfl
  obtain ⟨a2, s2, hv2, hc2, hs2, he2⟩ := laid_one h2 g2 (ti := 54) (by kernel_rfl) Tryd.underlying54 rowEs Tryd.underlying154 Tryd.underlying156 rfl rfl Tryd.underlying9 cellsEs cellsStr
  have h3 := h2.tail
  have g3 : Tryd.prog.globalNamed "pub-droshky/pub/varint.ErrOverflow" = some 4 := by kernel_rfl
  obtain ⟨a3, s3, hv3, hc3, hs3, he3⟩ := laid_one h3 g3 (ti := 54) (by kernel_rfl) Tryd.underlying54 rowEs Tryd.underlying154 Tryd.underlying156 rfl rfl Tryd.underlying9 cellsEs cellsStr
  have h4 := h3.tail
  have g4 : Tryd.prog.globalNamed "pub-droshky/pub/varint.ErrUnderflow" = some 7 := by kernel_rfl
  obtain ⟨a4, s4, hv4, hc4, hs4, he4⟩ := laid_one h4 g4 (ti := 54) (by kernel_rfl) Tryd.underlying54 rowEs Tryd.underlying154 Tryd.underlying156 rfl rfl Tryd.underlying9 cellsEs cellsStr
  have h5 := h4.tail
  have g5 : Tryd.prog.globalNamed "pub-droshky/pub/varint.ErrNotMinimal" = some 5 := by kernel_rfl
  obtain ⟨a5, s5, hv5, hc5, hs5, he5⟩ := laid_one h5 g5 (ti := 54) (by kernel_rfl) Tryd.underlying54 rowEs Tryd.underlying154 Tryd.underlying156 rfl rfl Tryd.underlying9 cellsEs cellsStr
  have h6 := h5.tail
  have g6 : Tryd.prog.globalNamed "pub-droshky/pub/multihash.ErrTooShort" = some 8 := by kernel_rfl
  obtain ⟨a6, s6, hv6, hc6, hs6, he6⟩ := laid_one h6 g6 (ti := 54) (by kernel_rfl) Tryd.underlying54 rowEs Tryd.underlying154 Tryd.underlying156 rfl rfl Tryd.underlying9 cellsEs cellsStr
  have h7 := h6.tail
  have g7 : Tryd.prog.globalNamed "pub-droshky/pub/multihash.ErrVarintBufferShort" = some 9 := by kernel_rfl
  obtain ⟨a7, s7, hv7, hc7, hs7, he7⟩ := laid_one h7 g7 (ti := 54) (by kernel_rfl) Tryd.underlying54 rowEs Tryd.underlying154 Tryd.underlying156 rfl rfl Tryd.underlying9 cellsEs cellsStr
  have h8 := h7.tail
  have g8 : Tryd.prog.globalNamed "pub-droshky/pub/multihash.ErrVarintTooLong" = some 10 := by kernel_rfl
  obtain ⟨a8, s8, hv8, hc8, hs8, he8⟩ := laid_one h8 g8 (ti := 54) (by kernel_rfl) Tryd.underlying54 rowEs Tryd.underlying154 Tryd.underlying156 rfl rfl Tryd.underlying9 cellsEs cellsStr
  have h9 := h8.tail
  have h10 := h9.tail
  have g10 : Tryd.prog.globalNamed "pub-droshky/pub/util.ErrSectionTooLarge" = some 3 := by kernel_rfl
  obtain ⟨a10, s10, hv10, hc10, hs10, he10⟩ := laid_one h10 g10 (ti := 54) (by kernel_rfl) Tryd.underlying54 rowEs Tryd.underlying154 Tryd.underlying156 rfl rfl Tryd.underlying9 cellsEs cellsStr
  exact ⟨a0, a1, a2, a3, a4, a5, a6, a7, a8, a10, ⟨by unfold Ee; simpa using World.var?_cell g0 hv0 0, he0⟩, ⟨by unfold Ee; simpa using World.var?_cell g1 hv1 0, he1⟩, ⟨by unfold Ee; simpa using World.var?_cell g2 hv2 0, he2⟩, ⟨by unfold Ee; simpa using World.var?_cell g3 hv3 0, he3⟩, ⟨by unfold Ee; simpa using World.var?_cell g4 hv4 0, he4⟩, ⟨by unfold Ee; simpa using World.var?_cell g5 hv5 0, he5⟩, ⟨by unfold Ee; simpa using World.var?_cell g6 hv6 0, he6⟩, ⟨by unfold Ee; simpa using World.var?_cell g7 hv7 0, he7⟩, ⟨by unfold Ee; simpa using World.var?_cell g8 hv8 0, he8⟩, ⟨by unfold Ee; simpa using World.var?_cell g10 hv10 0, he10⟩, laid_apart hc0 hs0 hc1 hs1 (by decide), laid_apart hc2 hs2 hc1 hs1 (by decide), laid_apart hc3 hs3 hc1 hs1 (by decide), laid_apart hc4 hs4 hc1 hs1 (by decide), laid_apart hc5 hs5 hc1 hs1 (by decide), laid_apart hc6 hs6 hc1 hs1 (by decide), laid_apart hc7 hs7 hc1 hs1 (by decide), laid_apart hc8 hs8 hc1 hs1 (by decide), laid_apart hc10 hs10 hc1 hs1 (by decide)⟩

theorem cellsK : Tryd.prog.cellsOf 40 = 5 := by kernel_rfl
theorem cellsC : Tryd.prog.cellsOf 38 = 4 := by kernel_rfl
theorem cellsU : Tryd.prog.cellsOf 30 = 1 := by kernel_rfl
theorem cellsS : Tryd.prog.cellsOf 9 = 1 := by kernel_rfl
set_option maxRecDepth 100000 in
theorem contract (H : Type) (enc : TypeId × Value → H) (W : World) (base : Nat) (args : Array Value) (ds gs : List (DataW H)) (before : List MemPlace)
    (hval : ∀ (j : Nat) t v, Tryd.f6.params[j]? = some t → args[j]? = some v → Value.okWide Tryd.prog W .any base t v)
    (hW : DataW.Whole enc Tryd.prog Tryd.f6.params.toList Rows.fnSeBlockSpec.vars false W args.toList ds gs before) (hL : laidMetH Tryd.prog Rows.fnSeBlockRow.laid W) :
    Calls Tryd.prog 6 args W fun e W' => ∃ v, e = .returned v ∧ Rows.fnSeBlockSpec.post enc Tryd.prog Tryd.f6 false true false false W args v W' := by
  have hW' := hW
  obtain ⟨p, q, hA0, hV, rfl, hfz, hnd⟩ := hW
  have hA : DataW.TrodAll enc Tryd.prog W 0 (fun _ => true) true Tryd.f6.params.toList args.toList ds p := hA0
  rw [Tryd.params6] at hA hval
  obtain ⟨v0, vs0, d0, ds0, p0, q0, hargs, rfl, rfl, h0, r0⟩ := trodAll_cons hA
  obtain ⟨v1, vs1, d1, ds1, p1, q1, rfl, rfl, rfl, h1, r1⟩ := trodAll_cons r0
  obtain ⟨v2, vs2, d2, ds2, p2, q2, rfl, rfl, rfl, h2, r2⟩ := trodAll_cons r1
  obtain ⟨rfl, rfl, rfl⟩ := trodAll_nil r2
  obtain rfl : args = #[v0, v1, v2] := by cases args; simp_all
  obtain ⟨rfl, rfl⟩ := trodVars_none hV
  obtain ⟨y0, rfl, shf0⟩ := open_block Tryd.underlying40 cellsK rfl rfl cellsC cellsS Tryd.underlying38 rfl rfl rfl rfl cellsU cellsU cellsU cellsS Tryd.underlying30 Tryd.underlying30 Tryd.underlying30 Tryd.underlying9 Tryd.underlying9 (hval 0 40 v0 rfl rfl) h0
  obtain ⟨s1, rfl, rfl, rfl, hs1⟩ := Go.ChangeMaps.open_string Tryd.underlying9 (hval 1 9 v1 rfl rfl) h1
  obtain ⟨a1, rfl⟩ : ∃ l : List UInt8, s1 = ⟨l.toArray⟩ := ⟨s1.data.toList, rfl⟩
  have b1 : a1.length ≤ 9223372036854775807 := hs1
  obtain ⟨a2, rfl, rfl, rfl⟩ := open_bool Tryd.underlying4 (hval 2 4 v2 rfl rfl) h2
  obtain ⟨ad_ErrShortBuffer, ad_EOF, ad_ErrUnexpectedEOF, ad_ErrOverflow, ad_ErrUnderflow, ad_ErrNotMinimal, ad_ErrTooShort, ad_ErrVarintBufferShort, ad_ErrVarintTooLong, ad_ErrSectionTooLarge, ⟨ee_ErrShortBuffer, eh_ErrShortBuffer⟩, ⟨ee_EOF, eh_EOF⟩, ⟨ee_ErrUnexpectedEOF, eh_ErrUnexpectedEOF⟩, ⟨ee_ErrOverflow, eh_ErrOverflow⟩, ⟨ee_ErrUnderflow, eh_ErrUnderflow⟩, ⟨ee_ErrNotMinimal, eh_ErrNotMinimal⟩, ⟨ee_ErrTooShort, eh_ErrTooShort⟩, ⟨ee_ErrVarintBufferShort, eh_ErrVarintBufferShort⟩, ⟨ee_ErrVarintTooLong, eh_ErrVarintTooLong⟩, ⟨ee_ErrSectionTooLarge, eh_ErrSectionTooLarge⟩, ne_ErrShortBuffer, ne_ErrUnexpectedEOF, ne_ErrOverflow, ne_ErrUnderflow, ne_ErrNotMinimal, ne_ErrTooShort, ne_ErrVarintBufferShort, ne_ErrVarintTooLong, ne_ErrSectionTooLarge⟩ := errs hL
  have er_ErrShortBuffer := ee_ErrShortBuffer.er
  have er_EOF := ee_EOF.er
  have er_ErrUnexpectedEOF := ee_ErrUnexpectedEOF.er
  have er_ErrOverflow := ee_ErrOverflow.er
  have er_ErrUnderflow := ee_ErrUnderflow.er
  have er_ErrNotMinimal := ee_ErrNotMinimal.er
  have er_ErrTooShort := ee_ErrTooShort.er
  have er_ErrVarintBufferShort := ee_ErrVarintBufferShort.er
  have er_ErrVarintTooLong := ee_ErrVarintTooLong.er
  have er_ErrSectionTooLarge := ee_ErrSectionTooLarge.er
  refine (fnSeBlock_walk y0 a1 a2 ad_EOF ad_ErrUnexpectedEOF ad_ErrOverflow ad_ErrNotMinimal ad_ErrSectionTooLarge W shf0 b1 ⟨⟨ee_EOF, ee_ErrUnexpectedEOF, ee_ErrOverflow, ee_ErrNotMinimal, ee_ErrSectionTooLarge, eh_EOF, eh_ErrSectionTooLarge, ne_ErrSectionTooLarge⟩, er_ErrUnderflow, er_ErrTooShort⟩).mono fun e W' ⟨he, hb⟩ => ?_
  subst he
  exact ⟨_, rfl, law_post laidOut (by rw [Tryd.params6]; intro t ht; simp at ht; rcases ht with rfl | rfl | rfl <;> exact ⟨by kernel_rfl, of_decide_eq_true (by kernel_rfl)⟩) rfl Tryd.underlying4 rfl rfl rfl rfl hW' hb⟩

abbrev str0 : ByteArray := { data := #[115, 104, 111, 114, 116, 32, 98, 117, 102, 102, 101, 114] }
abbrev str1 : ByteArray := { data := #[69, 79, 70] }
abbrev str2 : ByteArray := { data := #[117, 110, 101, 120, 112, 101, 99, 116, 101, 100, 32, 69, 79, 70] }
abbrev str3 : ByteArray := { data := #[118, 97, 114, 105, 110, 116, 115, 32, 108, 97, 114, 103, 101, 114, 32, 116, 104, 97, 110, 32, 117, 105, 110, 116, 54, 51, 32, 110, 111, 116, 32, 115, 117, 112, 112, 111, 114, 116, 101, 100] }
abbrev str4 : ByteArray := { data := #[118, 97, 114, 105, 110, 116, 115, 32, 109, 97, 108, 102, 111, 114, 109, 101, 100, 44, 32, 99, 111, 117, 108, 100, 32, 110, 111, 116, 32, 114, 101, 97, 99, 104, 32, 116, 104, 101, 32, 101, 110, 100] }
abbrev str5 : ByteArray := { data := #[118, 97, 114, 105, 110, 116, 32, 110, 111, 116, 32, 109, 105, 110, 105, 109, 97, 108, 108, 121, 32, 101, 110, 99, 111, 100, 101, 100] }
abbrev str6 : ByteArray := { data := #[109, 117, 108, 116, 105, 104, 97, 115, 104, 32, 116, 111, 111, 32, 115, 104, 111, 114, 116, 46, 32, 109, 117, 115, 116, 32, 98, 101, 32, 62, 61, 32, 50, 32, 98, 121, 116, 101, 115] }
abbrev str7 : ByteArray := { data := #[117, 118, 97, 114, 105, 110, 116, 58, 32, 98, 117, 102, 102, 101, 114, 32, 116, 111, 111, 32, 115, 109, 97, 108, 108] }
abbrev str8 : ByteArray := { data := #[117, 118, 97, 114, 105, 110, 116, 58, 32, 118, 97, 114, 105, 110, 116, 32, 116, 111, 111, 32, 98, 105, 103, 32, 40, 109, 97, 120, 32, 54, 52, 98, 105, 116, 41] }
abbrev str10 : ByteArray := { data := #[105, 110, 118, 97, 108, 105, 100, 32, 115, 101, 99, 116, 105, 111, 110, 32, 100, 97, 116, 97, 44, 32, 108, 101, 110, 103, 116, 104, 32, 111, 102, 32, 114, 101, 97, 100, 32, 98, 101, 121, 111, 110, 100, 32, 97, 108, 108, 111, 119, 97, 98, 108, 101, 32, 109, 97, 120, 105, 109, 117, 109] }
noncomputable def low : Nat := (World.holding Tryd.prog default ⟨#[], #[], []⟩).heap.size
/-- A world for the witness: the settled one, each listed variable holding an error that leads to its text. -/
noncomputable def laidWorld (os : Os) : World :=
  let w0 := World.holding Tryd.prog os ⟨#[.cells #[.string str0] 156, .cells #[.string str1] 156, .cells #[.string str2] 156, .cells #[.string str3] 156, .cells #[.string str4] 156, .cells #[.string str5] 156, .cells #[.string str6] 156, .cells #[.string str7] 156, .cells #[.string str8] 156, .cells #[.string str10] 156], #[], []⟩
  { w0 with heap := ((((((((((w0.heap.modify 6 fun | .cells _ t frozen => .cells #[.iface 154 (.pointer (some ⟨low + 0, 0, none⟩))] t frozen | o => o).modify 0 fun | .cells _ t frozen => .cells #[.iface 154 (.pointer (some ⟨low + 1, 0, none⟩))] t frozen | o => o).modify 2 fun | .cells _ t frozen => .cells #[.iface 154 (.pointer (some ⟨low + 2, 0, none⟩))] t frozen | o => o).modify 4 fun | .cells _ t frozen => .cells #[.iface 154 (.pointer (some ⟨low + 3, 0, none⟩))] t frozen | o => o).modify 7 fun | .cells _ t frozen => .cells #[.iface 154 (.pointer (some ⟨low + 4, 0, none⟩))] t frozen | o => o).modify 5 fun | .cells _ t frozen => .cells #[.iface 154 (.pointer (some ⟨low + 5, 0, none⟩))] t frozen | o => o).modify 8 fun | .cells _ t frozen => .cells #[.iface 154 (.pointer (some ⟨low + 6, 0, none⟩))] t frozen | o => o).modify 9 fun | .cells _ t frozen => .cells #[.iface 154 (.pointer (some ⟨low + 7, 0, none⟩))] t frozen | o => o).modify 10 fun | .cells _ t frozen => .cells #[.iface 154 (.pointer (some ⟨low + 8, 0, none⟩))] t frozen | o => o).modify 3 fun | .cells _ t frozen => .cells #[.iface 154 (.pointer (some ⟨low + 9, 0, none⟩))] t frozen | o => o) }
theorem laid_met (os : Os) : laidMet Tryd.prog Rows.fnSeBlockRow.laid ((laidWorld os).forCall (fun _ _ => 0) ⟨#[], #[.agg #[.int .u64 0, .int .u64 0, .int .u64 0, .string ByteArray.empty, .string ByteArray.empty], .string ByteArray.empty, .bool false], []⟩).memory :=
  laidMet_of_run' 8 (by kernel_rfl) (by kernel_rfl)
theorem reads (os : Os) {H : Type} (enc : TypeId × Value → H) : ∃ places, DataW.whole enc Tryd.prog ((laidWorld os).forCall (fun _ _ => 0) ⟨#[], #[.agg #[.int .u64 0, .int .u64 0, .int .u64 0, .string ByteArray.empty, .string ByteArray.empty], .string ByteArray.empty, .bool false], []⟩).memory Tryd.f6.params.toList Rows.fnSeBlockSpec.vars false (#[.agg #[.int .u64 0, .int .u64 0, .int .u64 0, .string ByteArray.empty, .string ByteArray.empty], .string ByteArray.empty, .bool false] : Array Value).toList 8 = some ([.agg [.agg [.lit (.int .u64 0), .lit (.int .u64 0), .lit (.int .u64 0), .lit (.string [])], .lit (.string [])], .lit (.string []), .lit (.bool false)], [], places) :=
  ⟨[], by kernel_rfl⟩
set_option maxRecDepth 100000 in
theorem lifted (os : Os) (started : os.Started) (H : Type) (enc : TypeId × Value → H) (F : Stop.Interp) :
    ReturnsInHanded {} Tryd.checked os 6 .any ((OpenSpec.ofChange Rows.fnSeBlockSpec).preRow enc Tryd.prog Tryd.f6 Rows.fnSeBlockRow.domain false Rows.fnSeBlockRow.laid) (((OpenSpec.ofChange Rows.fnSeBlockSpec).at F).post enc Tryd.prog Tryd.f6 false true false false) := by
  obtain ⟨places, hx⟩ := reads os enc
  refine returnsInHanded_of_row (C := Tryd.checked) (s := OpenSpec.ofChange Rows.fnSeBlockSpec) own started (by kernel_rfl) Tryd.func6
    (witness_row_at (enc := enc) (C := Tryd.checked) false (laidWorld os) #[.agg #[.int .u64 0, .int .u64 0, .int .u64 0, .string ByteArray.empty, .string ByteArray.empty], .string ByteArray.empty, .bool false] rfl (by kernel_rfl) (by kernel_rfl) (by kernel_rfl)
      (OpenSpec.preRow_of_cond 8 hx (by kernel_rfl) (fun k hk => by cases hk) (by kernel_rfl) (laid_met os))) ?_
  intro W base args ds gs before hval hW _ _ _ hL _ _
  exact contract H enc W base args ds gs before hval hW hL
theorem said : Rows.FnSeBlockSaid :=
  OpenClaim.holds_of_cond 6 Tryd.f6 rfl rfl rfl rfl rfl rfl rfl ⟨rfl, rfl, rfl, rfl, rfl⟩ rfl rfl rfl rfl rfl (by kernel_rfl) Tryd.func6 (by kernel_rfl)
    (of_decide_eq_true (by kernel_rfl)) (by unfold Func.isWrapper; first | (rw [if_pos (by decide +kernel)]; kernel_rfl) | (rw [if_neg (by decide +kernel)]; exact ⟨rfl, rfl⟩))
    (fun os started H enc _ F => by rw [OpenClaim.pre_eq_preRow]; exact lifted os started H enc F)
theorem plain (f : FuncId) (fn : Func) (hf : Tryd.pinned.checked.prog.funcNamed "pub-droshky/laws.FnSeBlock" = some f) (hfn : Tryd.pinned.checked.prog.funcs[f]? = some fn) :
    true = Tryd.pinned.checked.prog.looks [] ∧ ∀ (j : Nat) t, fn.params[j]? = some t → Tryd.pinned.checked.prog.wantsStandIn t = false := by
  obtain rfl : f = 6 := Option.some.inj ((show Tryd.prog.funcNamed "pub-droshky/laws.FnSeBlock" = some 6 by kernel_rfl).symm.trans hf) |>.symm
  obtain rfl : fn = Tryd.f6 := (Option.some.inj (Tryd.func6.symm.trans hfn)).symm
  refine ⟨by kernel_rfl, fun j t ht => ?_⟩
  rw [Tryd.params6] at ht
  have hm := Array.mem_of_getElem? ht
  simp at hm
  rcases hm with rfl | rfl | rfl
  · exact (show Tryd.prog.wantsStandIn 40 = false by kernel_rfl)
  · exact (show Tryd.prog.wantsStandIn 9 = false by kernel_rfl)
  · exact (show Tryd.prog.wantsStandIn 4 = false by kernel_rfl)
/-- THE CARD. -/
theorem card : Rows.FnSeBlockCardSaid :=
  Claim7.holds_tied_plain_at .later [] _ _ _ _ said (fun _ h => by cases h) (by kernel_rfl) (fun _ h => by cases h) fnSeBlock_row_tie rfl ⟨rfl, rfl⟩ (by kernel_rfl) rfl plain (by kernel_rfl)
#print axioms card
end Go.Proofs.YtaionnajhgjekaaDoor.fnSeBlock
