/-
  FnCdReader: for every input the law returns true, and its arguments read behind the call as they read before; the variables that the row lists are as the program's text lays them. Conditions: none but the row's own.
-/
import Derived.Test.YtgkhofnedhlgdaaDoorCards
import Derived.Test.YtgkhofnedhlgdaaDoorTie
import Derived.Test.YtgkhofnedhlgdaaDoorCdG
import Derived.Test.YtgkhofnedhlgdaaDoorLaid
import Derived.Test.YtgkhofnedhlgdaaDoorLaidT
import Derived.WalkKit
import Derived.ProofKit
import Derived.OpenShut
import Derived.Deep.DeepHandedRow
import Derived.Lib.LaidTab
import Derived.Stop.LaidErr
import Derived.Stop.ErrReads
import Derived.Deep.DeepLaidRun
import Derived.ChangeMaps5
namespace Go.Proofs.YtgkhofnedhlgdaaDoor.fnCdReader
open Go.ChangeShapes Go.WideShapes Go.ChangeAt Go.RowKit Go.Joins Go.Deep

theorem own : ownKnob Tryd.prog.godebug = none := by kernel_rfl
theorem laidOut : laidOutB Tryd.prog = true := by kernel_rfl
theorem cellsEs : Tryd.prog.cellsOf 130 = 1 := by kernel_rfl
theorem cellsStr : Tryd.prog.cellsOf 9 = 1 := by kernel_rfl
theorem star : "*" ++ "errors.errorString" = "*errors.errorString" := by decide
theorem rowEs (u : TypeId) (h : Tryd.prog.typeName? 3 u = some "*errors.errorString") : u = 128 :=
  typeName_ptr_named (nm := "errors.errorString") (by rw [star]; kernel_rfl) (by kernel_rfl) (by decide) u (by rw [star]; exact h)
/-- The listed errors: where each lies; none lies where io.EOF does. -/
theorem errs {W : World} (h : laidMetH Tryd.prog Rows.fnCdReaderRow.laid W) : ∃ a0 a1 a2 a3 a4 a5 a6 a7 a8 : Addr, (Ee W 6 a0 ∧ Eh W a0) ∧ (Ee W 0 a1 ∧ Eh W a1) ∧ (Ee W 1 a2 ∧ Eh W a2) ∧ (Ee W 2 a3 ∧ Eh W a3) ∧ (Ee W 5 a4 ∧ Eh W a4) ∧ (Ee W 3 a5 ∧ Eh W a5) ∧ (Ee W 7 a6 ∧ Eh W a6) ∧ (Ee W 8 a7 ∧ Eh W a7) ∧ (Ee W 9 a8 ∧ Eh W a8) ∧ a0 ≠ a1 ∧ a2 ≠ a1 ∧ a3 ≠ a1 ∧ a4 ≠ a1 ∧ a5 ≠ a1 ∧ a6 ≠ a1 ∧ a7 ≠ a1 ∧ a8 ≠ a1 := by
  have h0 : laidMet Tryd.prog [("io.ErrShortBuffer", Rows.laid_io_ErrShortBuffer), ("io.EOF", Rows.laid_io_EOF), ("io.ErrUnexpectedEOF", Rows.laid_io_ErrUnexpectedEOF), ("pub-droshky/pub/varint.ErrOverflow", Rows.laid_pub_droshky_pub_varint_ErrOverflow), ("pub-droshky/pub/varint.ErrUnderflow", Rows.laid_pub_droshky_pub_varint_ErrUnderflow), ("pub-droshky/pub/varint.ErrNotMinimal", Rows.laid_pub_droshky_pub_varint_ErrNotMinimal), ("pub-droshky/pub/multihash.ErrTooShort", Rows.laid_pub_droshky_pub_multihash_ErrTooShort), ("pub-droshky/pub/multihash.ErrVarintBufferShort", Rows.laid_pub_droshky_pub_multihash_ErrVarintBufferShort), ("pub-droshky/pub/multihash.ErrVarintTooLong", Rows.laid_pub_droshky_pub_multihash_ErrVarintTooLong), ("pub-droshky/pub/cid.Undef", Rows.laid_pub_droshky_pub_cid_Undef)] W := h
  have g0 : Tryd.prog.globalNamed "io.ErrShortBuffer" = some 6 := by kernel_rfl
  obtain ⟨a0, s0, hv0, hc0, hs0, he0⟩ := laid_one h0 g0 (ti := 53) (by kernel_rfl) Tryd.underlying53 rowEs Tryd.underlying128 Tryd.underlying130 rfl rfl Tryd.underlying9 cellsEs cellsStr
  have h1 := h0.tail
  have g1 : Tryd.prog.globalNamed "io.EOF" = some 0 := by kernel_rfl
  obtain ⟨a1, s1, hv1, hc1, hs1, he1⟩ := laid_one h1 g1 (ti := 53) (by kernel_rfl) Tryd.underlying53 rowEs Tryd.underlying128 Tryd.underlying130 rfl rfl Tryd.underlying9 cellsEs cellsStr
  have h2 := h1.tail
  have g2 : Tryd.prog.globalNamed "io.ErrUnexpectedEOF" = some 1 := by kernel_rfl
  obtain ⟨a2, s2, hv2, hc2, hs2, he2⟩ := laid_one h2 g2 (ti := 53) (by kernel_rfl) Tryd.underlying53 rowEs Tryd.underlying128 Tryd.underlying130 rfl rfl Tryd.underlying9 cellsEs cellsStr
  have h3 := h2.tail
  have g3 : Tryd.prog.globalNamed "pub-droshky/pub/varint.ErrOverflow" = some 2 := by kernel_rfl
  obtain ⟨a3, s3, hv3, hc3, hs3, he3⟩ := laid_one h3 g3 (ti := 53) (by kernel_rfl) Tryd.underlying53 rowEs Tryd.underlying128 Tryd.underlying130 rfl rfl Tryd.underlying9 cellsEs cellsStr
  have h4 := h3.tail
  have g4 : Tryd.prog.globalNamed "pub-droshky/pub/varint.ErrUnderflow" = some 5 := by kernel_rfl
  obtain ⟨a4, s4, hv4, hc4, hs4, he4⟩ := laid_one h4 g4 (ti := 53) (by kernel_rfl) Tryd.underlying53 rowEs Tryd.underlying128 Tryd.underlying130 rfl rfl Tryd.underlying9 cellsEs cellsStr
  have h5 := h4.tail
  have g5 : Tryd.prog.globalNamed "pub-droshky/pub/varint.ErrNotMinimal" = some 3 := by kernel_rfl
  obtain ⟨a5, s5, hv5, hc5, hs5, he5⟩ := laid_one h5 g5 (ti := 53) (by kernel_rfl) Tryd.underlying53 rowEs Tryd.underlying128 Tryd.underlying130 rfl rfl Tryd.underlying9 cellsEs cellsStr
  have h6 := h5.tail
  have g6 : Tryd.prog.globalNamed "pub-droshky/pub/multihash.ErrTooShort" = some 7 := by kernel_rfl
  obtain ⟨a6, s6, hv6, hc6, hs6, he6⟩ := laid_one h6 g6 (ti := 53) (by kernel_rfl) Tryd.underlying53 rowEs Tryd.underlying128 Tryd.underlying130 rfl rfl Tryd.underlying9 cellsEs cellsStr
  have h7 := h6.tail
  have g7 : Tryd.prog.globalNamed "pub-droshky/pub/multihash.ErrVarintBufferShort" = some 8 := by kernel_rfl
  obtain ⟨a7, s7, hv7, hc7, hs7, he7⟩ := laid_one h7 g7 (ti := 53) (by kernel_rfl) Tryd.underlying53 rowEs Tryd.underlying128 Tryd.underlying130 rfl rfl Tryd.underlying9 cellsEs cellsStr
  have h8 := h7.tail
  have g8 : Tryd.prog.globalNamed "pub-droshky/pub/multihash.ErrVarintTooLong" = some 9 := by kernel_rfl
  obtain ⟨a8, s8, hv8, hc8, hs8, he8⟩ := laid_one h8 g8 (ti := 53) (by kernel_rfl) Tryd.underlying53 rowEs Tryd.underlying128 Tryd.underlying130 rfl rfl Tryd.underlying9 cellsEs cellsStr
  have h9 := h8.tail
  exact ⟨a0, a1, a2, a3, a4, a5, a6, a7, a8, ⟨by unfold Ee; simpa using World.var?_cell g0 hv0 0, he0⟩, ⟨by unfold Ee; simpa using World.var?_cell g1 hv1 0, he1⟩, ⟨by unfold Ee; simpa using World.var?_cell g2 hv2 0, he2⟩, ⟨by unfold Ee; simpa using World.var?_cell g3 hv3 0, he3⟩, ⟨by unfold Ee; simpa using World.var?_cell g4 hv4 0, he4⟩, ⟨by unfold Ee; simpa using World.var?_cell g5 hv5 0, he5⟩, ⟨by unfold Ee; simpa using World.var?_cell g6 hv6 0, he6⟩, ⟨by unfold Ee; simpa using World.var?_cell g7 hv7 0, he7⟩, ⟨by unfold Ee; simpa using World.var?_cell g8 hv8 0, he8⟩, laid_apart hc0 hs0 hc1 hs1 (by decide), laid_apart hc2 hs2 hc1 hs1 (by decide), laid_apart hc3 hs3 hc1 hs1 (by decide), laid_apart hc4 hs4 hc1 hs1 (by decide), laid_apart hc5 hs5 hc1 hs1 (by decide), laid_apart hc6 hs6 hc1 hs1 (by decide), laid_apart hc7 hs7 hc1 hs1 (by decide), laid_apart hc8 hs8 hc1 hs1 (by decide)⟩
theorem text9 {W : World} (h : laidMetH Tryd.prog Rows.fnCdReaderRow.laid W) : ∃ s : ByteArray, W.cell? ⟨4, 0, none⟩ = some (.string s) := by
  have h0 : laidMet Tryd.prog [("io.ErrShortBuffer", Rows.laid_io_ErrShortBuffer), ("io.EOF", Rows.laid_io_EOF), ("io.ErrUnexpectedEOF", Rows.laid_io_ErrUnexpectedEOF), ("pub-droshky/pub/varint.ErrOverflow", Rows.laid_pub_droshky_pub_varint_ErrOverflow), ("pub-droshky/pub/varint.ErrUnderflow", Rows.laid_pub_droshky_pub_varint_ErrUnderflow), ("pub-droshky/pub/varint.ErrNotMinimal", Rows.laid_pub_droshky_pub_varint_ErrNotMinimal), ("pub-droshky/pub/multihash.ErrTooShort", Rows.laid_pub_droshky_pub_multihash_ErrTooShort), ("pub-droshky/pub/multihash.ErrVarintBufferShort", Rows.laid_pub_droshky_pub_multihash_ErrVarintBufferShort), ("pub-droshky/pub/multihash.ErrVarintTooLong", Rows.laid_pub_droshky_pub_multihash_ErrVarintTooLong), ("pub-droshky/pub/cid.Undef", Rows.laid_pub_droshky_pub_cid_Undef)] W := h
  have h1 := h0.tail
  have h2 := h1.tail
  have h3 := h2.tail
  have h4 := h3.tail
  have h5 := h4.tail
  have h6 := h5.tail
  have h7 := h6.tail
  have h8 := h7.tail
  have h9 := h8.tail
  exact laid_text h9 (show Tryd.prog.globalNamed "pub-droshky/pub/cid.Undef" = some 4 by kernel_rfl) (ti := 61) (by kernel_rfl) Tryd.underlying61 rfl rfl Tryd.underlying9

set_option maxRecDepth 100000 in
theorem contract (H : Type) (enc : TypeId × Value → H) (W : World) (base : Nat) (args : Array Value) (ds gs : List (DataW H)) (before : List MemPlace)
    (hval : ∀ (j : Nat) t v, Tryd.f6.params[j]? = some t → args[j]? = some v → Value.okWide Tryd.prog W .any base t v)
    (hW : DataW.Whole enc Tryd.prog Tryd.f6.params.toList Rows.fnCdReaderSpec.vars false W args.toList ds gs before) (hL : laidMetH Tryd.prog Rows.fnCdReaderRow.laid W) :
    Calls Tryd.prog 6 args W fun e W' => ∃ v, e = .returned v ∧ Rows.fnCdReaderSpec.post enc Tryd.prog Tryd.f6 false true false false W args v W' := by
  have hW' := hW
  obtain ⟨p, q, hA0, hV, rfl, hfz, hnd⟩ := hW
  have hA : DataW.TrodAll enc Tryd.prog W 0 (fun _ => true) true Tryd.f6.params.toList args.toList ds p := hA0
  rw [Tryd.params6] at hA hval
  obtain ⟨v0, vs0, d0, ds0, p0, q0, hargs, rfl, rfl, h0, r0⟩ := trodAll_cons hA
  obtain ⟨rfl, rfl, rfl⟩ := trodAll_nil r0
  obtain rfl : args = #[v0] := by cases args; simp_all
  obtain ⟨rfl, rfl⟩ := trodVars_none hV
  obtain ⟨s0, rfl, rfl, rfl, hs0⟩ := Go.ChangeMaps.open_string Tryd.underlying9 (hval 0 9 v0 rfl rfl) h0
  obtain ⟨a0, rfl⟩ : ∃ l : List UInt8, s0 = ⟨l.toArray⟩ := ⟨s0.data.toList, rfl⟩
  have b0 : a0.length ≤ 9223372036854775807 := hs0
  obtain ⟨ad_ErrShortBuffer, ad_EOF, ad_ErrUnexpectedEOF, ad_ErrOverflow, ad_ErrUnderflow, ad_ErrNotMinimal, ad_ErrTooShort, ad_ErrVarintBufferShort, ad_ErrVarintTooLong, ⟨ee_ErrShortBuffer, eh_ErrShortBuffer⟩, ⟨ee_EOF, eh_EOF⟩, ⟨ee_ErrUnexpectedEOF, eh_ErrUnexpectedEOF⟩, ⟨ee_ErrOverflow, eh_ErrOverflow⟩, ⟨ee_ErrUnderflow, eh_ErrUnderflow⟩, ⟨ee_ErrNotMinimal, eh_ErrNotMinimal⟩, ⟨ee_ErrTooShort, eh_ErrTooShort⟩, ⟨ee_ErrVarintBufferShort, eh_ErrVarintBufferShort⟩, ⟨ee_ErrVarintTooLong, eh_ErrVarintTooLong⟩, ne_ErrShortBuffer, ne_ErrUnexpectedEOF, ne_ErrOverflow, ne_ErrUnderflow, ne_ErrNotMinimal, ne_ErrTooShort, ne_ErrVarintBufferShort, ne_ErrVarintTooLong⟩ := errs hL
  have er_ErrShortBuffer := ee_ErrShortBuffer.er
  have er_EOF := ee_EOF.er
  have er_ErrUnexpectedEOF := ee_ErrUnexpectedEOF.er
  have er_ErrOverflow := ee_ErrOverflow.er
  have er_ErrUnderflow := ee_ErrUnderflow.er
  have er_ErrNotMinimal := ee_ErrNotMinimal.er
  have er_ErrTooShort := ee_ErrTooShort.er
  have er_ErrVarintBufferShort := ee_ErrVarintBufferShort.er
  have er_ErrVarintTooLong := ee_ErrVarintTooLong.er
  have sr_Undef := text9 hL
  refine (fnCdReader_walk a0 ad_EOF ad_ErrUnexpectedEOF ad_ErrOverflow ad_ErrNotMinimal W b0 ee_EOF ee_ErrUnexpectedEOF ee_ErrOverflow ee_ErrNotMinimal er_ErrUnderflow er_ErrTooShort sr_Undef eh_EOF eh_ErrUnexpectedEOF eh_ErrOverflow eh_ErrNotMinimal ne_ErrUnexpectedEOF ne_ErrOverflow ne_ErrNotMinimal).mono fun e W' ⟨he, hb⟩ => ?_
  subst he
  exact ⟨_, rfl, law_post laidOut (by rw [Tryd.params6]; intro t ht; simp at ht; subst ht; exact ⟨by kernel_rfl, of_decide_eq_true (by kernel_rfl)⟩) rfl Tryd.underlying4 rfl rfl rfl rfl hW' hb⟩

abbrev str0 : ByteArray := { data := #[115, 104, 111, 114, 116, 32, 98, 117, 102, 102, 101, 114] }
abbrev str1 : ByteArray := { data := #[69, 79, 70] }
abbrev str2 : ByteArray := { data := #[117, 110, 101, 120, 112, 101, 99, 116, 101, 100, 32, 69, 79, 70] }
abbrev str3 : ByteArray := { data := #[118, 97, 114, 105, 110, 116, 115, 32, 108, 97, 114, 103, 101, 114, 32, 116, 104, 97, 110, 32, 117, 105, 110, 116, 54, 51, 32, 110, 111, 116, 32, 115, 117, 112, 112, 111, 114, 116, 101, 100] }
abbrev str4 : ByteArray := { data := #[118, 97, 114, 105, 110, 116, 115, 32, 109, 97, 108, 102, 111, 114, 109, 101, 100, 44, 32, 99, 111, 117, 108, 100, 32, 110, 111, 116, 32, 114, 101, 97, 99, 104, 32, 116, 104, 101, 32, 101, 110, 100] }
abbrev str5 : ByteArray := { data := #[118, 97, 114, 105, 110, 116, 32, 110, 111, 116, 32, 109, 105, 110, 105, 109, 97, 108, 108, 121, 32, 101, 110, 99, 111, 100, 101, 100] }
abbrev str6 : ByteArray := { data := #[109, 117, 108, 116, 105, 104, 97, 115, 104, 32, 116, 111, 111, 32, 115, 104, 111, 114, 116, 46, 32, 109, 117, 115, 116, 32, 98, 101, 32, 62, 61, 32, 50, 32, 98, 121, 116, 101, 115] }
abbrev str7 : ByteArray := { data := #[117, 118, 97, 114, 105, 110, 116, 58, 32, 98, 117, 102, 102, 101, 114, 32, 116, 111, 111, 32, 115, 109, 97, 108, 108] }
abbrev str8 : ByteArray := { data := #[117, 118, 97, 114, 105, 110, 116, 58, 32, 118, 97, 114, 105, 110, 116, 32, 116, 111, 111, 32, 98, 105, 103, 32, 40, 109, 97, 120, 32, 54, 52, 98, 105, 116, 41] }
noncomputable def low : Nat := (World.holding Tryd.prog default ⟨#[], #[], []⟩).heap.size
/-- A world for the witness: the settled one, each listed variable holding an error that leads to its text. -/
noncomputable def laidWorld (os : Os) : World :=
  let w0 := World.holding Tryd.prog os ⟨#[.cells #[.string str0] 130, .cells #[.string str1] 130, .cells #[.string str2] 130, .cells #[.string str3] 130, .cells #[.string str4] 130, .cells #[.string str5] 130, .cells #[.string str6] 130, .cells #[.string str7] 130, .cells #[.string str8] 130], #[], []⟩
  { w0 with heap := (((((((((w0.heap.modify 6 fun | .cells _ t frozen => .cells #[.iface 128 (.pointer (some ⟨low + 0, 0, none⟩))] t frozen | o => o).modify 0 fun | .cells _ t frozen => .cells #[.iface 128 (.pointer (some ⟨low + 1, 0, none⟩))] t frozen | o => o).modify 1 fun | .cells _ t frozen => .cells #[.iface 128 (.pointer (some ⟨low + 2, 0, none⟩))] t frozen | o => o).modify 2 fun | .cells _ t frozen => .cells #[.iface 128 (.pointer (some ⟨low + 3, 0, none⟩))] t frozen | o => o).modify 5 fun | .cells _ t frozen => .cells #[.iface 128 (.pointer (some ⟨low + 4, 0, none⟩))] t frozen | o => o).modify 3 fun | .cells _ t frozen => .cells #[.iface 128 (.pointer (some ⟨low + 5, 0, none⟩))] t frozen | o => o).modify 7 fun | .cells _ t frozen => .cells #[.iface 128 (.pointer (some ⟨low + 6, 0, none⟩))] t frozen | o => o).modify 8 fun | .cells _ t frozen => .cells #[.iface 128 (.pointer (some ⟨low + 7, 0, none⟩))] t frozen | o => o).modify 9 fun | .cells _ t frozen => .cells #[.iface 128 (.pointer (some ⟨low + 8, 0, none⟩))] t frozen | o => o) }
theorem laid_met (os : Os) : laidMet Tryd.prog Rows.fnCdReaderRow.laid ((laidWorld os).forCall (fun _ _ => 0) ⟨#[], #[.string ByteArray.empty], []⟩).memory :=
  laidMet_of_run' 8 (by kernel_rfl) (by kernel_rfl)
theorem reads (os : Os) {H : Type} (enc : TypeId × Value → H) : ∃ places, DataW.whole enc Tryd.prog ((laidWorld os).forCall (fun _ _ => 0) ⟨#[], #[.string ByteArray.empty], []⟩).memory Tryd.f6.params.toList Rows.fnCdReaderSpec.vars false (#[.string ByteArray.empty] : Array Value).toList 8 = some ([.lit (.string [])], [], places) :=
  ⟨[], by kernel_rfl⟩
set_option maxRecDepth 100000 in
theorem lifted (os : Os) (started : os.Started) (H : Type) (enc : TypeId × Value → H) (F : Stop.Interp) :
    ReturnsInHanded {} Tryd.checked os 6 .any ((OpenSpec.ofChange Rows.fnCdReaderSpec).preRow enc Tryd.prog Tryd.f6 Rows.fnCdReaderRow.domain false Rows.fnCdReaderRow.laid) (((OpenSpec.ofChange Rows.fnCdReaderSpec).at F).post enc Tryd.prog Tryd.f6 false true false false) := by
  obtain ⟨places, hx⟩ := reads os enc
  refine returnsInHanded_of_row (C := Tryd.checked) (s := OpenSpec.ofChange Rows.fnCdReaderSpec) own started (by kernel_rfl) Tryd.func6
    (witness_row_at (enc := enc) (C := Tryd.checked) false (laidWorld os) #[.string ByteArray.empty] rfl (by kernel_rfl) (by kernel_rfl) (by kernel_rfl)
      (OpenSpec.preRow_of_cond 8 hx (by kernel_rfl) (fun k hk => by cases hk) (by kernel_rfl) (laid_met os))) ?_
  intro W base args ds gs before hval hW _ _ _ hL _ _
  exact contract H enc W base args ds gs before hval hW hL
theorem said : Rows.FnCdReaderSaid :=
  OpenClaim.holds_of_cond 6 Tryd.f6 rfl rfl rfl rfl rfl rfl rfl ⟨rfl, rfl, rfl, rfl, rfl⟩ rfl rfl rfl rfl rfl (by kernel_rfl) Tryd.func6 (by kernel_rfl)
    (of_decide_eq_true (by kernel_rfl)) (by unfold Func.isWrapper; first | (rw [if_pos (by decide +kernel)]; kernel_rfl) | (rw [if_neg (by decide +kernel)]; exact ⟨rfl, rfl⟩))
    (fun os started H enc _ F => by rw [OpenClaim.pre_eq_preRow]; exact lifted os started H enc F)
theorem plain (f : FuncId) (fn : Func) (hf : Tryd.pinned.checked.prog.funcNamed "pub-droshky/laws.FnCdReader" = some f) (hfn : Tryd.pinned.checked.prog.funcs[f]? = some fn) :
    true = Tryd.pinned.checked.prog.looks [] ∧ ∀ (j : Nat) t, fn.params[j]? = some t → Tryd.pinned.checked.prog.wantsStandIn t = false := by
  obtain rfl : f = 6 := Option.some.inj ((show Tryd.prog.funcNamed "pub-droshky/laws.FnCdReader" = some 6 by kernel_rfl).symm.trans hf) |>.symm
  obtain rfl : fn = Tryd.f6 := (Option.some.inj (Tryd.func6.symm.trans hfn)).symm
  refine ⟨by kernel_rfl, fun j t ht => ?_⟩
  rw [Tryd.params6] at ht
  have hm := Array.mem_of_getElem? ht
  simp at hm
  subst hm
  exact (show Tryd.prog.wantsStandIn 9 = false by kernel_rfl)
/-- THE CARD. -/
theorem card : Rows.FnCdReaderCardSaid :=
  Claim7.holds_tied_plain_at .later [] _ _ _ _ said (fun _ h => by cases h) (by kernel_rfl) (fun _ h => by cases h) fnCdReader_row_tie rfl ⟨rfl, rfl⟩ (by kernel_rfl) rfl plain (by kernel_rfl)
#print axioms card
end Go.Proofs.YtgkhofnedhlgdaaDoor.fnCdReader
