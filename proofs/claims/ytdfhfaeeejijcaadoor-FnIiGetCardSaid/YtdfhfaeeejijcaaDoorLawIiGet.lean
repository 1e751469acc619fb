/-
  FnIiGet: for every input the law returns true, and its arguments read behind the call as they read before; the variables that the row lists are as the program's text lays them. Conditions: none but the row's own.
-/
import Derived.Test.YtdfhfaeeejijcaaDoorCards
import Derived.Test.YtdfhfaeeejijcaaDoorTie
import Derived.Test.YtdfhfaeeejijcaaDoorIh
import Derived.Test.YtdfhfaeeejijcaaDoorLaid
import Derived.WalkKit
import Derived.ProofKit
import Derived.OpenShut
import Derived.Deep.DeepHandedRow
import Derived.Lib.LaidTab
import Derived.Stop.LaidErr
import Derived.Stop.ErrReads
import Derived.Deep.DeepLaidRun
import Derived.ChangeMaps5
namespace Go.Proofs.YtdfhfaeeejijcaaDoor.fnIiGet
open Go.ChangeShapes Go.WideShapes Go.ChangeAt Go.RowKit Go.Joins Go.Deep

theorem own : ownKnob Tryd.prog.godebug = none := by kernel_rfl
theorem laidOut : laidOutB Tryd.prog = true := by kernel_rfl
theorem cells26 : Tryd.prog.cellsOf 26 = 4 := by kernel_rfl
theorem cellsEs : Tryd.prog.cellsOf 144 = 1 := by kernel_rfl
theorem cellsStr : Tryd.prog.cellsOf 9 = 1 := by kernel_rfl
theorem star : "*" ++ "errors.errorString" = "*errors.errorString" := by decide
theorem rowEs (u : TypeId) (h : Tryd.prog.typeName? 3 u = some "*errors.errorString") : u = 142 :=
  typeName_ptr_named (nm := "errors.errorString") (by rw [star]; kernel_rfl) (by kernel_rfl) (by decide) u (by rw [star]; exact h)
/-- The listed errors: where each lies; none lies where io.EOF does. -/
theorem errs {W : World} (h : laidMetH Tryd.prog Rows.fnIiGetRow.laid W) : ∃ a2 a3 a4 a5 a6 a7 a9 a10 : Addr, (Ee W 7 a2 ∧ Eh W a2) ∧ (Ee W 9 a3 ∧ Eh W a3) ∧ (Ee W 8 a4 ∧ Eh W a4) ∧ (Ee W 13 a5 ∧ Eh W a5) ∧ (Ee W 14 a6 ∧ Eh W a6) ∧ (Ee W 15 a7 ∧ Eh W a7) ∧ (Ee W 0 a9 ∧ Eh W a9) ∧ (Ee W 2 a10 ∧ Eh W a10) := by
  have h0 : laidMet Tryd.prog [("pub-droshky/pub/llrb.ninf", Rows.laid_pub_droshky_pub_llrb_ninf), ("pub-droshky/pub/llrb.pinf", Rows.laid_pub_droshky_pub_llrb_pinf), ("pub-droshky/pub/varint.ErrOverflow", Rows.laid_pub_droshky_pub_varint_ErrOverflow), ("pub-droshky/pub/varint.ErrUnderflow", Rows.laid_pub_droshky_pub_varint_ErrUnderflow), ("pub-droshky/pub/varint.ErrNotMinimal", Rows.laid_pub_droshky_pub_varint_ErrNotMinimal), ("pub-droshky/pub/multihash.ErrTooShort", Rows.laid_pub_droshky_pub_multihash_ErrTooShort), ("pub-droshky/pub/multihash.ErrVarintBufferShort", Rows.laid_pub_droshky_pub_multihash_ErrVarintBufferShort), ("pub-droshky/pub/multihash.ErrVarintTooLong", Rows.laid_pub_droshky_pub_multihash_ErrVarintTooLong), ("pub-droshky/pub/cid.Undef", Rows.laid_pub_droshky_pub_cid_Undef), ("pub-droshky/pub/index.ErrNotFound", Rows.laid_pub_droshky_pub_index_ErrNotFound), ("pub-droshky/pub/index.errUnsupported", Rows.laid_pub_droshky_pub_index_errUnsupported)] W := h
  have h1 := h0.tail
  have h2 := h1.tail
  have g2 : Tryd.prog.globalNamed "pub-droshky/pub/varint.ErrOverflow" = some 7 := by kernel_rfl
  obtain ⟨a2, s2, hv2, hc2, hs2, he2⟩ := laid_one h2 g2 (ti := 62) (by kernel_rfl) Tryd.underlying62 rowEs Tryd.underlying142 Tryd.underlying144 rfl rfl Tryd.underlying9 cellsEs cellsStr
  have h3 := h2.tail
  have g3 : Tryd.prog.globalNamed "pub-droshky/pub/varint.ErrUnderflow" = some 9 := by kernel_rfl
  obtain ⟨a3, s3, hv3, hc3, hs3, he3⟩ := laid_one h3 g3 (ti := 62) (by kernel_rfl) Tryd.underlying62 rowEs Tryd.underlying142 Tryd.underlying144 rfl rfl Tryd.underlying9 cellsEs cellsStr
  have h4 := h3.tail
  have g4 : Tryd.prog.globalNamed "pub-droshky/pub/varint.ErrNotMinimal" = some 8 := by kernel_rfl
  obtain ⟨a4, s4, hv4, hc4, hs4, he4⟩ := laid_one h4 g4 (ti := 62) (by kernel_rfl) Tryd.underlying62 rowEs Tryd.underlying142 Tryd.underlying144 rfl rfl Tryd.underlying9 cellsEs cellsStr
  have h5 := h4.tail
  have g5 : Tryd.prog.globalNamed "pub-droshky/pub/multihash.ErrTooShort" = some 13 := by kernel_rfl
  obtain ⟨a5, s5, hv5, hc5, hs5, he5⟩ := laid_one h5 g5 (ti := 62) (by kernel_rfl) Tryd.underlying62 rowEs Tryd.underlying142 Tryd.underlying144 rfl rfl Tryd.underlying9 cellsEs cellsStr
  have h6 := h5.tail
  have g6 : Tryd.prog.globalNamed "pub-droshky/pub/multihash.ErrVarintBufferShort" = some 14 := by kernel_rfl
  obtain ⟨a6, s6, hv6, hc6, hs6, he6⟩ := laid_one h6 g6 (ti := 62) (by kernel_rfl) Tryd.underlying62 rowEs Tryd.underlying142 Tryd.underlying144 rfl rfl Tryd.underlying9 cellsEs cellsStr
  have h7 := h6.tail
  have g7 : Tryd.prog.globalNamed "pub-droshky/pub/multihash.ErrVarintTooLong" = some 15 := by kernel_rfl
  obtain ⟨a7, s7, hv7, hc7, hs7, he7⟩ := laid_one h7 g7 (ti := 62) (by kernel_rfl) Tryd.underlying62 rowEs Tryd.underlying142 Tryd.underlying144 rfl rfl Tryd.underlying9 cellsEs cellsStr
  have h8 := h7.tail
  have h9 := h8.tail
  have g9 : Tryd.prog.globalNamed "pub-droshky/pub/index.ErrNotFound" = some 0 := by kernel_rfl
  obtain ⟨a9, s9, hv9, hc9, hs9, he9⟩ := laid_one h9 g9 (ti := 62) (by kernel_rfl) Tryd.underlying62 rowEs Tryd.underlying142 Tryd.underlying144 rfl rfl Tryd.underlying9 cellsEs cellsStr
  have h10 := h9.tail
  have g10 : Tryd.prog.globalNamed "pub-droshky/pub/index.errUnsupported" = some 2 := by kernel_rfl
  obtain ⟨a10, s10, hv10, hc10, hs10, he10⟩ := laid_one h10 g10 (ti := 62) (by kernel_rfl) Tryd.underlying62 rowEs Tryd.underlying142 Tryd.underlying144 rfl rfl Tryd.underlying9 cellsEs cellsStr
  exact ⟨a2, a3, a4, a5, a6, a7, a9, a10, ⟨by unfold Ee; simpa using World.var?_cell g2 hv2 0, he2⟩, ⟨by unfold Ee; simpa using World.var?_cell g3 hv3 0, he3⟩, ⟨by unfold Ee; simpa using World.var?_cell g4 hv4 0, he4⟩, ⟨by unfold Ee; simpa using World.var?_cell g5 hv5 0, he5⟩, ⟨by unfold Ee; simpa using World.var?_cell g6 hv6 0, he6⟩, ⟨by unfold Ee; simpa using World.var?_cell g7 hv7 0, he7⟩, ⟨by unfold Ee; simpa using World.var?_cell g9 hv9 0, he9⟩, ⟨by unfold Ee; simpa using World.var?_cell g10 hv10 0, he10⟩⟩

theorem cellsK : Tryd.prog.cellsOf 38 = 5 := by kernel_rfl
theorem cellsC : Tryd.prog.cellsOf 26 = 4 := by kernel_rfl
theorem cellsU : Tryd.prog.cellsOf 23 = 1 := by kernel_rfl
theorem cellsS : Tryd.prog.cellsOf 9 = 1 := by kernel_rfl
set_option maxRecDepth 100000 in
theorem contract (H : Type) (enc : TypeId × Value → H) (W : World) (base : Nat) (args : Array Value) (ds gs : List (DataW H)) (before : List MemPlace)
    (hval : ∀ (j : Nat) t v, Tryd.f4.params[j]? = some t → args[j]? = some v → Value.okWide Tryd.prog W .any base t v)
    (hW : DataW.Whole enc Tryd.prog Tryd.f4.params.toList Rows.fnIiGetSpec.vars false W args.toList ds gs before) (hL : laidMetH Tryd.prog Rows.fnIiGetRow.laid W) :
    Calls Tryd.prog 4 args W fun e W' => ∃ v, e = .returned v ∧ Rows.fnIiGetSpec.post enc Tryd.prog Tryd.f4 false true false false W args v W' := by
  have hW' := hW
  obtain ⟨p, q, hA0, hV, rfl, hfz, hnd⟩ := hW
  have hA : DataW.TrodAll enc Tryd.prog W 0 (fun _ => true) true Tryd.f4.params.toList args.toList ds p := hA0
  rw [Tryd.params4] at hA hval
  obtain ⟨v0, vs0, d0, ds0, p0, q0, hargs, rfl, rfl, h0, r0⟩ := trodAll_cons hA
  obtain ⟨v1, vs1, d1, ds1, p1, q1, rfl, rfl, rfl, h1, r1⟩ := trodAll_cons r0
  obtain ⟨rfl, rfl, rfl⟩ := trodAll_nil r1
  obtain rfl : args = #[v0, v1] := by cases args; simp_all
  obtain ⟨rfl, rfl⟩ := trodVars_none hV
  obtain ⟨sa0, sn0, sc0, sL0, rfl, shL0, shn0, shf0, shc0⟩ := open_ents Tryd.underlying31 Tryd.underlying38 cellsK rfl rfl cellsC cellsU Tryd.underlying26 rfl rfl rfl rfl cellsU cellsU cellsU cellsS Tryd.underlying23 Tryd.underlying23 Tryd.underlying23 Tryd.underlying9 Tryd.underlying23 (hval 0 31 v0 rfl rfl) h0
  obtain ⟨x1_0, x1_1, x1_2, x1_3, y1_0, y1_1, y1_2, y1_3, m1, rfl, rfl, _, k1_0, k1_1, k1_2, k1_3⟩ := open_agg4 Tryd.underlying26 (by kernel_rfl) cells26 (hval 1 26 v1 rfl rfl) h1
  obtain ⟨a1_0, e1_0, _, w1_0⟩ := DataW.trod_int Tryd.underlying23 k1_0
  simp at e1_0
  subst e1_0
  have b1_0 : 0 ≤ a1_0 ∧ a1_0 < 18446744073709551616 := by simp [Lit.wf, IntKind.max, IntKind.min, IntKind.signed, IntKind.bits] at w1_0; omega
  obtain ⟨a1_1, e1_1, _, w1_1⟩ := DataW.trod_int Tryd.underlying23 k1_1
  simp at e1_1
  subst e1_1
  have b1_1 : 0 ≤ a1_1 ∧ a1_1 < 18446744073709551616 := by simp [Lit.wf, IntKind.max, IntKind.min, IntKind.signed, IntKind.bits] at w1_1; omega
  obtain ⟨a1_2, e1_2, _, w1_2⟩ := DataW.trod_int Tryd.underlying23 k1_2
  simp at e1_2
  subst e1_2
  have b1_2 : 0 ≤ a1_2 ∧ a1_2 < 18446744073709551616 := by simp [Lit.wf, IntKind.max, IntKind.min, IntKind.signed, IntKind.bits] at w1_2; omega
  obtain ⟨s1, e1_3, _, hs1⟩ := DataW.trod_string Tryd.underlying9 k1_3
  simp at e1_3
  subst e1_3
  obtain ⟨a1_3, rfl⟩ : ∃ l : List UInt8, s1 = ⟨l.toArray⟩ := ⟨s1.data.toList, rfl⟩
  have b1_3 : a1_3.length ≤ 9223372036854775807 := hs1
  obtain ⟨ad_ErrOverflow, ad_ErrUnderflow, ad_ErrNotMinimal, ad_ErrTooShort, ad_ErrVarintBufferShort, ad_ErrVarintTooLong, ad_ErrNotFound, ad_errUnsupported, ⟨ee_ErrOverflow, eh_ErrOverflow⟩, ⟨ee_ErrUnderflow, eh_ErrUnderflow⟩, ⟨ee_ErrNotMinimal, eh_ErrNotMinimal⟩, ⟨ee_ErrTooShort, eh_ErrTooShort⟩, ⟨ee_ErrVarintBufferShort, eh_ErrVarintBufferShort⟩, ⟨ee_ErrVarintTooLong, eh_ErrVarintTooLong⟩, ⟨ee_ErrNotFound, eh_ErrNotFound⟩, ⟨ee_errUnsupported, eh_errUnsupported⟩⟩ := errs hL
  have er_ErrOverflow := ee_ErrOverflow.er
  have er_ErrUnderflow := ee_ErrUnderflow.er
  have er_ErrNotMinimal := ee_ErrNotMinimal.er
  have er_ErrTooShort := ee_ErrTooShort.er
  have er_ErrVarintBufferShort := ee_ErrVarintBufferShort.er
  have er_ErrVarintTooLong := ee_ErrVarintTooLong.er
  have er_ErrNotFound := ee_ErrNotFound.er
  have er_errUnsupported := ee_errUnsupported.er
  refine (fnIiGet_law sa0 sn0 sc0 sL0 a1_0 a1_1 a1_2 a1_3 ad_ErrNotFound W shL0 shn0 shf0 shc0 b1_0 b1_1 b1_2 b1_3 ⟨er_ErrOverflow, er_ErrNotMinimal, er_ErrUnderflow, er_ErrTooShort⟩ ee_ErrNotFound).mono fun e W' ⟨he, hb⟩ => ?_
  subst he
  exact ⟨_, rfl, law_post laidOut (by rw [Tryd.params4]; intro t ht; simp at ht; rcases ht with rfl | rfl <;> exact ⟨by kernel_rfl, of_decide_eq_true (by kernel_rfl)⟩) rfl Tryd.underlying4 rfl rfl rfl rfl hW' hb⟩

abbrev str2 : ByteArray := { data := #[118, 97, 114, 105, 110, 116, 115, 32, 108, 97, 114, 103, 101, 114, 32, 116, 104, 97, 110, 32, 117, 105, 110, 116, 54, 51, 32, 110, 111, 116, 32, 115, 117, 112, 112, 111, 114, 116, 101, 100] }
abbrev str3 : ByteArray := { data := #[118, 97, 114, 105, 110, 116, 115, 32, 109, 97, 108, 102, 111, 114, 109, 101, 100, 44, 32, 99, 111, 117, 108, 100, 32, 110, 111, 116, 32, 114, 101, 97, 99, 104, 32, 116, 104, 101, 32, 101, 110, 100] }
abbrev str4 : ByteArray := { data := #[118, 97, 114, 105, 110, 116, 32, 110, 111, 116, 32, 109, 105, 110, 105, 109, 97, 108, 108, 121, 32, 101, 110, 99, 111, 100, 101, 100] }
abbrev str5 : ByteArray := { data := #[109, 117, 108, 116, 105, 104, 97, 115, 104, 32, 116, 111, 111, 32, 115, 104, 111, 114, 116, 46, 32, 109, 117, 115, 116, 32, 98, 101, 32, 62, 61, 32, 50, 32, 98, 121, 116, 101, 115] }
abbrev str6 : ByteArray := { data := #[117, 118, 97, 114, 105, 110, 116, 58, 32, 98, 117, 102, 102, 101, 114, 32, 116, 111, 111, 32, 115, 109, 97, 108, 108] }
abbrev str7 : ByteArray := { data := #[117, 118, 97, 114, 105, 110, 116, 58, 32, 118, 97, 114, 105, 110, 116, 32, 116, 111, 111, 32, 98, 105, 103, 32, 40, 109, 97, 120, 32, 54, 52, 98, 105, 116, 41] }
abbrev str9 : ByteArray := { data := #[110, 111, 116, 32, 102, 111, 117, 110, 100] }
abbrev str10 : ByteArray := { data := #[110, 111, 116, 32, 115, 117, 112, 112, 111, 114, 116, 101, 100] }
noncomputable def low : Nat := (World.holding Tryd.prog default ⟨#[], #[], []⟩).heap.size
/-- A world for the witness: the settled one, each listed variable holding an error that leads to its text. -/
noncomputable def laidWorld (os : Os) : World :=
  let w0 := World.holding Tryd.prog os ⟨#[.cells #[.string str2] 144, .cells #[.string str3] 144, .cells #[.string str4] 144, .cells #[.string str5] 144, .cells #[.string str6] 144, .cells #[.string str7] 144, .cells #[.string str9] 144, .cells #[.string str10] 144], #[], []⟩
  { w0 with heap := ((((((((w0.heap.modify 7 fun | .cells _ t frozen => .cells #[.iface 142 (.pointer (some ⟨low + 0, 0, none⟩))] t frozen | o => o).modify 9 fun | .cells _ t frozen => .cells #[.iface 142 (.pointer (some ⟨low + 1, 0, none⟩))] t frozen | o => o).modify 8 fun | .cells _ t frozen => .cells #[.iface 142 (.pointer (some ⟨low + 2, 0, none⟩))] t frozen | o => o).modify 13 fun | .cells _ t frozen => .cells #[.iface 142 (.pointer (some ⟨low + 3, 0, none⟩))] t frozen | o => o).modify 14 fun | .cells _ t frozen => .cells #[.iface 142 (.pointer (some ⟨low + 4, 0, none⟩))] t frozen | o => o).modify 15 fun | .cells _ t frozen => .cells #[.iface 142 (.pointer (some ⟨low + 5, 0, none⟩))] t frozen | o => o).modify 0 fun | .cells _ t frozen => .cells #[.iface 142 (.pointer (some ⟨low + 6, 0, none⟩))] t frozen | o => o).modify 2 fun | .cells _ t frozen => .cells #[.iface 142 (.pointer (some ⟨low + 7, 0, none⟩))] t frozen | o => o) }
theorem laid_met (os : Os) : laidMet Tryd.prog Rows.fnIiGetRow.laid ((laidWorld os).forCall (fun _ _ => 0) ⟨#[], #[.slice none 0 0, .agg #[.int .u64 0, .int .u64 0, .int .u64 0, .string ByteArray.empty]], []⟩).memory :=
  laidMet_of_run' 8 (by kernel_rfl) (by kernel_rfl)
theorem reads (os : Os) {H : Type} (enc : TypeId × Value → H) : ∃ places, DataW.whole enc Tryd.prog ((laidWorld os).forCall (fun _ _ => 0) ⟨#[], #[.slice none 0 0, .agg #[.int .u64 0, .int .u64 0, .int .u64 0, .string ByteArray.empty]], []⟩).memory Tryd.f4.params.toList Rows.fnIiGetSpec.vars false (#[.slice none 0 0, .agg #[.int .u64 0, .int .u64 0, .int .u64 0, .string ByteArray.empty]] : Array Value).toList 8 = some ([.nil, .agg [.lit (.int .u64 0), .lit (.int .u64 0), .lit (.int .u64 0), .lit (.string [])]], [], places) :=
  ⟨[], by kernel_rfl⟩
set_option maxRecDepth 100000 in
theorem lifted (os : Os) (started : os.Started) (H : Type) (enc : TypeId × Value → H) (F : Stop.Interp) :
    ReturnsInHanded {} Tryd.checked os 4 .any ((OpenSpec.ofChange Rows.fnIiGetSpec).preRow enc Tryd.prog Tryd.f4 Rows.fnIiGetRow.domain false Rows.fnIiGetRow.laid) (((OpenSpec.ofChange Rows.fnIiGetSpec).at F).post enc Tryd.prog Tryd.f4 false true false false) := by
  obtain ⟨places, hx⟩ := reads os enc
  refine returnsInHanded_of_row (C := Tryd.checked) (s := OpenSpec.ofChange Rows.fnIiGetSpec) own started (by kernel_rfl) Tryd.func4
    (witness_row_at (enc := enc) (C := Tryd.checked) false (laidWorld os) #[.slice none 0 0, .agg #[.int .u64 0, .int .u64 0, .int .u64 0, .string ByteArray.empty]] rfl (by kernel_rfl) (by kernel_rfl) (by kernel_rfl)
      (OpenSpec.preRow_of_cond 8 hx (by kernel_rfl) (fun k hk => by cases hk) (by kernel_rfl) (laid_met os))) ?_
  intro W base args ds gs before hval hW _ _ _ hL _ _
  exact contract H enc W base args ds gs before hval hW hL
theorem said : Rows.FnIiGetSaid :=
  OpenClaim.holds_of_cond 4 Tryd.f4 rfl rfl rfl rfl rfl rfl rfl ⟨rfl, rfl, rfl, rfl, rfl⟩ rfl rfl rfl rfl rfl (by kernel_rfl) Tryd.func4 (by kernel_rfl)
    (of_decide_eq_true (by kernel_rfl)) (by unfold Func.isWrapper; first | (rw [if_pos (by decide +kernel)]; kernel_rfl) | (rw [if_neg (by decide +kernel)]; exact ⟨rfl, rfl⟩))
    (fun os started H enc _ F => by rw [OpenClaim.pre_eq_preRow]; exact lifted os started H enc F)
theorem plain (f : FuncId) (fn : Func) (hf : Tryd.pinned.checked.prog.funcNamed "pub-droshky/laws.FnIiGet" = some f) (hfn : Tryd.pinned.checked.prog.funcs[f]? = some fn) :
    true = Tryd.pinned.checked.prog.looks [] ∧ ∀ (j : Nat) t, fn.params[j]? = some t → Tryd.pinned.checked.prog.wantsStandIn t = false := by
  obtain rfl : f = 4 := Option.some.inj ((show Tryd.prog.funcNamed "pub-droshky/laws.FnIiGet" = some 4 by kernel_rfl).symm.trans hf) |>.symm
  obtain rfl : fn = Tryd.f4 := (Option.some.inj (Tryd.func4.symm.trans hfn)).symm
  refine ⟨by kernel_rfl, fun j t ht => ?_⟩
  rw [Tryd.params4] at ht
  have hm := Array.mem_of_getElem? ht
  simp at hm
  rcases hm with rfl | rfl
  · exact (show Tryd.prog.wantsStandIn 31 = false by kernel_rfl)
  · exact (show Tryd.prog.wantsStandIn 26 = false by kernel_rfl)
/-- THE CARD. -/
theorem card : Rows.FnIiGetCardSaid :=
  Claim7.holds_tied_plain_at .later [] _ _ _ _ said (fun _ h => by cases h) (by kernel_rfl) (fun _ h => by cases h) fnIiGet_row_tie rfl ⟨rfl, rfl⟩ (by kernel_rfl) rfl plain (by kernel_rfl)
#print axioms card
end Go.Proofs.YtdfhfaeeejijcaaDoor.fnIiGet
