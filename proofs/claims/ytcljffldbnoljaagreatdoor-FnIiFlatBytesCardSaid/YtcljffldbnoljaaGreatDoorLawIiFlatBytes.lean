/-
  FnIiFlatBytes: for every input the law returns true, and its arguments read behind the call as they read before; the variables that the row lists are as the program's text lays them. Conditions: none but the row's own.
-/
import Derived.Test.YtcljffldbnoljaaGreatDoorJu
import Derived.Test.YtcljffldbnoljaaGreatDoorCards
import Derived.Test.YtcljffldbnoljaaGreatDoorTie
import Derived.WalkKit
import Derived.ProofKit
import Derived.OpenShut
import Derived.Deep.DeepHandedRow
import Derived.Lib.LaidTab
import Derived.Stop.LaidErr
import Derived.Stop.ErrReads
import Derived.Deep.DeepLaidRun
namespace Go.Proofs.YtcljffldbnoljaaGreatDoor.fnIiFlatBytes
open Go.ChangeShapes Go.WideShapes Go.ChangeAt Go.RowKit Go.Joins Go.Deep

theorem own : ownKnob Tryz.prog.godebug = none := by kernel_rfl
theorem laidOut : laidOutB Tryz.prog = true := by kernel_rfl
theorem cellsEs : Tryz.prog.cellsOf 138 = 1 := by kernel_rfl
theorem cellsStr : Tryz.prog.cellsOf 9 = 1 := by kernel_rfl
theorem star : "*" ++ "errors.errorString" = "*errors.errorString" := by decide
theorem rowEs (u : TypeId) (h : Tryz.prog.typeName? 3 u = some "*errors.errorString") : u = 136 :=
  typeName_ptr_named (nm := "errors.errorString") (by rw [star]; kernel_rfl) (by kernel_rfl) (by decide) u (by rw [star]; exact h)
/-- The listed errors are not nil. -/
theorem errs {W : World} (h : laidMetH Tryz.prog Rows.fnIiFlatBytesRow.laid W) : Er W 3 ∧ Er W 5 ∧ Er W 4 ∧ Er W 7 ∧ Er W 8 ∧ Er W 9 := by
  have h0 : laidMet Tryz.prog [("pub-droshky/pub/llrb.ninf", Rows.laid_pub_droshky_pub_llrb_ninf), ("pub-droshky/pub/llrb.pinf", Rows.laid_pub_droshky_pub_llrb_pinf), ("pub-droshky/pub/varint.ErrOverflow", Rows.laid_pub_droshky_pub_varint_ErrOverflow), ("pub-droshky/pub/varint.ErrUnderflow", Rows.laid_pub_droshky_pub_varint_ErrUnderflow), ("pub-droshky/pub/varint.ErrNotMinimal", Rows.laid_pub_droshky_pub_varint_ErrNotMinimal), ("pub-droshky/pub/multihash.ErrTooShort", Rows.laid_pub_droshky_pub_multihash_ErrTooShort), ("pub-droshky/pub/multihash.ErrVarintBufferShort", Rows.laid_pub_droshky_pub_multihash_ErrVarintBufferShort), ("pub-droshky/pub/multihash.ErrVarintTooLong", Rows.laid_pub_droshky_pub_multihash_ErrVarintTooLong), ("pub-droshky/pub/cid.Undef", Rows.laid_pub_droshky_pub_cid_Undef)] W := h
  have h1 := h0.tail
  have h2 := h1.tail
  have g2 : Tryz.prog.globalNamed "pub-droshky/pub/varint.ErrOverflow" = some 3 := by kernel_rfl
  obtain ⟨a2, s2, hv2, _⟩ := laid_sentinel h2 g2 (ti := 42) (by kernel_rfl) Tryz.underlying42 rowEs Tryz.underlying136 Tryz.underlying138 rfl rfl Tryz.underlying9 cellsEs cellsStr
  have h3 := h2.tail
  have g3 : Tryz.prog.globalNamed "pub-droshky/pub/varint.ErrUnderflow" = some 5 := by kernel_rfl
  obtain ⟨a3, s3, hv3, _⟩ := laid_sentinel h3 g3 (ti := 42) (by kernel_rfl) Tryz.underlying42 rowEs Tryz.underlying136 Tryz.underlying138 rfl rfl Tryz.underlying9 cellsEs cellsStr
  have h4 := h3.tail
  have g4 : Tryz.prog.globalNamed "pub-droshky/pub/varint.ErrNotMinimal" = some 4 := by kernel_rfl
  obtain ⟨a4, s4, hv4, _⟩ := laid_sentinel h4 g4 (ti := 42) (by kernel_rfl) Tryz.underlying42 rowEs Tryz.underlying136 Tryz.underlying138 rfl rfl Tryz.underlying9 cellsEs cellsStr
  have h5 := h4.tail
  have g5 : Tryz.prog.globalNamed "pub-droshky/pub/multihash.ErrTooShort" = some 7 := by kernel_rfl
  obtain ⟨a5, s5, hv5, _⟩ := laid_sentinel h5 g5 (ti := 42) (by kernel_rfl) Tryz.underlying42 rowEs Tryz.underlying136 Tryz.underlying138 rfl rfl Tryz.underlying9 cellsEs cellsStr
  have h6 := h5.tail
  have g6 : Tryz.prog.globalNamed "pub-droshky/pub/multihash.ErrVarintBufferShort" = some 8 := by kernel_rfl
  obtain ⟨a6, s6, hv6, _⟩ := laid_sentinel h6 g6 (ti := 42) (by kernel_rfl) Tryz.underlying42 rowEs Tryz.underlying136 Tryz.underlying138 rfl rfl Tryz.underlying9 cellsEs cellsStr
  have h7 := h6.tail
  have g7 : Tryz.prog.globalNamed "pub-droshky/pub/multihash.ErrVarintTooLong" = some 9 := by kernel_rfl
  obtain ⟨a7, s7, hv7, _⟩ := laid_sentinel h7 g7 (ti := 42) (by kernel_rfl) Tryz.underlying42 rowEs Tryz.underlying136 Tryz.underlying138 rfl rfl Tryz.underlying9 cellsEs cellsStr
  have h8 := h7.tail
  exact ⟨⟨_, _, by simpa using World.var?_cell g2 hv2 0⟩, ⟨_, _, by simpa using World.var?_cell g3 hv3 0⟩, ⟨_, _, by simpa using World.var?_cell g4 hv4 0⟩, ⟨_, _, by simpa using World.var?_cell g5 hv5 0⟩, ⟨_, _, by simpa using World.var?_cell g6 hv6 0⟩, ⟨_, _, by simpa using World.var?_cell g7 hv7 0⟩⟩

theorem cellsK : Tryz.prog.cellsOf 33 = 5 := by kernel_rfl
theorem cellsC : Tryz.prog.cellsOf 31 = 4 := by kernel_rfl
theorem cellsU : Tryz.prog.cellsOf 25 = 1 := by kernel_rfl
theorem cellsS : Tryz.prog.cellsOf 9 = 1 := by kernel_rfl
set_option maxRecDepth 100000 in
theorem contract (H : Type) (enc : TypeId × Value → H) (W : World) (base : Nat) (args : Array Value) (ds gs : List (DataW H)) (before : List MemPlace)
    (hval : ∀ (j : Nat) t v, Tryz.f3.params[j]? = some t → args[j]? = some v → Value.okWide Tryz.prog W .any base t v)
    (hW : DataW.Whole enc Tryz.prog Tryz.f3.params.toList Rows.fnIiFlatBytesSpec.vars false W args.toList ds gs before) (hL : laidMetH Tryz.prog Rows.fnIiFlatBytesRow.laid W) :
    Calls Tryz.prog 3 args W fun e W' => ∃ v, e = .returned v ∧ Rows.fnIiFlatBytesSpec.post enc Tryz.prog Tryz.f3 false true false false W args v W' := by
  have hW' := hW
  obtain ⟨p, q, hA0, hV, rfl, hfz, hnd⟩ := hW
  have hA : DataW.TrodAll enc Tryz.prog W 0 (fun _ => true) true Tryz.f3.params.toList args.toList ds p := hA0
  rw [Tryz.params3] at hA hval
  obtain ⟨v0, vs0, d0, ds0, p0, q0, hargs, rfl, rfl, h0, r0⟩ := trodAll_cons hA
  obtain ⟨v1, vs1, d1, ds1, p1, q1, rfl, rfl, rfl, h1, r1⟩ := trodAll_cons r0
  obtain ⟨v2, vs2, d2, ds2, p2, q2, rfl, rfl, rfl, h2, r2⟩ := trodAll_cons r1
  obtain ⟨rfl, rfl, rfl⟩ := trodAll_nil r2
  obtain rfl : args = #[v0, v1, v2] := by cases args; simp_all
  obtain ⟨rfl, rfl⟩ := trodVars_none hV
  obtain ⟨sa0, sn0, sc0, sL0, rfl, shL0, shn0, shf0, shk0, shc0⟩ := open_entsC Tryz.underlying22 Tryz.underlying33 cellsK rfl rfl cellsC cellsU Tryz.underlying31 rfl rfl rfl rfl cellsU cellsU cellsU cellsS Tryz.underlying25 Tryz.underlying25 Tryz.underlying25 Tryz.underlying9 Tryz.underlying25 (hval 0 22 v0 rfl rfl) h0
  obtain ⟨a1, rfl, rfl, rfl⟩ := open_bool Tryz.underlying4 (hval 1 4 v1 rfl rfl) h1
  obtain ⟨a2, rfl, rfl, rfl, wa2⟩ := open_int Tryz.underlying5 (hval 2 5 v2 rfl rfl) h2
  have b2 : 0 ≤ a2 := by simp [Lit.wf, IntKind.min, IntKind.signed] at wa2; omega
  have c2 : a2 < 256 := by simp [Lit.wf, IntKind.max, IntKind.min, IntKind.signed, IntKind.bits] at wa2; omega
  obtain ⟨er_ErrOverflow, er_ErrUnderflow, er_ErrNotMinimal, er_ErrTooShort, er_ErrVarintBufferShort, er_ErrVarintTooLong⟩ := errs hL
  refine (fnIiFlatBytes_law sa0 sn0 sc0 sL0 a1 a2 W shL0 shn0 shf0 shk0 shc0 b2 c2 ⟨er_ErrOverflow, er_ErrNotMinimal, er_ErrUnderflow, er_ErrTooShort⟩).mono fun e W' ⟨he, hb⟩ => ?_
  subst he
  exact ⟨_, rfl, law_post laidOut (by rw [Tryz.params3]; intro t ht; simp at ht; rcases ht with rfl | rfl | rfl <;> exact ⟨by kernel_rfl, of_decide_eq_true (by kernel_rfl)⟩) rfl Tryz.underlying4 rfl rfl rfl rfl hW' hb⟩

abbrev str2 : ByteArray := { data := #[118, 97, 114, 105, 110, 116, 115, 32, 108, 97, 114, 103, 101, 114, 32, 116, 104, 97, 110, 32, 117, 105, 110, 116, 54, 51, 32, 110, 111, 116, 32, 115, 117, 112, 112, 111, 114, 116, 101, 100] }
abbrev str3 : ByteArray := { data := #[118, 97, 114, 105, 110, 116, 115, 32, 109, 97, 108, 102, 111, 114, 109, 101, 100, 44, 32, 99, 111, 117, 108, 100, 32, 110, 111, 116, 32, 114, 101, 97, 99, 104, 32, 116, 104, 101, 32, 101, 110, 100] }
abbrev str4 : ByteArray := { data := #[118, 97, 114, 105, 110, 116, 32, 110, 111, 116, 32, 109, 105, 110, 105, 109, 97, 108, 108, 121, 32, 101, 110, 99, 111, 100, 101, 100] }
abbrev str5 : ByteArray := { data := #[109, 117, 108, 116, 105, 104, 97, 115, 104, 32, 116, 111, 111, 32, 115, 104, 111, 114, 116, 46, 32, 109, 117, 115, 116, 32, 98, 101, 32, 62, 61, 32, 50, 32, 98, 121, 116, 101, 115] }
abbrev str6 : ByteArray := { data := #[117, 118, 97, 114, 105, 110, 116, 58, 32, 98, 117, 102, 102, 101, 114, 32, 116, 111, 111, 32, 115, 109, 97, 108, 108] }
abbrev str7 : ByteArray := { data := #[117, 118, 97, 114, 105, 110, 116, 58, 32, 118, 97, 114, 105, 110, 116, 32, 116, 111, 111, 32, 98, 105, 103, 32, 40, 109, 97, 120, 32, 54, 52, 98, 105, 116, 41] }
noncomputable def low : Nat := (World.holding Tryz.prog default ⟨#[], #[], []⟩).heap.size
/-- A world for the witness: the settled one, each listed variable holding an error that leads to its text. -/
noncomputable def laidWorld (os : Os) : World :=
  let w0 := World.holding Tryz.prog os ⟨#[.cells #[.string str2] 138, .cells #[.string str3] 138, .cells #[.string str4] 138, .cells #[.string str5] 138, .cells #[.string str6] 138, .cells #[.string str7] 138], #[], []⟩
  { w0 with heap := ((((((w0.heap.modify 3 fun | .cells _ t frozen => .cells #[.iface 136 (.pointer (some ⟨low + 0, 0, none⟩))] t frozen | o => o).modify 5 fun | .cells _ t frozen => .cells #[.iface 136 (.pointer (some ⟨low + 1, 0, none⟩))] t frozen | o => o).modify 4 fun | .cells _ t frozen => .cells #[.iface 136 (.pointer (some ⟨low + 2, 0, none⟩))] t frozen | o => o).modify 7 fun | .cells _ t frozen => .cells #[.iface 136 (.pointer (some ⟨low + 3, 0, none⟩))] t frozen | o => o).modify 8 fun | .cells _ t frozen => .cells #[.iface 136 (.pointer (some ⟨low + 4, 0, none⟩))] t frozen | o => o).modify 9 fun | .cells _ t frozen => .cells #[.iface 136 (.pointer (some ⟨low + 5, 0, none⟩))] t frozen | o => o) }
theorem laid_met (os : Os) : laidMet Tryz.prog Rows.fnIiFlatBytesRow.laid ((laidWorld os).forCall (fun _ _ => 0) ⟨#[], #[.slice none 0 0, .bool false, .int .u8 0], []⟩).memory :=
  laidMet_of_run' 8 (by kernel_rfl) (by kernel_rfl)
theorem reads (os : Os) {H : Type} (enc : TypeId × Value → H) : ∃ places, DataW.whole enc Tryz.prog ((laidWorld os).forCall (fun _ _ => 0) ⟨#[], #[.slice none 0 0, .bool false, .int .u8 0], []⟩).memory Tryz.f3.params.toList Rows.fnIiFlatBytesSpec.vars false (#[.slice none 0 0, .bool false, .int .u8 0] : Array Value).toList 8 = some ([.nil, .lit (.bool false), .lit (.int .u8 0)], [], places) :=
  ⟨[], by kernel_rfl⟩
set_option maxRecDepth 100000 in
theorem lifted (os : Os) (started : os.Started) (H : Type) (enc : TypeId × Value → H) (F : Stop.Interp) :
    ReturnsInHanded {} Tryz.checked os 3 .any ((OpenSpec.ofChange Rows.fnIiFlatBytesSpec).preRow enc Tryz.prog Tryz.f3 Rows.fnIiFlatBytesRow.domain false Rows.fnIiFlatBytesRow.laid) (((OpenSpec.ofChange Rows.fnIiFlatBytesSpec).at F).post enc Tryz.prog Tryz.f3 false true false false) := by
  obtain ⟨places, hx⟩ := reads os enc
  refine returnsInHanded_of_row (C := Tryz.checked) (s := OpenSpec.ofChange Rows.fnIiFlatBytesSpec) own started (by kernel_rfl) Tryz.func3
    (witness_row_at (enc := enc) (C := Tryz.checked) false (laidWorld os) #[.slice none 0 0, .bool false, .int .u8 0] rfl (by kernel_rfl) (by kernel_rfl) (by kernel_rfl)
      (OpenSpec.preRow_of_cond 8 hx (by kernel_rfl) (fun k hk => by cases hk) (by kernel_rfl) (laid_met os))) ?_
  intro W base args ds gs before hval hW _ _ _ hL _ _
  exact contract H enc W base args ds gs before hval hW hL
theorem said : Rows.FnIiFlatBytesSaid :=
  OpenClaim.holds_of_cond 3 Tryz.f3 rfl rfl rfl rfl rfl rfl rfl ⟨rfl, rfl, rfl, rfl, rfl⟩ rfl rfl rfl rfl rfl (by kernel_rfl) Tryz.func3 (by kernel_rfl)
    (of_decide_eq_true (by kernel_rfl)) (by unfold Func.isWrapper; first | (rw [if_pos (by decide +kernel)]; kernel_rfl) | (rw [if_neg (by decide +kernel)]; exact ⟨rfl, rfl⟩))
    (fun os started H enc _ F => by rw [OpenClaim.pre_eq_preRow]; exact lifted os started H enc F)
theorem plain (f : FuncId) (fn : Func) (hf : Tryz.pinned.checked.prog.funcNamed "pub-droshky/laws.FnIiFlatBytes" = some f) (hfn : Tryz.pinned.checked.prog.funcs[f]? = some fn) :
    true = Tryz.pinned.checked.prog.looks [] ∧ ∀ (j : Nat) t, fn.params[j]? = some t → Tryz.pinned.checked.prog.wantsStandIn t = false := by
  obtain rfl : f = 3 := Option.some.inj ((show Tryz.prog.funcNamed "pub-droshky/laws.FnIiFlatBytes" = some 3 by kernel_rfl).symm.trans hf) |>.symm
  obtain rfl : fn = Tryz.f3 := (Option.some.inj (Tryz.func3.symm.trans hfn)).symm
  refine ⟨by kernel_rfl, fun j t ht => ?_⟩
  rw [Tryz.params3] at ht
  have hm := Array.mem_of_getElem? ht
  simp at hm
  rcases hm with rfl | rfl | rfl
  · exact (show Tryz.prog.wantsStandIn 22 = false by kernel_rfl)
  · exact (show Tryz.prog.wantsStandIn 4 = false by kernel_rfl)
  · exact (show Tryz.prog.wantsStandIn 5 = false by kernel_rfl)
/-- THE CARD. -/
theorem card : Rows.FnIiFlatBytesCardSaid :=
  Claim7.holds_tied_plain_at .later [] _ _ _ _ said (fun _ h => by cases h) (by kernel_rfl) (fun _ h => by cases h) fnIiFlatBytes_row_tie rfl ⟨rfl, rfl⟩ (by kernel_rfl) rfl plain (by kernel_rfl)
#print axioms card
end Go.Proofs.YtcljffldbnoljaaGreatDoor.fnIiFlatBytes
