/-
  FnHdTurned: for every input the law returns true, and its arguments read behind the call as they read before; the variables that the row lists are as the program's text lays them. Conditions: none but the row's own.
-/
import Derived.Test.YtdfhfaeeejijcaaDoorCards
import Derived.Test.YtdfhfaeeejijcaaDoorTie
import Derived.Test.YtdfhfaeeejijcaaDoorHdT
import Derived.WalkKit
import Derived.ProofKit
import Derived.OpenShut
import Derived.Deep.DeepHandedRow
import Derived.Lib.LaidTab
import Derived.Stop.LaidErr
import Derived.Stop.ErrReads
import Derived.Deep.DeepLaidRun
import Derived.ChangeMaps5
namespace Go.Proofs.YtdfhfaeeejijcaaDoor.fnHdTurned
open Go.ChangeShapes Go.WideShapes Go.ChangeAt Go.RowKit Go.Joins Go.Deep

theorem own : ownKnob Tryd.prog.godebug = none := by kernel_rfl
theorem laidOut : laidOutB Tryd.prog = true := by kernel_rfl
theorem cells26 : Tryd.prog.cellsOf 26 = 4 := by kernel_rfl
theorem cellsEs : Tryd.prog.cellsOf 144 = 1 := by kernel_rfl
theorem cellsStr : Tryd.prog.cellsOf 9 = 1 := by kernel_rfl
theorem star : "*" ++ "errors.errorString" = "*errors.errorString" := by decide
theorem rowEs (u : TypeId) (h : Tryd.prog.typeName? 3 u = some "*errors.errorString") : u = 142 :=
  typeName_ptr_named (nm := "errors.errorString") (by rw [star]; kernel_rfl) (by kernel_rfl) (by decide) u (by rw [star]; exact h)
/-- The listed errors are not nil. -/
theorem errs {W : World} (h : laidMetH Tryd.prog Rows.fnHdTurnedRow.laid W) : Er W 7 ∧ Er W 9 ∧ Er W 8 ∧ Er W 13 ∧ Er W 14 ∧ Er W 15 := by
  have h0 : laidMet Tryd.prog [("pub-droshky/pub/varint.ErrOverflow", Rows.laid_pub_droshky_pub_varint_ErrOverflow), ("pub-droshky/pub/varint.ErrUnderflow", Rows.laid_pub_droshky_pub_varint_ErrUnderflow), ("pub-droshky/pub/varint.ErrNotMinimal", Rows.laid_pub_droshky_pub_varint_ErrNotMinimal), ("pub-droshky/pub/multihash.ErrTooShort", Rows.laid_pub_droshky_pub_multihash_ErrTooShort), ("pub-droshky/pub/multihash.ErrVarintBufferShort", Rows.laid_pub_droshky_pub_multihash_ErrVarintBufferShort), ("pub-droshky/pub/multihash.ErrVarintTooLong", Rows.laid_pub_droshky_pub_multihash_ErrVarintTooLong), ("pub-droshky/pub/cid.Undef", Rows.laid_pub_droshky_pub_cid_Undef)] W := h
  have g0 : Tryd.prog.globalNamed "pub-droshky/pub/varint.ErrOverflow" = some 7 := by kernel_rfl
  obtain ⟨a0, s0, hv0, _⟩ := laid_sentinel h0 g0 (ti := 62) (by kernel_rfl) Tryd.underlying62 rowEs Tryd.underlying142 Tryd.underlying144 rfl rfl Tryd.underlying9 cellsEs cellsStr
  have h1 := h0.tail
  have g1 : Tryd.prog.globalNamed "pub-droshky/pub/varint.ErrUnderflow" = some 9 := by kernel_rfl
  obtain ⟨a1, s1, hv1, _⟩ := laid_sentinel h1 g1 (ti := 62) (by kernel_rfl) Tryd.underlying62 rowEs Tryd.underlying142 Tryd.underlying144 rfl rfl Tryd.underlying9 cellsEs cellsStr
  have h2 := h1.tail
  have g2 : Tryd.prog.globalNamed "pub-droshky/pub/varint.ErrNotMinimal" = some 8 := by kernel_rfl
  obtain ⟨a2, s2, hv2, _⟩ := laid_sentinel h2 g2 (ti := 62) (by kernel_rfl) Tryd.underlying62 rowEs Tryd.underlying142 Tryd.underlying144 rfl rfl Tryd.underlying9 cellsEs cellsStr
  have h3 := h2.tail
  have g3 : Tryd.prog.globalNamed "pub-droshky/pub/multihash.ErrTooShort" = some 13 := by kernel_rfl
  obtain ⟨a3, s3, hv3, _⟩ := laid_sentinel h3 g3 (ti := 62) (by kernel_rfl) Tryd.underlying62 rowEs Tryd.underlying142 Tryd.underlying144 rfl rfl Tryd.underlying9 cellsEs cellsStr
  have h4 := h3.tail
  have g4 : Tryd.prog.globalNamed "pub-droshky/pub/multihash.ErrVarintBufferShort" = some 14 := by kernel_rfl
  obtain ⟨a4, s4, hv4, _⟩ := laid_sentinel h4 g4 (ti := 62) (by kernel_rfl) Tryd.underlying62 rowEs Tryd.underlying142 Tryd.underlying144 rfl rfl Tryd.underlying9 cellsEs cellsStr
  have h5 := h4.tail
  have g5 : Tryd.prog.globalNamed "pub-droshky/pub/multihash.ErrVarintTooLong" = some 15 := by kernel_rfl
  obtain ⟨a5, s5, hv5, _⟩ := laid_sentinel h5 g5 (ti := 62) (by kernel_rfl) Tryd.underlying62 rowEs Tryd.underlying142 Tryd.underlying144 rfl rfl Tryd.underlying9 cellsEs cellsStr
  have h6 := h5.tail
  exact ⟨⟨_, _, by simpa using World.var?_cell g0 hv0 0⟩, ⟨_, _, by simpa using World.var?_cell g1 hv1 0⟩, ⟨_, _, by simpa using World.var?_cell g2 hv2 0⟩, ⟨_, _, by simpa using World.var?_cell g3 hv3 0⟩, ⟨_, _, by simpa using World.var?_cell g4 hv4 0⟩, ⟨_, _, by simpa using World.var?_cell g5 hv5 0⟩⟩

theorem cellsU : Tryd.prog.cellsOf 23 = 1 := by kernel_rfl
theorem cellsS : Tryd.prog.cellsOf 9 = 1 := by kernel_rfl
theorem cellsB : Tryd.prog.cellsOf 5 = 1 := by kernel_rfl
set_option maxRecDepth 100000 in
theorem contract (H : Type) (enc : TypeId × Value → H) (W : World) (base : Nat) (args : Array Value) (ds gs : List (DataW H)) (before : List MemPlace)
    (hval : ∀ (j : Nat) t v, Tryd.f3.params[j]? = some t → args[j]? = some v → Value.okWide Tryd.prog W .any base t v)
    (hW : DataW.Whole enc Tryd.prog Tryd.f3.params.toList Rows.fnHdTurnedSpec.vars false W args.toList ds gs before) (hL : laidMetH Tryd.prog Rows.fnHdTurnedRow.laid W) :
    Calls Tryd.prog 3 args W fun e W' => ∃ v, e = .returned v ∧ Rows.fnHdTurnedSpec.post enc Tryd.prog Tryd.f3 false true false false W args v W' := by
  have hW' := hW
  obtain ⟨p, q, hA0, hV, rfl, hfz, hnd⟩ := hW
  have hA : DataW.TrodAll enc Tryd.prog W 0 (fun _ => true) true Tryd.f3.params.toList args.toList ds p := hA0
  rw [Tryd.params3] at hA hval
  obtain ⟨v0, vs0, d0, ds0, p0, q0, hargs, rfl, rfl, h0, r0⟩ := trodAll_cons hA
  obtain ⟨v1, vs1, d1, ds1, p1, q1, rfl, rfl, rfl, h1, r1⟩ := trodAll_cons r0
  obtain ⟨v2, vs2, d2, ds2, p2, q2, rfl, rfl, rfl, h2, r2⟩ := trodAll_cons r1
  obtain ⟨v3, vs3, d3, ds3, p3, q3, rfl, rfl, rfl, h3, r3⟩ := trodAll_cons r2
  obtain ⟨rfl, rfl, rfl⟩ := trodAll_nil r3
  obtain rfl : args = #[v0, v1, v2, v3] := by cases args; simp_all
  obtain ⟨rfl, rfl⟩ := trodVars_none hV
  obtain ⟨sa0, sn0, sc0, sL0, rfl, shL0, shn0, shf0, shc0⟩ := open_cids Tryd.underlying22 Tryd.underlying26 cells26 rfl rfl rfl rfl cellsU cellsU cellsU cellsS Tryd.underlying23 Tryd.underlying23 Tryd.underlying23 Tryd.underlying9 (hval 0 22 v0 rfl rfl) h0
  obtain ⟨a1, rfl, rfl, rfl, wa1⟩ := open_int Tryd.underlying23 (hval 1 23 v1 rfl rfl) h1
  have b1 : 0 ≤ a1 := by simp [Lit.wf, IntKind.min, IntKind.signed] at wa1; omega
  have c1 : a1 < 18446744073709551616 := by simp [Lit.wf, IntKind.max, IntKind.min, IntKind.signed, IntKind.bits] at wa1; omega
  obtain ⟨sa2, sn2, sc2, sO2, rfl, shO2, shn2, shc2⟩ := open_bytes Tryd.underlying24 Tryd.underlying5 cellsB (hval 2 24 v2 rfl rfl) h2
  obtain ⟨x3_0, x3_1, x3_2, x3_3, y3_0, y3_1, y3_2, y3_3, m3, rfl, rfl, _, k3_0, k3_1, k3_2, k3_3⟩ := open_agg4 Tryd.underlying26 (by kernel_rfl) cells26 (hval 3 26 v3 rfl rfl) h3
  obtain ⟨a3_0, e3_0, _, w3_0⟩ := DataW.trod_int Tryd.underlying23 k3_0
  simp at e3_0
  subst e3_0
  have b3_0 : 0 ≤ a3_0 ∧ a3_0 < 18446744073709551616 := by simp [Lit.wf, IntKind.max, IntKind.min, IntKind.signed, IntKind.bits] at w3_0; omega
  obtain ⟨a3_1, e3_1, _, w3_1⟩ := DataW.trod_int Tryd.underlying23 k3_1
  simp at e3_1
  subst e3_1
  have b3_1 : 0 ≤ a3_1 ∧ a3_1 < 18446744073709551616 := by simp [Lit.wf, IntKind.max, IntKind.min, IntKind.signed, IntKind.bits] at w3_1; omega
  obtain ⟨a3_2, e3_2, _, w3_2⟩ := DataW.trod_int Tryd.underlying23 k3_2
  simp at e3_2
  subst e3_2
  have b3_2 : 0 ≤ a3_2 ∧ a3_2 < 18446744073709551616 := by simp [Lit.wf, IntKind.max, IntKind.min, IntKind.signed, IntKind.bits] at w3_2; omega
  obtain ⟨s3, e3_3, _, hs3⟩ := DataW.trod_string Tryd.underlying9 k3_3
  simp at e3_3
  subst e3_3
  obtain ⟨a3_3, rfl⟩ : ∃ l : List UInt8, s3 = ⟨l.toArray⟩ := ⟨s3.data.toList, rfl⟩
  have b3_3 : a3_3.length ≤ 9223372036854775807 := hs3
  obtain ⟨er_ErrOverflow, er_ErrUnderflow, er_ErrNotMinimal, er_ErrTooShort, er_ErrVarintBufferShort, er_ErrVarintTooLong⟩ := errs hL
  refine (fnHdTurned_law sa0 sn0 sc0 sL0 a1 sa2 sn2 sc2 sO2 a3_0 a3_1 a3_2 a3_3 W shL0 shn0 shf0 shc0 b1 c1 shO2 shn2 shc2 b3_0 b3_1 b3_2 b3_3 er_ErrOverflow er_ErrNotMinimal er_ErrUnderflow er_ErrTooShort).mono fun e W' ⟨he, hb⟩ => ?_
  subst he
  exact ⟨_, rfl, law_post laidOut (by rw [Tryd.params3]; intro t ht; simp at ht; rcases ht with rfl | rfl | rfl | rfl <;> exact ⟨by kernel_rfl, of_decide_eq_true (by kernel_rfl)⟩) rfl Tryd.underlying4 rfl rfl rfl rfl hW' hb⟩

abbrev str0 : ByteArray := { data := #[118, 97, 114, 105, 110, 116, 115, 32, 108, 97, 114, 103, 101, 114, 32, 116, 104, 97, 110, 32, 117, 105, 110, 116, 54, 51, 32, 110, 111, 116, 32, 115, 117, 112, 112, 111, 114, 116, 101, 100] }
abbrev str1 : ByteArray := { data := #[118, 97, 114, 105, 110, 116, 115, 32, 109, 97, 108, 102, 111, 114, 109, 101, 100, 44, 32, 99, 111, 117, 108, 100, 32, 110, 111, 116, 32, 114, 101, 97, 99, 104, 32, 116, 104, 101, 32, 101, 110, 100] }
abbrev str2 : ByteArray := { data := #[118, 97, 114, 105, 110, 116, 32, 110, 111, 116, 32, 109, 105, 110, 105, 109, 97, 108, 108, 121, 32, 101, 110, 99, 111, 100, 101, 100] }
abbrev str3 : ByteArray := { data := #[109, 117, 108, 116, 105, 104, 97, 115, 104, 32, 116, 111, 111, 32, 115, 104, 111, 114, 116, 46, 32, 109, 117, 115, 116, 32, 98, 101, 32, 62, 61, 32, 50, 32, 98, 121, 116, 101, 115] }
abbrev str4 : ByteArray := { data := #[117, 118, 97, 114, 105, 110, 116, 58, 32, 98, 117, 102, 102, 101, 114, 32, 116, 111, 111, 32, 115, 109, 97, 108, 108] }
abbrev str5 : ByteArray := { data := #[117, 118, 97, 114, 105, 110, 116, 58, 32, 118, 97, 114, 105, 110, 116, 32, 116, 111, 111, 32, 98, 105, 103, 32, 40, 109, 97, 120, 32, 54, 52, 98, 105, 116, 41] }
noncomputable def low : Nat := (World.holding Tryd.prog default ⟨#[], #[], []⟩).heap.size
/-- A world for the witness: the settled one, each listed variable holding an error that leads to its text. -/
noncomputable def laidWorld (os : Os) : World :=
  let w0 := World.holding Tryd.prog os ⟨#[.cells #[.string str0] 144, .cells #[.string str1] 144, .cells #[.string str2] 144, .cells #[.string str3] 144, .cells #[.string str4] 144, .cells #[.string str5] 144], #[], []⟩
  { w0 with heap := ((((((w0.heap.modify 7 fun | .cells _ t frozen => .cells #[.iface 142 (.pointer (some ⟨low + 0, 0, none⟩))] t frozen | o => o).modify 9 fun | .cells _ t frozen => .cells #[.iface 142 (.pointer (some ⟨low + 1, 0, none⟩))] t frozen | o => o).modify 8 fun | .cells _ t frozen => .cells #[.iface 142 (.pointer (some ⟨low + 2, 0, none⟩))] t frozen | o => o).modify 13 fun | .cells _ t frozen => .cells #[.iface 142 (.pointer (some ⟨low + 3, 0, none⟩))] t frozen | o => o).modify 14 fun | .cells _ t frozen => .cells #[.iface 142 (.pointer (some ⟨low + 4, 0, none⟩))] t frozen | o => o).modify 15 fun | .cells _ t frozen => .cells #[.iface 142 (.pointer (some ⟨low + 5, 0, none⟩))] t frozen | o => o) }
theorem laid_met (os : Os) : laidMet Tryd.prog Rows.fnHdTurnedRow.laid ((laidWorld os).forCall (fun _ _ => 0) ⟨#[], #[.slice none 0 0, .int .u64 0, .slice none 0 0, .agg #[.int .u64 0, .int .u64 0, .int .u64 0, .string ByteArray.empty]], []⟩).memory :=
  laidMet_of_run' 8 (by kernel_rfl) (by kernel_rfl)
theorem reads (os : Os) {H : Type} (enc : TypeId × Value → H) : ∃ places, DataW.whole enc Tryd.prog ((laidWorld os).forCall (fun _ _ => 0) ⟨#[], #[.slice none 0 0, .int .u64 0, .slice none 0 0, .agg #[.int .u64 0, .int .u64 0, .int .u64 0, .string ByteArray.empty]], []⟩).memory Tryd.f3.params.toList Rows.fnHdTurnedSpec.vars false (#[.slice none 0 0, .int .u64 0, .slice none 0 0, .agg #[.int .u64 0, .int .u64 0, .int .u64 0, .string ByteArray.empty]] : Array Value).toList 8 = some ([.nil, .lit (.int .u64 0), .nil, .agg [.lit (.int .u64 0), .lit (.int .u64 0), .lit (.int .u64 0), .lit (.string [])]], [], places) :=
  ⟨[], by kernel_rfl⟩
set_option maxRecDepth 100000 in
theorem lifted (os : Os) (started : os.Started) (H : Type) (enc : TypeId × Value → H) (F : Stop.Interp) :
    ReturnsInHanded {} Tryd.checked os 3 .any ((OpenSpec.ofChange Rows.fnHdTurnedSpec).preRow enc Tryd.prog Tryd.f3 Rows.fnHdTurnedRow.domain false Rows.fnHdTurnedRow.laid) (((OpenSpec.ofChange Rows.fnHdTurnedSpec).at F).post enc Tryd.prog Tryd.f3 false true false false) := by
  obtain ⟨places, hx⟩ := reads os enc
  refine returnsInHanded_of_row (C := Tryd.checked) (s := OpenSpec.ofChange Rows.fnHdTurnedSpec) own started (by kernel_rfl) Tryd.func3
    (witness_row_at (enc := enc) (C := Tryd.checked) false (laidWorld os) #[.slice none 0 0, .int .u64 0, .slice none 0 0, .agg #[.int .u64 0, .int .u64 0, .int .u64 0, .string ByteArray.empty]] rfl (by kernel_rfl) (by kernel_rfl) (by kernel_rfl)
      (OpenSpec.preRow_of_cond 8 hx (by kernel_rfl) (fun k hk => by cases hk) (by kernel_rfl) (laid_met os))) ?_
  intro W base args ds gs before hval hW _ _ _ hL _ _
  exact contract H enc W base args ds gs before hval hW hL
theorem said : Rows.FnHdTurnedSaid :=
  OpenClaim.holds_of_cond 3 Tryd.f3 rfl rfl rfl rfl rfl rfl rfl ⟨rfl, rfl, rfl, rfl, rfl⟩ rfl rfl rfl rfl rfl (by kernel_rfl) Tryd.func3 (by kernel_rfl)
    (of_decide_eq_true (by kernel_rfl)) (by unfold Func.isWrapper; first | (rw [if_pos (by decide +kernel)]; kernel_rfl) | (rw [if_neg (by decide +kernel)]; exact ⟨rfl, rfl⟩))
    (fun os started H enc _ F => by rw [OpenClaim.pre_eq_preRow]; exact lifted os started H enc F)
theorem plain (f : FuncId) (fn : Func) (hf : Tryd.pinned.checked.prog.funcNamed "pub-droshky/laws.FnHdTurned" = some f) (hfn : Tryd.pinned.checked.prog.funcs[f]? = some fn) :
    true = Tryd.pinned.checked.prog.looks [] ∧ ∀ (j : Nat) t, fn.params[j]? = some t → Tryd.pinned.checked.prog.wantsStandIn t = false := by
  obtain rfl : f = 3 := Option.some.inj ((show Tryd.prog.funcNamed "pub-droshky/laws.FnHdTurned" = some 3 by kernel_rfl).symm.trans hf) |>.symm
  obtain rfl : fn = Tryd.f3 := (Option.some.inj (Tryd.func3.symm.trans hfn)).symm
  refine ⟨by kernel_rfl, fun j t ht => ?_⟩
  rw [Tryd.params3] at ht
  have hm := Array.mem_of_getElem? ht
  simp at hm
  rcases hm with rfl | rfl | rfl | rfl
  · exact (show Tryd.prog.wantsStandIn 22 = false by kernel_rfl)
  · exact (show Tryd.prog.wantsStandIn 23 = false by kernel_rfl)
  · exact (show Tryd.prog.wantsStandIn 24 = false by kernel_rfl)
  · exact (show Tryd.prog.wantsStandIn 26 = false by kernel_rfl)
/-- THE CARD. -/
theorem card : Rows.FnHdTurnedCardSaid :=
  Claim7.holds_tied_plain_at .later [] _ _ _ _ said (fun _ h => by cases h) (by kernel_rfl) (fun _ h => by cases h) fnHdTurned_row_tie rfl ⟨rfl, rfl⟩ (by kernel_rfl) rfl plain (by kernel_rfl)
#print axioms card
end Go.Proofs.YtdfhfaeeejijcaaDoor.fnHdTurned
