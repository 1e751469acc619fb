/-
  FnC2Back: for every input the law returns true, and its arguments read behind the call as they read before; the variables that the row lists are as the program's text lays them. Conditions: none but the row's own.
-/
import Derived.Test.YtdfhfaeeejijcaaDoorCards
import Derived.Test.YtdfhfaeeejijcaaDoorTie
import Derived.Test.YtdfhfaeeejijcaaDoorC2R
import Derived.Test.YtdfhfaeeejijcaaDoorLaid
import Derived.WalkKit
import Derived.ProofKit
import Derived.OpenShut
import Derived.Deep.DeepHandedRow
import Derived.Lib.LaidTab
import Derived.Stop.LaidErr
import Derived.Stop.ErrReads
import Derived.Deep.DeepLaidRun
namespace Go.Proofs.YtdfhfaeeejijcaaDoor.fnC2Back
open Go.ChangeShapes Go.WideShapes Go.ChangeAt Go.RowKit Go.Joins Go.Deep

theorem own : ownKnob Tryd.prog.godebug = none := by kernel_rfl
theorem laidOut : laidOutB Tryd.prog = true := by kernel_rfl
theorem cells41 : Tryd.prog.cellsOf 41 = 5 := by kernel_rfl
theorem cellsEs : Tryd.prog.cellsOf 144 = 1 := by kernel_rfl
theorem cellsStr : Tryd.prog.cellsOf 9 = 1 := by kernel_rfl
theorem star : "*" ++ "errors.errorString" = "*errors.errorString" := by decide
theorem rowEs (u : TypeId) (h : Tryd.prog.typeName? 3 u = some "*errors.errorString") : u = 142 :=
  typeName_ptr_named (nm := "errors.errorString") (by rw [star]; kernel_rfl) (by kernel_rfl) (by decide) u (by rw [star]; exact h)
/-- The listed errors: where each lies; none lies where io.EOF does. -/
theorem errs {W : World} (h : laidMetH Tryd.prog Rows.fnC2BackRow.laid W) : ∃ a0 a1 a2 : Addr, (Ee W 4 a0 ∧ Eh W a0) ∧ (Ee W 5 a1 ∧ Eh W a1) ∧ (Ee W 6 a2 ∧ Eh W a2) ∧ a0 ≠ a1 ∧ a2 ≠ a1 := by
  have h0 : laidMet Tryd.prog [("io.ErrShortBuffer", Rows.laid_io_ErrShortBuffer), ("io.EOF", Rows.laid_io_EOF), ("io.ErrUnexpectedEOF", Rows.laid_io_ErrUnexpectedEOF)] W := h
  have g0 : Tryd.prog.globalNamed "io.ErrShortBuffer" = some 4 := by kernel_rfl
  obtain ⟨a0, s0, hv0, hc0, hs0, he0⟩ := laid_one h0 g0 (ti := 62) (by kernel_rfl) Tryd.underlying62 rowEs Tryd.underlying142 Tryd.underlying144 rfl rfl Tryd.underlying9 cellsEs cellsStr
  have h1 := h0.tail
  have g1 : Tryd.prog.globalNamed "io.EOF" = some 5 := by kernel_rfl
  obtain ⟨a1, s1, hv1, hc1, hs1, he1⟩ := laid_one h1 g1 (ti := 62) (by kernel_rfl) Tryd.underlying62 rowEs Tryd.underlying142 Tryd.underlying144 rfl rfl Tryd.underlying9 cellsEs cellsStr
  have h2 := h1.tail
  have g2 : Tryd.prog.globalNamed "io.ErrUnexpectedEOF" = some 6 := by kernel_rfl
  obtain ⟨a2, s2, hv2, hc2, hs2, he2⟩ := laid_one h2 g2 (ti := 62) (by kernel_rfl) Tryd.underlying62 rowEs Tryd.underlying142 Tryd.underlying144 rfl rfl Tryd.underlying9 cellsEs cellsStr
  exact ⟨a0, a1, a2, ⟨by unfold Ee; simpa using World.var?_cell g0 hv0 0, he0⟩, ⟨by unfold Ee; simpa using World.var?_cell g1 hv1 0, he1⟩, ⟨by unfold Ee; simpa using World.var?_cell g2 hv2 0, he2⟩, laid_apart hc0 hs0 hc1 hs1 (by decide), laid_apart hc2 hs2 hc1 hs1 (by decide)⟩

set_option maxRecDepth 100000 in
theorem contract (H : Type) (enc : TypeId × Value → H) (W : World) (base : Nat) (args : Array Value) (ds gs : List (DataW H)) (before : List MemPlace)
    (hval : ∀ (j : Nat) t v, Tryd.f5.params[j]? = some t → args[j]? = some v → Value.okWide Tryd.prog W .any base t v)
    (hW : DataW.Whole enc Tryd.prog Tryd.f5.params.toList Rows.fnC2BackSpec.vars false W args.toList ds gs before) (hL : laidMetH Tryd.prog Rows.fnC2BackRow.laid W) :
    Calls Tryd.prog 5 args W fun e W' => ∃ v, e = .returned v ∧ Rows.fnC2BackSpec.post enc Tryd.prog Tryd.f5 false true false false W args v W' := by
  have hW' := hW
  obtain ⟨p, q, hA0, hV, rfl, hfz, hnd⟩ := hW
  have hA : DataW.TrodAll enc Tryd.prog W 0 (fun _ => true) true Tryd.f5.params.toList args.toList ds p := hA0
  rw [Tryd.params5] at hA hval
  obtain ⟨v0, vs0, d0, ds0, p0, q0, hargs, rfl, rfl, h0, r0⟩ := trodAll_cons hA
  obtain ⟨rfl, rfl, rfl⟩ := trodAll_nil r0
  obtain rfl : args = #[v0] := by cases args; simp_all
  obtain ⟨rfl, rfl⟩ := trodVars_none hV
  obtain ⟨x0_0, x0_1, x0_2, x0_3, x0_4, y0_0, y0_1, y0_2, y0_3, y0_4, m0, rfl, rfl, k0_0, k0_1, k0_2, k0_3, k0_4⟩ := open_agg5 Tryd.underlying41 (by kernel_rfl) cells41 (hval 0 41 v0 rfl rfl) h0
  obtain ⟨a0_0, e0_0, _, w0_0⟩ := DataW.trod_int Tryd.underlying23 k0_0
  simp at e0_0
  subst e0_0
  have b0_0 : 0 ≤ a0_0 ∧ a0_0 < 18446744073709551616 := by simp [Lit.wf, IntKind.max, IntKind.min, IntKind.signed, IntKind.bits] at w0_0; omega
  obtain ⟨a0_1, e0_1, _, w0_1⟩ := DataW.trod_int Tryd.underlying23 k0_1
  simp at e0_1
  subst e0_1
  have b0_1 : 0 ≤ a0_1 ∧ a0_1 < 18446744073709551616 := by simp [Lit.wf, IntKind.max, IntKind.min, IntKind.signed, IntKind.bits] at w0_1; omega
  obtain ⟨a0_2, e0_2, _, w0_2⟩ := DataW.trod_int Tryd.underlying23 k0_2
  simp at e0_2
  subst e0_2
  have b0_2 : 0 ≤ a0_2 ∧ a0_2 < 18446744073709551616 := by simp [Lit.wf, IntKind.max, IntKind.min, IntKind.signed, IntKind.bits] at w0_2; omega
  obtain ⟨a0_3, e0_3, _, w0_3⟩ := DataW.trod_int Tryd.underlying23 k0_3
  simp at e0_3
  subst e0_3
  have b0_3 : 0 ≤ a0_3 ∧ a0_3 < 18446744073709551616 := by simp [Lit.wf, IntKind.max, IntKind.min, IntKind.signed, IntKind.bits] at w0_3; omega
  obtain ⟨a0_4, e0_4, _, w0_4⟩ := DataW.trod_int Tryd.underlying23 k0_4
  simp at e0_4
  subst e0_4
  have b0_4 : 0 ≤ a0_4 ∧ a0_4 < 18446744073709551616 := by simp [Lit.wf, IntKind.max, IntKind.min, IntKind.signed, IntKind.bits] at w0_4; omega
  obtain ⟨ad_ErrShortBuffer, ad_EOF, ad_ErrUnexpectedEOF, ⟨ee_ErrShortBuffer, eh_ErrShortBuffer⟩, ⟨ee_EOF, eh_EOF⟩, ⟨ee_ErrUnexpectedEOF, eh_ErrUnexpectedEOF⟩, ne_ErrShortBuffer, ne_ErrUnexpectedEOF⟩ := errs hL
  have er_ErrShortBuffer := ee_ErrShortBuffer.er
  have er_EOF := ee_EOF.er
  have er_ErrUnexpectedEOF := ee_ErrUnexpectedEOF.er
  refine (fnC2Back_walk a0_0 a0_1 a0_2 a0_3 a0_4 ad_EOF ad_ErrUnexpectedEOF W b0_0 b0_1 b0_2 b0_3 b0_4 ee_EOF ee_ErrUnexpectedEOF).mono fun e W' ⟨he, hb⟩ => ?_
  subst he
  exact ⟨_, rfl, law_post laidOut (by rw [Tryd.params5]; intro t ht; simp at ht; subst ht; exact ⟨by kernel_rfl, of_decide_eq_true (by kernel_rfl)⟩) rfl Tryd.underlying4 rfl rfl rfl rfl hW' hb⟩

abbrev str0 : ByteArray := { data := #[115, 104, 111, 114, 116, 32, 98, 117, 102, 102, 101, 114] }
abbrev str1 : ByteArray := { data := #[69, 79, 70] }
abbrev str2 : ByteArray := { data := #[117, 110, 101, 120, 112, 101, 99, 116, 101, 100, 32, 69, 79, 70] }
noncomputable def low : Nat := (World.holding Tryd.prog default ⟨#[], #[], []⟩).heap.size
/-- A world for the witness: the settled one, each listed variable holding an error that leads to its text. -/
noncomputable def laidWorld (os : Os) : World :=
  let w0 := World.holding Tryd.prog os ⟨#[.cells #[.string str0] 144, .cells #[.string str1] 144, .cells #[.string str2] 144], #[], []⟩
  { w0 with heap := (((w0.heap.modify 4 fun | .cells _ t frozen => .cells #[.iface 142 (.pointer (some ⟨low + 0, 0, none⟩))] t frozen | o => o).modify 5 fun | .cells _ t frozen => .cells #[.iface 142 (.pointer (some ⟨low + 1, 0, none⟩))] t frozen | o => o).modify 6 fun | .cells _ t frozen => .cells #[.iface 142 (.pointer (some ⟨low + 2, 0, none⟩))] t frozen | o => o) }
theorem laid_met (os : Os) : laidMet Tryd.prog Rows.fnC2BackRow.laid ((laidWorld os).forCall (fun _ _ => 0) ⟨#[], #[.agg #[.int .u64 0, .int .u64 0, .int .u64 0, .int .u64 0, .int .u64 0]], []⟩).memory :=
  laidMet_of_run' 8 (by kernel_rfl) (by kernel_rfl)
theorem reads (os : Os) {H : Type} (enc : TypeId × Value → H) : ∃ places, DataW.whole enc Tryd.prog ((laidWorld os).forCall (fun _ _ => 0) ⟨#[], #[.agg #[.int .u64 0, .int .u64 0, .int .u64 0, .int .u64 0, .int .u64 0]], []⟩).memory Tryd.f5.params.toList Rows.fnC2BackSpec.vars false (#[.agg #[.int .u64 0, .int .u64 0, .int .u64 0, .int .u64 0, .int .u64 0]] : Array Value).toList 8 = some ([.agg [.lit (.int .u64 0), .lit (.int .u64 0), .lit (.int .u64 0), .lit (.int .u64 0), .lit (.int .u64 0)]], [], places) :=
  ⟨[], by kernel_rfl⟩
set_option maxRecDepth 100000 in
theorem lifted (os : Os) (started : os.Started) (H : Type) (enc : TypeId × Value → H) (F : Stop.Interp) :
    ReturnsInHanded {} Tryd.checked os 5 .any ((OpenSpec.ofChange Rows.fnC2BackSpec).preRow enc Tryd.prog Tryd.f5 Rows.fnC2BackRow.domain false Rows.fnC2BackRow.laid) (((OpenSpec.ofChange Rows.fnC2BackSpec).at F).post enc Tryd.prog Tryd.f5 false true false false) := by
  obtain ⟨places, hx⟩ := reads os enc
  refine returnsInHanded_of_row (C := Tryd.checked) (s := OpenSpec.ofChange Rows.fnC2BackSpec) own started (by kernel_rfl) Tryd.func5
    (witness_row_at (enc := enc) (C := Tryd.checked) false (laidWorld os) #[.agg #[.int .u64 0, .int .u64 0, .int .u64 0, .int .u64 0, .int .u64 0]] rfl (by kernel_rfl) (by kernel_rfl) (by kernel_rfl)
      (OpenSpec.preRow_of_cond 8 hx (by kernel_rfl) (fun k hk => by cases hk) (by kernel_rfl) (laid_met os))) ?_
  intro W base args ds gs before hval hW _ _ _ hL _ _
  exact contract H enc W base args ds gs before hval hW hL
theorem said : Rows.FnC2BackSaid :=
  OpenClaim.holds_of_cond 5 Tryd.f5 rfl rfl rfl rfl rfl rfl rfl ⟨rfl, rfl, rfl, rfl, rfl⟩ rfl rfl rfl rfl rfl (by kernel_rfl) Tryd.func5 (by kernel_rfl)
    (of_decide_eq_true (by kernel_rfl)) (by unfold Func.isWrapper; first | (rw [if_pos (by decide +kernel)]; kernel_rfl) | (rw [if_neg (by decide +kernel)]; exact ⟨rfl, rfl⟩))
    (fun os started H enc _ F => by rw [OpenClaim.pre_eq_preRow]; exact lifted os started H enc F)
theorem plain (f : FuncId) (fn : Func) (hf : Tryd.pinned.checked.prog.funcNamed "pub-droshky/laws.FnC2Back" = some f) (hfn : Tryd.pinned.checked.prog.funcs[f]? = some fn) :
    true = Tryd.pinned.checked.prog.looks [] ∧ ∀ (j : Nat) t, fn.params[j]? = some t → Tryd.pinned.checked.prog.wantsStandIn t = false := by
  obtain rfl : f = 5 := Option.some.inj ((show Tryd.prog.funcNamed "pub-droshky/laws.FnC2Back" = some 5 by kernel_rfl).symm.trans hf) |>.symm
  obtain rfl : fn = Tryd.f5 := (Option.some.inj (Tryd.func5.symm.trans hfn)).symm
  refine ⟨by kernel_rfl, fun j t ht => ?_⟩
  rw [Tryd.params5] at ht
  have hm := Array.mem_of_getElem? ht
  simp at hm
  subst hm
  exact (show Tryd.prog.wantsStandIn 41 = false by kernel_rfl)
/-- THE CARD. -/
theorem card : Rows.FnC2BackCardSaid :=
  Claim7.holds_tied_plain_at .later [] _ _ _ _ said (fun _ h => by cases h) (by kernel_rfl) (fun _ h => by cases h) fnC2Back_row_tie rfl ⟨rfl, rfl⟩ (by kernel_rfl) rfl plain (by kernel_rfl)
#print axioms card
end Go.Proofs.YtdfhfaeeejijcaaDoor.fnC2Back
