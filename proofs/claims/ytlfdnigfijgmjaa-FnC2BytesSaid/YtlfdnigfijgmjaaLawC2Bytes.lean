/-
  FnC2Bytes: for every input the law returns true, and its arguments read behind the call as they read before; the variables that the row lists are as the program's text lays them. Conditions: none but the row's own.
-/
import Derived.Test.YtlfdnigfijgmjaaRows
import Derived.Test.YtlfdnigfijgmjaaC2B
import Derived.WalkKit
import Derived.ProofKit
import Derived.OpenShut
namespace Go.Proofs.Ytlfdnigfijgmjaa.fnC2Bytes
open Go.ChangeShapes Go.WideShapes Go.ChangeAt Go.RowKit Go.Joins Go.Deep

theorem own : ownKnob Try.prog.godebug = none := by kernel_rfl
theorem laidOut : laidOutB Try.prog = true := by kernel_rfl
theorem cells24 : Try.prog.cellsOf 24 = 5 := by kernel_rfl
set_option maxRecDepth 100000 in
theorem contract (H : Type) (enc : TypeId × Value → H) (W : World) (base : Nat) (args : Array Value) (ds gs : List (DataW H)) (before : List MemPlace)
    (hval : ∀ (j : Nat) t v, Try.f5.params[j]? = some t → args[j]? = some v → Value.okWide Try.prog W .any base t v)
    (hW : DataW.Whole enc Try.prog Try.f5.params.toList Rows.fnC2BytesSpec.vars false W args.toList ds gs before) :
    Calls Try.prog 5 args W fun e W' => ∃ v, e = .returned v ∧ Rows.fnC2BytesSpec.post enc Try.prog Try.f5 false true false false W args v W' := by
  have hW' := hW
  obtain ⟨p, q, hA0, hV, rfl, hfz, hnd⟩ := hW
  have hA : DataW.TrodAll enc Try.prog W 0 (fun _ => true) true Try.f5.params.toList args.toList ds p := hA0
  rw [Try.params5] at hA hval
  obtain ⟨v0, vs0, d0, ds0, p0, q0, hargs, rfl, rfl, h0, r0⟩ := trodAll_cons hA
  obtain ⟨rfl, rfl, rfl⟩ := trodAll_nil r0
  obtain rfl : args = #[v0] := by cases args; simp_all
  obtain ⟨rfl, rfl⟩ := trodVars_none hV
  obtain ⟨x0_0, x0_1, x0_2, x0_3, x0_4, y0_0, y0_1, y0_2, y0_3, y0_4, m0, rfl, rfl, k0_0, k0_1, k0_2, k0_3, k0_4⟩ := open_agg5 Try.underlying24 (by kernel_rfl) cells24 (hval 0 24 v0 rfl rfl) h0
  obtain ⟨a0_0, e0_0, _, w0_0⟩ := DataW.trod_int Try.underlying22 k0_0
  simp at e0_0
  subst e0_0
  have b0_0 : 0 ≤ a0_0 ∧ a0_0 < 18446744073709551616 := by simp [Lit.wf, IntKind.max, IntKind.min, IntKind.signed, IntKind.bits] at w0_0; omega
  obtain ⟨a0_1, e0_1, _, w0_1⟩ := DataW.trod_int Try.underlying22 k0_1
  simp at e0_1
  subst e0_1
  have b0_1 : 0 ≤ a0_1 ∧ a0_1 < 18446744073709551616 := by simp [Lit.wf, IntKind.max, IntKind.min, IntKind.signed, IntKind.bits] at w0_1; omega
  obtain ⟨a0_2, e0_2, _, w0_2⟩ := DataW.trod_int Try.underlying22 k0_2
  simp at e0_2
  subst e0_2
  have b0_2 : 0 ≤ a0_2 ∧ a0_2 < 18446744073709551616 := by simp [Lit.wf, IntKind.max, IntKind.min, IntKind.signed, IntKind.bits] at w0_2; omega
  obtain ⟨a0_3, e0_3, _, w0_3⟩ := DataW.trod_int Try.underlying22 k0_3
  simp at e0_3
  subst e0_3
  have b0_3 : 0 ≤ a0_3 ∧ a0_3 < 18446744073709551616 := by simp [Lit.wf, IntKind.max, IntKind.min, IntKind.signed, IntKind.bits] at w0_3; omega
  obtain ⟨a0_4, e0_4, _, w0_4⟩ := DataW.trod_int Try.underlying22 k0_4
  simp at e0_4
  subst e0_4
  have b0_4 : 0 ≤ a0_4 ∧ a0_4 < 18446744073709551616 := by simp [Lit.wf, IntKind.max, IntKind.min, IntKind.signed, IntKind.bits] at w0_4; omega
  refine (fnC2Bytes_walk a0_0 a0_1 a0_2 a0_3 a0_4 W b0_0 b0_1 b0_2 b0_3 b0_4).mono fun e W' ⟨he, hb⟩ => ?_
  subst he
  exact ⟨_, rfl, law_post laidOut (by rw [Try.params5]; intro t ht; simp at ht; subst ht; exact ⟨by kernel_rfl, of_decide_eq_true (by kernel_rfl)⟩) rfl Try.underlying4 rfl rfl rfl rfl hW' hb⟩

theorem lifted (os : Os) (started : os.Started) (H : Type) (enc : TypeId × Value → H) :
    ReturnsInHanded {} Try.checked os 5 .any (Rows.fnC2BytesSpec.pre6 enc Try.prog Try.f5 Rows.fnC2BytesRow.domain false) (Rows.fnC2BytesSpec.post enc Try.prog Try.f5 false true false false) := by
  refine returnsInHanded_of_change (C := Try.checked) own started (by kernel_rfl) Try.func5
    (ChangeSpec.witness6 (enc := enc) (C := Try.checked) false ⟨#[], #[.agg #[.int .u64 0, .int .u64 0, .int .u64 0, .int .u64 0, .int .u64 0]], []⟩ 8 (by kernel_rfl) (by kernel_rfl) (by kernel_rfl) (by kernel_rfl)) ?_
  intro W base args ds gs before hval hW _ _
  exact contract H enc W base args ds gs before hval hW
theorem said : Rows.FnC2BytesSaid :=
  OpenClaim.holds_of_wide 5 Try.f5 rfl rfl rfl rfl rfl rfl rfl ⟨rfl, rfl, rfl, rfl, rfl⟩ rfl rfl rfl rfl rfl (by kernel_rfl) Try.func5 (by kernel_rfl)
    (of_decide_eq_true (by kernel_rfl)) (by unfold Func.isWrapper; first | (rw [if_pos (by decide +kernel)]; kernel_rfl) | (rw [if_neg (by decide +kernel)]; exact ⟨rfl, rfl⟩))
    (fun os started H enc _ => lifted os started H enc)
#print axioms said
end Go.Proofs.Ytlfdnigfijgmjaa.fnC2Bytes
