/-
  FnC2New: NewHeader of data of a size below 2^62 places the data at byte 51 and the index behind them: the law returns true at every number, and its argument reads behind the call as it read before. Conditions: none.
-/
import Derived.Test.YtlfdnigfijgmjaaRows
import Derived.Test.YtlfdnigfijgmjaaC2Small
namespace Go.Proofs.Ytlfdnigfijgmjaa
open Go.ChangeShapes Go.WideShapes Go.ChangeAt Go.RowKit
namespace fnC2New

theorem own : ownKnob Try.prog.godebug = none := by kernel_rfl
theorem laidOut : laidOutB Try.prog = true := by kernel_rfl

set_option maxRecDepth 100000 in
theorem lifted (os : Os) (started : os.Started) (H : Type) (enc : TypeId × Value → H) :
    ReturnsInHanded {} Try.checked os 4 .any (Rows.fnC2NewSpec.pre6 enc Try.prog Try.f4 Rows.fnC2NewRow.domain false) (Rows.fnC2NewSpec.post enc Try.prog Try.f4 false true false false) := by
  refine returnsInHanded_of_change (C := Try.checked) own started (by kernel_rfl) Try.func4
    (ChangeSpec.witness6 (enc := enc) (C := Try.checked) false ⟨#[], #[.int .u64 0], []⟩ 8 (by kernel_rfl) (by kernel_rfl) (by kernel_rfl) (by kernel_rfl)) ?_
  intro W base args ds gs before hval0 hW hcnd _
  have hval : ∀ (j : Nat) t v, Try.f4.params[j]? = some t → args[j]? = some v → Value.okWide Try.prog W .any base t v := hval0
  have hW' := hW
  obtain ⟨p, q, hA0, hV, rfl, hfz, hnd⟩ := hW
  have hA : DataW.TrodAll enc Try.prog W 0 (fun _ => true) true Try.f4.params.toList args.toList ds p := hA0
  rw [Try.params4] at hA hval
  obtain ⟨v0, vs0, d0, ds0, p0, q0, hargs, rfl, rfl, h0, r0⟩ := trodAll_cons hA
  obtain ⟨rfl, rfl, rfl⟩ := trodAll_nil r0
  obtain rfl : args = #[v0] := by cases args; simp_all
  obtain ⟨rfl, rfl⟩ := trodVars_none hV
  obtain ⟨a, rfl, rfl, rfl, wa⟩ := open_int Try.underlying22 (hval 0 22 v0 rfl rfl) h0
  have ba : 0 ≤ a := by simp [Lit.wf, IntKind.min, IntKind.signed] at wa; omega
  refine (fnC2New_walk a W ba).mono fun e W' ⟨he, hb⟩ => ?_
  subst he
  exact ⟨_, rfl, law_post laidOut (by rw [Try.params4]; intro t ht; simp at ht; subst ht; exact ⟨by kernel_rfl, of_decide_eq_true (by kernel_rfl)⟩) rfl Try.underlying4 rfl rfl rfl rfl hW' hb⟩

theorem said : Rows.FnC2NewSaid :=
  OpenClaim.holds_of_wide 4 Try.f4 rfl rfl rfl rfl rfl rfl rfl ⟨rfl, rfl, rfl, rfl, rfl⟩ rfl rfl rfl rfl rfl (by kernel_rfl) Try.func4 (by kernel_rfl)
    (of_decide_eq_true (by kernel_rfl)) (by unfold Func.isWrapper; first | (rw [if_pos (by decide +kernel)]; kernel_rfl) | (rw [if_neg (by decide +kernel)]; exact ⟨rfl, rfl⟩))
    (fun os started H enc _ => lifted os started H enc)
end fnC2New
#print axioms fnC2New.said
end Go.Proofs.Ytlfdnigfijgmjaa
