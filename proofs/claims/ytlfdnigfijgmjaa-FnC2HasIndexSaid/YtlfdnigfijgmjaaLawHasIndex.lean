/-
  FnC2HasIndex: a header of version 2 has an index just if the index's offset is not 0: the law returns true at every header, and its argument reads behind the call as it read before. Conditions: none.
-/
import Derived.Test.YtlfdnigfijgmjaaRows
import Derived.Test.YtlfdnigfijgmjaaC2Small
namespace Go.Proofs.Ytlfdnigfijgmjaa
open Go.ChangeShapes Go.WideShapes Go.ChangeAt Go.RowKit
namespace fnC2HasIndex

theorem own : ownKnob Try.prog.godebug = none := by kernel_rfl
theorem laidOut : laidOutB Try.prog = true := by kernel_rfl
theorem cells : Try.prog.cellsOf 24 = 5 := by kernel_rfl

set_option maxRecDepth 100000 in
theorem lifted (os : Os) (started : os.Started) (H : Type) (enc : TypeId × Value → H) :
    ReturnsInHanded {} Try.checked os 3 .any (Rows.fnC2HasIndexSpec.pre6 enc Try.prog Try.f3 Rows.fnC2HasIndexRow.domain false) (Rows.fnC2HasIndexSpec.post enc Try.prog Try.f3 false true false false) := by
  refine returnsInHanded_of_change (C := Try.checked) own started (by kernel_rfl) Try.func3
    (ChangeSpec.witness6 (enc := enc) (C := Try.checked) false ⟨#[], #[.agg #[.int .u64 0, .int .u64 0, .int .u64 0, .int .u64 0, .int .u64 0]], []⟩ 8 (by kernel_rfl) (by kernel_rfl) (by kernel_rfl) (by kernel_rfl)) ?_
  intro W base args ds gs before hval0 hW hcnd _
  have hval : ∀ (j : Nat) t v, Try.f3.params[j]? = some t → args[j]? = some v → Value.okWide Try.prog W .any base t v := hval0
  have hW' := hW
  obtain ⟨p, q, hA0, hV, rfl, hfz, hnd⟩ := hW
  have hA : DataW.TrodAll enc Try.prog W 0 (fun _ => true) true Try.f3.params.toList args.toList ds p := hA0
  rw [Try.params3] at hA hval
  obtain ⟨v0, vs0, d0, ds0, p0, q0, hargs, rfl, rfl, h0, r0⟩ := trodAll_cons hA
  obtain ⟨rfl, rfl, rfl⟩ := trodAll_nil r0
  obtain rfl : args = #[v0] := by cases args; simp_all
  obtain ⟨rfl, rfl⟩ := trodVars_none hV
  obtain ⟨c0, c1, c2, c3, c4, y0, y1, y2, y3, y4, m, rfl, rfl, k0, k1, k2, k3, k4⟩ := open_agg5 Try.underlying24 (by kernel_rfl) cells (hval 0 24 v0 rfl rfl) h0
  obtain ⟨a, e0, _, _⟩ := DataW.trod_int Try.underlying22 k0
  obtain ⟨b, e1, _, _⟩ := DataW.trod_int Try.underlying22 k1
  obtain ⟨c, e2, _, _⟩ := DataW.trod_int Try.underlying22 k2
  obtain ⟨d, e3, _, _⟩ := DataW.trod_int Try.underlying22 k3
  obtain ⟨e, e4, _, _⟩ := DataW.trod_int Try.underlying22 k4
  simp at e0 e1 e2 e3 e4
  subst e0 e1 e2 e3 e4
  refine (fnC2HasIndex_walk a b c d e W).mono fun e W' ⟨he, hb⟩ => ?_
  subst he
  exact ⟨_, rfl, law_post laidOut (by rw [Try.params3]; intro t ht; simp at ht; subst ht; exact ⟨by kernel_rfl, of_decide_eq_true (by kernel_rfl)⟩) rfl Try.underlying4 rfl rfl rfl rfl hW' hb⟩

theorem said : Rows.FnC2HasIndexSaid :=
  OpenClaim.holds_of_wide 3 Try.f3 rfl rfl rfl rfl rfl rfl rfl ⟨rfl, rfl, rfl, rfl, rfl⟩ rfl rfl rfl rfl rfl (by kernel_rfl) Try.func3 (by kernel_rfl)
    (of_decide_eq_true (by kernel_rfl)) (by unfold Func.isWrapper; first | (rw [if_pos (by decide +kernel)]; kernel_rfl) | (rw [if_neg (by decide +kernel)]; exact ⟨rfl, rfl⟩))
    (fun os started H enc _ => lifted os started H enc)
end fnC2HasIndex
#print axioms fnC2HasIndex.said
end Go.Proofs.Ytlfdnigfijgmjaa
