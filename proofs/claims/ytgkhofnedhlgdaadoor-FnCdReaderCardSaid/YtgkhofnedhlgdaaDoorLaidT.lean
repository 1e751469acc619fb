/-
  What a row's list of laid data gives of a variable that is a struct of one text. Conditions: as the lemma says.
-/
import Derived.Test.YtgkhofnedhlgdaaDoorLaid
import Derived.ChangeSame
namespace Go.Proofs.YtgkhofnedhlgdaaDoor
open Go.RowKit Go.ChangeShapes Go.WideShapes Go.ChangeAt Go.Joins Go.Deep

theorem laid_text {P : Program} {n : String} {d : DataW Unit} {r : List (String × DataW Unit)} {W : World} {g : Nat} {ti ts : TypeId} {f : Field}
    (h : laidMet P ((n, d) :: r) W) (hg : P.globalNamed n = some g) (ht : (P.globals[g]?).map (·.type) = some ti) (hu : P.underlying ti = some (.struct #[f])) (hft : f.type = ts) (hfo : f.offset = 0) (hs : P.underlying ts = some .string) :
    ∃ s : ByteArray, W.cell? ⟨g, 0, none⟩ = some (.string s) := by
  obtain ⟨ps, ⟨g0, t0, cs0, f0, p0, q0, hg0, ht0, hv0, hd0, _, e0⟩, _, hrows⟩ := h
  obtain rfl := Option.some.inj (hg.symm.trans hg0)
  obtain rfl := Option.some.inj (ht.symm.trans ht0)
  obtain ⟨y0, m, hx, hl, hy⟩ := trod_struct1 hu hd0
  rw [hft, hfo, List.drop_zero] at hy
  obtain ⟨s, hcs, _⟩ := DataW.trod_string hs hy
  refine ⟨s, ?_⟩
  rw [World.var?_cell hg hv0 0]
  obtain ⟨l0⟩ := cs0
  simp only [List.getElem?_toArray] at hcs ⊢
  match l0, hcs with
  | [], hcs => simp at hcs
  | a :: l1, hcs =>
    cases hk : P.cellsOf ts with
    | zero => rw [hk] at hcs; simp at hcs
    | succ k => rw [hk] at hcs; simp at hcs; simp [hcs.1]
end Go.Proofs.YtgkhofnedhlgdaaDoor
