/-
  A block that a call is handed by value: what it holds. Conditions: as the lemma says.
-/
import Derived.Test.YtaionnajhgjekaaDoorSb
namespace Go.Proofs.YtaionnajhgjekaaDoor
open Go.RowKit Go.ChangeShapes Go.WideShapes Go.ChangeAt Go.Joins Go.Deep

theorem open_block {H : Type} {enc : TypeId × Value → H} {P : Program} {w : World} {base : Nat} {spare : Nat → Bool} {held : Bool} {r : Reach} {b0 : Nat} {e : TypeId} {g0 g1 f0 f1 f2 f3 : Field} {v : Value} {d : DataW H} {p : List MemPlace}
    (he : P.underlying e = some (.struct #[g0, g1])) (ce : P.cellsOf e = 5) (p0 : g0.offset = 0) (p1 : g1.offset = 4) (k0 : P.cellsOf g0.type = 4) (k1 : P.cellsOf g1.type = 1) (hc : P.underlying g0.type = some (.struct #[f0, f1, f2, f3])) (o0 : f0.offset = 0) (o1 : f1.offset = 1) (o2 : f2.offset = 2) (o3 : f3.offset = 3)
    (c0 : P.cellsOf f0.type = 1) (c1 : P.cellsOf f1.type = 1) (c2 : P.cellsOf f2.type = 1) (c3 : P.cellsOf f3.type = 1) (t0 : P.underlying f0.type = some (.int .u64)) (t1 : P.underlying f1.type = some (.int .u64)) (t2 : P.underlying f2.type = some (.int .u64)) (t3 : P.underlying f3.type = some .string) (t4 : P.underlying g1.type = some .string)
    (hv : Value.okWide P w r b0 e v) (h : DataW.Trod enc P w base spare held e v d p) :
    ∃ y : BlkL, v = .agg y.val ∧ y.fit := by
  obtain ⟨cs, rfl, hsz⟩ := okWide_struct he hv
  obtain ⟨fuel, hf⟩ := h
  obtain ⟨y, hy, r0, r1, r2, r3, r4⟩ := open_block_cells he p0 p1 k0 k1 hc o0 o1 o2 o3 c0 c1 c2 c3 t0 t1 t2 t3 t4 hf
  rw [ce] at hsz
  refine ⟨y, ?_, hy⟩
  simp only [Value.cells, Array.getElem?_toList] at r0 r1 r2 r3 r4
  congr 1
  obtain ⟨L⟩ := cs
  simp only [List.getElem?_toArray] at r0 r1 r2 r3 r4
  match L, hsz with
  | [a, b, c, d, e], _ =>
    simp at r0 r1 r2 r3 r4
    subst r0 r1 r2 r3 r4
    rfl
end Go.Proofs.YtaionnajhgjekaaDoor
