/-
  A slice of identifiers that a call is handed: what its cells hold. Conditions: as each lemma says.
-/
import Derived.Test.YtdfhfaeeejijcaaDoorCd
import Derived.Test.YtdfhfaeeejijcaaDoorBase
import Derived.Deep.Slices
import Derived.ChangeSame
namespace Go.Proofs.YtdfhfaeeejijcaaDoor
open Go.RowKit Go.ChangeShapes Go.WideShapes Go.ChangeAt Go.Joins Go.Deep

/-- Numbers of 64 bits, and a digest that is a text. -/
def CidL.fit (x : CidL) : Prop := x.version < 18446744073709551616 ∧ x.codec < 18446744073709551616 ∧ x.code < 18446744073709551616 ∧ x.digest.length ≤ 9223372036854775807

/-- From cell off of block b on lie the identifiers L, one behind the other. -/
def Cs (w : World) (b off : Nat) (L : List CidL) : Prop := ∀ (i : Nat) (h : i < L.length), w.cell? ⟨b, off + i * 4, none⟩ = some (.int .u64 (L[i].version : Nat)) ∧ w.cell? ⟨b, off + i * 4 + 1, none⟩ = some (.int .u64 (L[i].codec : Nat)) ∧
  w.cell? ⟨b, off + i * 4 + 2, none⟩ = some (.int .u64 (L[i].code : Nat)) ∧ w.cell? ⟨b, off + i * 4 + 3, none⟩ = some (.string ⟨L[i].digest.toArray⟩)
theorem Cs.old {w w' : World} {b off : Nat} {L : List CidL} (h : Cs w b off L) (hb : Below w.heap.size w w') : Cs w' b off L := fun i hi => by
  obtain ⟨h0, h1, h2, h3⟩ := h i hi
  have hlt : b < w.heap.size := World.block_lt_of_cell? w _ h0
  exact ⟨(hb.cell (p := ⟨b, _, none⟩) hlt).trans h0, (hb.cell (p := ⟨b, _, none⟩) hlt).trans h1, (hb.cell (p := ⟨b, _, none⟩) hlt).trans h2, (hb.cell (p := ⟨b, _, none⟩) hlt).trans h3⟩

instance : Inhabited CidL := ⟨⟨0, 0, 0, []⟩⟩

theorem take1 {α : Type} {cs : List α} {k : Nat} {x : α} (h : (cs.drop k).take 1 = [x]) : cs[k]? = some x := by
  have : ((cs.drop k).take 1)[0]? = some x := by rw [h]; rfl
  simpa using this

theorem open_cids {H : Type} {enc : TypeId × Value → H} {P : Program} {w : World} {base : Nat} {spare : Nat → Bool} {held : Bool} {r : Reach} {b0 : Nat} {t e : TypeId} {f0 f1 f2 f3 : Field} {v : Value} {d : DataW H} {p : List MemPlace}
    (ht : P.underlying t = some (.slice e)) (he : P.underlying e = some (.struct #[f0, f1, f2, f3])) (ce : P.cellsOf e = 4) (o0 : f0.offset = 0) (o1 : f1.offset = 1) (o2 : f2.offset = 2) (o3 : f3.offset = 3)
    (c0 : P.cellsOf f0.type = 1) (c1 : P.cellsOf f1.type = 1) (c2 : P.cellsOf f2.type = 1) (c3 : P.cellsOf f3.type = 1) (t0 : P.underlying f0.type = some (.int .u64)) (t1 : P.underlying f1.type = some (.int .u64)) (t2 : P.underlying f2.type = some (.int .u64)) (t3 : P.underlying f3.type = some .string)
    (hv : Value.okWide P w r b0 t v) (h : DataW.Trod enc P w base spare held t v d p) :
    ∃ (a : Option Addr) (n c : Nat) (L : List CidL), v = .slice a n c ∧ L.length = n ∧ n ≤ 9223372036854775807 ∧ (∀ x ∈ L, x.fit) ∧ (n = 0 ∨ ∃ b off, a = some ⟨b, off, none⟩ ∧ Cs w b off L) := by
  obtain ⟨a, len, cap, rfl⟩ := okWide_slice ht hv
  obtain ⟨fuel, hf⟩ := h
  rcases open_slice ht hf with ⟨hcs, _⟩ | ⟨a', len', cap', m, n, D, Pl, hcs, _, hl, hm, hmm, _, hx⟩
  · simp [Value.cells] at hcs
    obtain ⟨rfl, rfl, rfl⟩ := hcs
    exact ⟨none, 0, 0, [], rfl, rfl, by omega, by simp, .inl rfl⟩
  · simp [Value.cells] at hcs
    obtain ⟨rfl, rfl, rfl⟩ := hcs
    have hlm : len ≤ m := by rw [hmm]; split <;> omega
    have each : ∀ i, i < len → ∃ x : CidL, x.fit ∧ w.cell? (a'.add (i * 4)) = some (.int .u64 (x.version : Nat)) ∧ w.cell? (a'.add (i * 4 + 1)) = some (.int .u64 (x.codec : Nat)) ∧ w.cell? (a'.add (i * 4 + 2)) = some (.int .u64 (x.code : Nat)) ∧ w.cell? (a'.add (i * 4 + 3)) = some (.string ⟨x.digest.toArray⟩) := by
      intro i hi
      obtain ⟨cs', h1, h2⟩ := hx i (by omega)
      rw [ce] at h1
      obtain ⟨_, hlen, hcell⟩ := World.cells?_some h1
      obtain ⟨y0, y1, y2, y3, k, _, _, g0, g1, g2, g3⟩ := trod_struct4 he h2
      rw [o0, c0] at g0
      rw [o1, c1] at g1
      rw [o2, c2] at g2
      rw [o3, c3] at g3
      obtain ⟨n0, e0, _, w0⟩ := DataW.trod_int t0 g0
      obtain ⟨n1, e1, _, w1⟩ := DataW.trod_int t1 g1
      obtain ⟨n2, e2, _, w2⟩ := DataW.trod_int t2 g2
      obtain ⟨s3, e3, _, w3⟩ := DataW.trod_string t3 g3
      have q0 := hcell 0 (by omega)
      have q1 := hcell 1 (by omega)
      have q2 := hcell 2 (by omega)
      have q3 := hcell 3 (by omega)
      rw [add_add] at q0 q1 q2 q3
      rw [take1 e0] at q0
      rw [take1 e1] at q1
      rw [take1 e2] at q2
      rw [take1 e3] at q3
      have b0' : 0 ≤ n0 ∧ n0 < 18446744073709551616 := by simp [Lit.wf, IntKind.max, IntKind.min, IntKind.signed, IntKind.bits] at w0; omega
      have b1' : 0 ≤ n1 ∧ n1 < 18446744073709551616 := by simp [Lit.wf, IntKind.max, IntKind.min, IntKind.signed, IntKind.bits] at w1; omega
      have b2' : 0 ≤ n2 ∧ n2 < 18446744073709551616 := by simp [Lit.wf, IntKind.max, IntKind.min, IntKind.signed, IntKind.bits] at w2; omega
      refine ⟨⟨n0.toNat, n1.toNat, n2.toNat, s3.data.toList⟩, ⟨by simp only; omega, by simp only; omega, by simp only; omega, w3⟩, ?_, ?_, ?_, ?_⟩
      · simp only [Int.toNat_of_nonneg b0'.1]; exact q0
      · simp only [Int.toNat_of_nonneg b1'.1]; exact q1
      · simp only [Int.toNat_of_nonneg b2'.1]; exact q2
      · exact q3
    obtain ⟨f, hF⟩ := choose_lt each
    refine ⟨some a', len, cap, (List.range len).map f, rfl, by simp, by have : cap ≤ 9223372036854775807 := hm; omega, ?_, ?_⟩
    · intro x hxm
      obtain ⟨i, hi, rfl⟩ := List.mem_map.1 hxm
      exact (hF i (List.mem_range.1 hi)).1
    · by_cases h0 : len = 0
      · exact .inl h0
      · right
        obtain ⟨b, off, sp⟩ := a'
        have hs : sp = none := by
          have := (hF 0 (by omega)).2.1
          cases sp with
          | none => rfl
          | some _ =>
            exfalso
            unfold World.cell? at this
            split at this
            · simp [Addr.add] at this
            · cases this
        subst hs
        refine ⟨b, off, rfl, fun i hi => ?_⟩
        simp only [List.length_map, List.length_range] at hi
        obtain ⟨_, g0, g1, g2, g3⟩ := hF i hi
        have hadd : ∀ j, (⟨b, off, none⟩ : Addr).add j = ⟨b, off + j, none⟩ := fun j => by unfold Addr.add; split <;> simp_all
        rw [hadd] at g0 g1 g2 g3
        simp only [List.getElem_map, List.getElem_range]
        exact ⟨g0, g1, g2, g3⟩
end Go.Proofs.YtdfhfaeeejijcaaDoor
