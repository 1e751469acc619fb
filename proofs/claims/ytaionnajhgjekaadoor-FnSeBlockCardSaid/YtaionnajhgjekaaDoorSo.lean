/-
  A slice of texts that a call is handed: what its cells hold. Conditions: as the lemma says.
-/
import Derived.Test.YtaionnajhgjekaaDoorCdS
namespace Go.Proofs.YtaionnajhgjekaaDoor
open Go.RowKit Go.ChangeShapes Go.WideShapes Go.ChangeAt Go.Joins Go.Deep

/-- From cell off of block b on lie the texts S, one behind the other. -/
def So (w : World) (b off : Nat) (S : List (List UInt8)) : Prop := ∀ (i : Nat) (h : i < S.length), w.cell? ⟨b, off + i, none⟩ = some (.string ⟨S[i].toArray⟩)
theorem So.old {w w' : World} {b off : Nat} {S : List (List UInt8)} (h : So w b off S) (hb : Below w.heap.size w w') : So w' b off S := fun i hi =>
  (hb.cell (p := ⟨b, off + i, none⟩) (World.block_lt_of_cell? w _ (h i hi))).trans (h i hi)

theorem open_strs {H : Type} {enc : TypeId × Value → H} {P : Program} {w : World} {base : Nat} {spare : Nat → Bool} {held : Bool} {r : Reach} {b0 : Nat} {t e : TypeId} {v : Value} {d : DataW H} {p : List MemPlace}
    (ht : P.underlying t = some (.slice e)) (he : P.underlying e = some .string) (ce : P.cellsOf e = 1) (hv : Value.okWide P w r b0 t v) (h : DataW.Trod enc P w base spare held t v d p) :
    ∃ (a : Option Addr) (n c : Nat) (S : List (List UInt8)), v = .slice a n c ∧ S.length = n ∧ n ≤ 9223372036854775807 ∧ (∀ s ∈ S, s.length ≤ 9223372036854775807) ∧ (n = 0 ∨ ∃ b off, a = some ⟨b, off, none⟩ ∧ So w b off S) := by
  obtain ⟨a, len, cap, rfl⟩ := okWide_slice ht hv
  obtain ⟨fuel, hf⟩ := h
  rcases open_slice ht hf with ⟨hcs, _⟩ | ⟨a', len', cap', m, n, D, Pl, hcs, _, hl, hm, hmm, _, hx⟩
  · simp [Value.cells] at hcs
    obtain ⟨rfl, rfl, rfl⟩ := hcs
    exact ⟨none, 0, 0, [], rfl, rfl, by omega, by simp, .inl rfl⟩
  · simp [Value.cells] at hcs
    obtain ⟨rfl, rfl, rfl⟩ := hcs
    have hlm : len ≤ m := by rw [hmm]; split <;> omega
    have each : ∀ i, i < len → ∃ x : List UInt8, x.length ≤ 9223372036854775807 ∧ w.cell? (a'.add i) = some (.string ⟨x.toArray⟩) := by
      intro i hi
      obtain ⟨cs', h1, h2⟩ := hx i (by omega)
      rw [ce] at h1
      obtain ⟨_, hlen, hcell⟩ := World.cells?_some h1
      obtain ⟨s, e0, _, w0⟩ := DataW.trod_string he h2
      have q0 := hcell 0 (by omega)
      rw [add_add, Nat.mul_one, Nat.add_zero] at q0
      rw [e0] at q0
      exact ⟨s.data.toList, w0, q0⟩
    obtain ⟨f, hF⟩ := choose_lt each
    refine ⟨some a', len, cap, (List.range len).map f, rfl, by simp, by have : cap ≤ 9223372036854775807 := hm; omega, ?_, ?_⟩
    · intro x hxm
      obtain ⟨i, hi, rfl⟩ := List.mem_map.1 hxm
      exact (hF i (List.mem_range.1 hi)).1
    · by_cases h0 : len = 0
      · exact .inl h0
      · right
        obtain ⟨b, off, sp⟩ := a'
        have hs : sp = none := by
          have := (hF 0 (by omega)).2
          cases sp with
          | none => rfl
          | some _ =>
            exfalso
            unfold World.cell? at this
            split at this
            · simp [Addr.add] at this
            · cases this
        subst hs
        refine ⟨b, off, rfl, fun i hi => ?_⟩
        simp only [List.length_map, List.length_range] at hi
        have g0 := (hF i hi).2
        have hadd : ∀ j, (⟨b, off, none⟩ : Addr).add j = ⟨b, off + j, none⟩ := fun j => by unfold Addr.add; split <;> simp_all
        rw [hadd] at g0
        simp only [List.getElem_map, List.getElem_range]
        exact g0
end Go.Proofs.YtaionnajhgjekaaDoor
