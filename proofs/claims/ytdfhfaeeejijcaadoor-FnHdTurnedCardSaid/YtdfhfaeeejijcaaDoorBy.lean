/-
  A slice of bytes that a call is handed: what its cells hold. Conditions: as the lemma says.
-/
import Derived.Test.YtdfhfaeeejijcaaDoorCdS
namespace Go.Proofs.YtdfhfaeeejijcaaDoor
open Go.RowKit Go.ChangeShapes Go.WideShapes Go.ChangeAt Go.Joins Go.Deep

theorem open_bytes {H : Type} {enc : TypeId × Value → H} {P : Program} {w : World} {base : Nat} {spare : Nat → Bool} {held : Bool} {r : Reach} {b0 : Nat} {t e : TypeId} {v : Value} {d : DataW H} {p : List MemPlace}
    (ht : P.underlying t = some (.slice e)) (he : P.underlying e = some (.int .u8)) (ce : P.cellsOf e = 1) (hv : Value.okWide P w r b0 t v) (h : DataW.Trod enc P w base spare held t v d p) :
    ∃ (a : Option Addr) (n c : Nat) (O : List UInt8), v = .slice a n c ∧ O.length = n ∧ n ≤ 9223372036854775807 ∧ (n = 0 ∨ ∃ b off, a = some ⟨b, off, none⟩ ∧ Bs w b off O) := by
  obtain ⟨a, len, cap, rfl⟩ := okWide_slice ht hv
  obtain ⟨fuel, hf⟩ := h
  rcases open_slice ht hf with ⟨hcs, _⟩ | ⟨a', len', cap', m, n, D, Pl, hcs, _, hl, hm, hmm, _, hx⟩
  · simp [Value.cells] at hcs
    obtain ⟨rfl, rfl, rfl⟩ := hcs
    exact ⟨none, 0, 0, [], rfl, rfl, by omega, .inl rfl⟩
  · simp [Value.cells] at hcs
    obtain ⟨rfl, rfl, rfl⟩ := hcs
    have hlm : len ≤ m := by rw [hmm]; split <;> omega
    have each : ∀ i, i < len → ∃ x : UInt8, w.cell? (a'.add i) = some (.int .u8 ((x.toNat : Nat) : Int)) := by
      intro i hi
      obtain ⟨cs', h1, h2⟩ := hx i (by omega)
      rw [ce] at h1
      obtain ⟨_, hlen, hcell⟩ := World.cells?_some h1
      obtain ⟨n0, e0, _, w0⟩ := DataW.trod_int he h2
      have q0 := hcell 0 (by omega)
      rw [add_add, Nat.mul_one, Nat.add_zero] at q0
      rw [e0] at q0
      have b0' : 0 ≤ n0 ∧ n0 < 256 := by simp [Lit.wf, IntKind.max, IntKind.min, IntKind.signed, IntKind.bits] at w0; omega
      refine ⟨UInt8.ofNat n0.toNat, ?_⟩
      rw [UInt8.toNat_ofNat', Nat.mod_eq_of_lt (by omega), Int.toNat_of_nonneg b0'.1]
      exact q0
    obtain ⟨f, hF⟩ := choose_lt each
    refine ⟨some a', len, cap, (List.range len).map f, rfl, by simp, by have : cap ≤ 9223372036854775807 := hm; omega, ?_⟩
    by_cases h0 : len = 0
    · exact .inl h0
    · right
      obtain ⟨b, off, sp⟩ := a'
      have hs : sp = none := by
        have := hF 0 (by omega)
        cases sp with
        | none => rfl
        | some _ =>
          exfalso
          unfold World.cell? at this
          split at this
          · simp [Addr.add] at this
          · cases this
      subst hs
      refine ⟨b, off, rfl, fun i hi => ?_⟩
      simp only [List.length_map, List.length_range] at hi
      have g0 := hF i hi
      have hadd : ∀ j, (⟨b, off, none⟩ : Addr).add j = ⟨b, off + j, none⟩ := fun j => by unfold Addr.add; split <;> simp_all
      rw [hadd] at g0
      simp only [List.getElem_map, List.getElem_range]
      exact g0
end Go.Proofs.YtdfhfaeeejijcaaDoor
