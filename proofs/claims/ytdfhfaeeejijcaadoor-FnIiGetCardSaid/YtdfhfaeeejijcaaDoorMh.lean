/-
  Multihashes in plain Lean: reading one, and that what is read is what is written. Conditions: as each lemma says.
-/
import Derived.Test.YtdfhfaeeejijcaaDoorUv
namespace Go.Proofs.YtdfhfaeeejijcaaDoor
open Go

/-- The multihash with which a text begins: its code, its digest, how many bytes it has. -/
def mhRd (l : List UInt8) : Option (Nat × List UInt8 × Nat) :=
  match uvRd l 0 0 with
  | .ok code n => match uvRd (l.drop n) 0 0 with
    | .ok size m => if l.length - n - m < size then none else some (code, (l.drop (n + m)).take size, n + m + size)
    | _ => none
  | _ => none

/-- A multihash's bytes. -/
def mhWr (code : Nat) (d : List UInt8) : List UInt8 := Lib.uvarint code ++ Lib.uvarint d.length ++ d

theorem mhRd_some {l : List UInt8} {code n : Nat} {d : List UInt8} (h : mhRd l = some (code, d, n)) :
    ∃ a m, uvRd l 0 0 = .ok code a ∧ uvRd (l.drop a) 0 0 = .ok d.length m ∧ d = (l.drop (a + m)).take d.length ∧ n = a + m + d.length ∧ n ≤ l.length ∧ 2 ≤ n ∧ code < 9223372036854775808 ∧ 0 < a ∧ 0 < m := by
  unfold mhRd at h
  split at h
  · rename_i code' a h1
    split at h
    · rename_i size m h2
      split at h
      · cases h
      · rename_i h3
        injection h with h
        injection h with e1 h
        injection h with e2 e3
        subst e1
        have k1 := uvRd_ok0 h1
        have k2 := uvRd_ok0 h2
        rw [List.length_drop] at k2
        have hlen : d.length = size := by rw [← e2, List.length_take, List.length_drop]; omega
        refine ⟨a, m, h1, by rw [hlen]; exact h2, by rw [hlen]; exact e2.symm, by omega, by omega, by omega, by omega, by omega, by omega⟩
    · cases h
  · cases h

theorem mhRd_len {l : List UInt8} (h : l.length < 2) : mhRd l = none := by
  cases hm : mhRd l with
  | none => rfl
  | some x =>
    obtain ⟨code, d, n⟩ := x
    have := mhRd_some hm
    obtain ⟨_, _, _, _, _, _, h1, h2, _⟩ := this
    omega

theorem mhRd_mhWr (code : Nat) (d r : List UInt8) (hc : code < 9223372036854775808) (hd : d.length < 9223372036854775808) : mhRd (mhWr code d ++ r) = some (code, d, (mhWr code d).length) := by
  have e : mhWr code d ++ r = Lib.uvarint code ++ (Lib.uvarint d.length ++ (d ++ r)) := by simp [mhWr]
  unfold mhRd
  rw [e, uvRd_uvarint code _ hc]
  simp only [List.drop_left, uvRd_uvarint d.length _ hd]
  rw [if_neg (by simp)]
  have e2 : (Lib.uvarint code ++ (Lib.uvarint d.length ++ (d ++ r))).drop ((Lib.uvarint code).length + (Lib.uvarint d.length).length) = d ++ r := by
    rw [← List.append_assoc, ← List.length_append, List.drop_left]
  rw [e2, List.take_left]
  simp [mhWr, Nat.add_assoc]

/-- The bytes of which a multihash is read are those with which it is written. -/
theorem mhRd_canon {l : List UInt8} {code n : Nat} {d : List UInt8} (h : mhRd l = some (code, d, n)) : l.take n = mhWr code d ∧ n = (mhWr code d).length := by
  obtain ⟨a, m, h1, h2, h3, rfl, h5, _⟩ := mhRd_some h
  obtain ⟨c1, c2⟩ := uvRd_canon0 h1
  obtain ⟨c3, c4⟩ := uvRd_canon0 h2
  constructor
  · rw [Nat.add_assoc, List.take_add, c1, List.take_add, c3, List.drop_drop]
    rw [mhWr, List.append_assoc]
    congr 2
    exact h3.symm
  · simp only [mhWr, List.length_append]; omega

theorem mhRd_take {l : List UInt8} {code n : Nat} {d : List UInt8} (h : mhRd l = some (code, d, n)) : mhRd (l.take n) = some (code, d, n) := by
  obtain ⟨c1, c2⟩ := mhRd_canon h
  obtain ⟨_, _, _, h2, h3, _, _, _, hc, _⟩ := mhRd_some h
  have := mhRd_mhWr code d [] hc (uvRd_ok0 h2).2.2.2
  rw [List.append_nil] at this
  rw [c1, this, ← c2]
end Go.Proofs.YtdfhfaeeejijcaaDoor
