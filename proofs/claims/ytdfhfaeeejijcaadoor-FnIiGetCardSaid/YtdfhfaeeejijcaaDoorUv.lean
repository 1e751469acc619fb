/-
  Unsigned varints in plain Lean: the length of one, and the reading of one (at most nine bytes, no needless zeros). Conditions: as each lemma says.
-/
import Derived.Lib.Varint
import Derived.Lib.BitFns
namespace Go.Proofs.YtdfhfaeeejijcaaDoor
open Go

/-- How many bytes a varint has, out of the number of its bits. -/
theorem uv_len (x : Nat) (hx : x < 18446744073709551616) :
    (Lib.uvarint x).length = (if 0 < Lib.bitLen x % 7 ∨ Lib.bitLen x / 7 = 0 then Lib.bitLen x / 7 + 1 else Lib.bitLen x / 7) := by
  induction x using Nat.strongRecOn with
  | ind x ih =>
    by_cases h : x < 128
    · rw [Lib.uvarint_small h]
      have hb := Lib.bitLen_le x 7 (by omega) (by simpa using h)
      simp only [List.length_singleton]
      split <;> omega
    · rw [Lib.uvarint_big (by omega), List.length_cons, ih (x / 128) (by omega) (by omega)]
      have hs := Lib.bitLen_shift 7 x (by simp; omega) (by simpa using hx)
      rw [show (2 : Nat) ^ 7 = 128 from rfl] at hs
      have hp : 1 ≤ Lib.bitLen (x / 128) := by
        rw [Lib.bitLen_half (x / 128) (by omega) (by omega)]
        omega
      rw [hs]
      split <;> split <;> omega

theorem uv_le9 {x : Nat} (h : x < 9223372036854775808) : (Lib.uvarint x).length ≤ 9 :=
  Lib.uvarint_length 8 x (Nat.lt_of_lt_of_le h (by decide))

/-- What reading a varint comes to. -/
inductive UvR where
  | ends | long | needless
  | ok (n size : Nat)
  deriving DecidableEq

/-- Read on: k bytes have been read, their number is x. -/
def uvRd : List UInt8 → Nat → Nat → UvR
  | [], _, _ => .ends
  | b :: l, k, x =>
    if (k = 8 ∧ 128 ≤ b.toNat) ∨ 9 ≤ k then .long
    else if b.toNat < 128 then (if b.toNat = 0 ∧ 0 < k then .needless else .ok (x + b.toNat * 128 ^ k) (k + 1))
    else uvRd l (k + 1) (x + b.toNat % 128 * 128 ^ k)

theorem uvRd_uvarint_at (r : List UInt8) : ∀ (y k x : Nat), k ≤ 8 → y * 128 ^ k < 9223372036854775808 → (k = 0 ∨ y ≠ 0) →
    uvRd (Lib.uvarint y ++ r) k x = .ok (x + y * 128 ^ k) (k + (Lib.uvarint y).length) := by
  intro y
  induction y using Nat.strongRecOn with
  | ind y ih =>
    intro k x hk hy h0
    by_cases h : y < 128
    · rw [Lib.uvarint_small h]
      have e : (y.toUInt8).toNat = y := by simp; omega
      simp only [List.singleton_append, uvRd, e, List.length_singleton]
      rw [if_neg (by omega), if_pos h, if_neg (by omega)]
    · rw [Lib.uvarint_big (by omega), List.length_cons]
      have e : ((y % 128 + 128).toUInt8).toNat = y % 128 + 128 := by simp; omega
      have hk8 : k < 8 := by
        rcases Nat.lt_or_ge k 8 with h8 | h8
        · exact h8
        · exfalso
          have h1 : 128 ^ 8 ≤ 128 ^ k := Nat.pow_le_pow_right (by omega) h8
          have h2 : 128 * 128 ^ 8 ≤ y * 128 ^ k := Nat.mul_le_mul (by omega) h1
          have h3 : 128 * 128 ^ 8 = (9223372036854775808 : Nat) := by decide
          omega
      have hdm : y / 128 * 128 + y % 128 = y := by omega
      have hp : y / 128 * 128 ^ (k + 1) + y % 128 * 128 ^ k = y * 128 ^ k := by
        rw [Nat.pow_succ, Nat.mul_comm (128 ^ k) 128, ← Nat.mul_assoc, ← Nat.add_mul, hdm]
      simp only [List.cons_append, uvRd, e]
      rw [if_neg (by omega), if_neg (by omega)]
      have e2 : (y % 128 + 128) % 128 = y % 128 := by omega
      rw [e2, ih (y / 128) (by omega) (k + 1) _ (by omega) (by omega) (by omega)]
      congr 1 <;> omega

/-- A varint that is written is read, whatever stands behind it. -/
theorem uvRd_uvarint (y : Nat) (r : List UInt8) (hy : y < 9223372036854775808) : uvRd (Lib.uvarint y ++ r) 0 0 = .ok y (Lib.uvarint y).length := by
  have := uvRd_uvarint_at r y 0 0 (by omega) (by simpa using hy) (.inl rfl)
  simpa using this

/-- What is read: no more bytes than there are, at most nine; a number below 2^63. -/
theorem uvRd_ok : ∀ (l : List UInt8) (k x n s : Nat), uvRd l k x = .ok n s → x < 128 ^ k → k < s ∧ s ≤ k + l.length ∧ s ≤ 9 ∧ n < 128 ^ s
  | [], k, x, n, s, h, _ => by simp [uvRd] at h
  | b :: l, k, x, n, s, h, hx => by
    simp only [uvRd] at h
    have hb := b.toNat_lt
    have hpos : 0 < 128 ^ k := Nat.pow_pos (by omega)
    split at h
    · cases h
    · rename_i h1
      split at h
      · rename_i h2
        split at h
        · cases h
        · injection h with e1 e2
          subst e1 e2
          refine ⟨by omega, by simp only [List.length_cons]; omega, by omega, ?_⟩
          rw [Nat.pow_succ]
          have : b.toNat * 128 ^ k ≤ 127 * 128 ^ k := Nat.mul_le_mul_right _ (by omega)
          omega
      · have hx2 : x + b.toNat % 128 * 128 ^ k < 128 ^ (k + 1) := by
          rw [Nat.pow_succ]
          have : b.toNat % 128 * 128 ^ k ≤ 127 * 128 ^ k := Nat.mul_le_mul_right _ (by omega)
          omega
        have := uvRd_ok l (k + 1) _ n s h hx2
        simp only [List.length_cons]
        omega

theorem uvRd_ok0 {l : List UInt8} {n s : Nat} (h : uvRd l 0 0 = .ok n s) : 0 < s ∧ s ≤ l.length ∧ s ≤ 9 ∧ n < 9223372036854775808 := by
  obtain ⟨h1, h2, h3, h4⟩ := uvRd_ok l 0 0 n s h (by simp)
  refine ⟨h1, by simpa using h2, h3, Nat.lt_of_lt_of_le h4 ?_⟩
  have : 128 ^ s ≤ 128 ^ 9 := Nat.pow_le_pow_right (by omega) h3
  have e : (128 : Nat) ^ 9 = 9223372036854775808 := by decide
  omega

/-- The bytes of which a varint is read are those with which it is written. -/
theorem uvRd_canon : ∀ (l : List UInt8) (k x n s : Nat), uvRd l k x = .ok n s → x < 128 ^ k →
    ∃ y, n = x + y * 128 ^ k ∧ (0 < k → y ≠ 0) ∧ l.take (s - k) = Lib.uvarint y ∧ s = k + (Lib.uvarint y).length
  | [], k, x, n, s, h, _ => by simp [uvRd] at h
  | b :: l, k, x, n, s, h, hx => by
    have hok := uvRd_ok (b :: l) k x n s h hx
    simp only [uvRd] at h
    have hb := b.toNat_lt
    have hpos : 0 < 128 ^ k := Nat.pow_pos (by omega)
    split at h
    · cases h
    · rename_i h1
      split at h
      · rename_i h2
        split at h
        · cases h
        · rename_i h3
          injection h with e1 e2
          subst e1 e2
          refine ⟨b.toNat, rfl, by omega, ?_, ?_⟩
          · rw [Lib.uvarint_small h2, show k + 1 - k = 1 from by omega]
            simp
          · rw [Lib.uvarint_small h2]; rfl
      · rename_i h2
        have hx2 : x + b.toNat % 128 * 128 ^ k < 128 ^ (k + 1) := by
          rw [Nat.pow_succ]
          have : b.toNat % 128 * 128 ^ k ≤ 127 * 128 ^ k := Nat.mul_le_mul_right _ (by omega)
          omega
        obtain ⟨y, e1, e2, e3, e4⟩ := uvRd_canon l (k + 1) _ n s h hx2
        have hy : y ≠ 0 := e2 (by omega)
        have hbig : Lib.uvarint (b.toNat % 128 + y * 128) = b :: Lib.uvarint y := by
          rw [Lib.uvarint_big (by omega)]
          have a1 : (b.toNat % 128 + y * 128) / 128 = y := by omega
          have a2 : ((b.toNat % 128 + y * 128) % 128 + 128).toUInt8 = b := by
            have : (b.toNat % 128 + y * 128) % 128 + 128 = b.toNat := by omega
            rw [this]; simp
          rw [a1, a2]
        refine ⟨b.toNat % 128 + y * 128, ?_, by omega, ?_, ?_⟩
        · rw [e1, Nat.pow_succ, Nat.add_mul, Nat.mul_assoc y 128, Nat.mul_comm 128 (128 ^ k)]; omega
        · rw [hbig, show s - k = (s - (k + 1)) + 1 from by omega, List.take_succ_cons, e3]
        · rw [hbig, List.length_cons]; omega

theorem uvRd_canon0 {l : List UInt8} {n s : Nat} (h : uvRd l 0 0 = .ok n s) : l.take s = Lib.uvarint n ∧ s = (Lib.uvarint n).length := by
  obtain ⟨y, e1, _, e3, e4⟩ := uvRd_canon l 0 0 n s h (by simp)
  have : n = y := by simpa using e1
  subst this
  exact ⟨by simpa using e3, by simpa using e4⟩
end Go.Proofs.YtdfhfaeeejijcaaDoor
