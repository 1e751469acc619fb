/-
  Content identifiers in plain Lean: their bytes and the reading of them. Conditions: as each lemma says.
-/
import Derived.Test.YtdfhfaeeejijcaaDoorMh
namespace Go.Proofs.YtdfhfaeeejijcaaDoor
open Go

/-- An identifier. -/
structure CidL where
  version : Nat
  codec : Nat
  code : Nat
  digest : List UInt8

/-- Of version 0, or of version 1 with numbers below 2^63. -/
def CidL.tidy (c : CidL) : Prop :=
  (c.version = 0 ∧ c.codec = 112 ∧ c.code = 18 ∧ c.digest.length = 32) ∨ (c.version = 1 ∧ c.codec < 9223372036854775808 ∧ c.code < 9223372036854775808)

/-- Its bytes. -/
def CidL.wr (c : CidL) : List UInt8 := if c.version = 0 then mhWr c.code c.digest else Lib.uvarint 1 ++ Lib.uvarint c.codec ++ mhWr c.code c.digest

/-- Bytes that begin as one of version 0 does. -/
def isV0 (l : List UInt8) : Bool := decide (2 < l.length) && (l[0]? == some 18) && (l[1]? == some 32)

/-- The identifier with which bytes begin, and its length. -/
def cdRd (l : List UInt8) : Option (CidL × Nat) :=
  if isV0 l then (if l.length < 34 then none else some (⟨0, 112, 18, (l.drop 2).take 32⟩, 34))
  else match uvRd l 0 0 with
    | .ok v n => if v = 1 then (match uvRd (l.drop n) 0 0 with
        | .ok codec m => match mhRd (l.drop (n + m)) with
          | some (code, d, k) => some (⟨1, codec, code, d⟩, n + m + k)
          | none => none
        | _ => none) else none
    | _ => none

theorem uv18 : Lib.uvarint 18 = [18] := by rw [Lib.uvarint_small (by omega)]; rfl
theorem uv32 : Lib.uvarint 32 = [32] := by rw [Lib.uvarint_small (by omega)]; rfl
theorem uv1 : Lib.uvarint 1 = [1] := by rw [Lib.uvarint_small (by omega)]; rfl

theorem wr_v0 {c : CidL} (h : c.tidy) (h0 : c.version = 0) : c.wr = 18 :: 32 :: c.digest ∧ c.digest.length = 32 ∧ c.codec = 112 ∧ c.code = 18 := by
  rcases h with ⟨_, h1, h2, h3⟩ | ⟨h1, _⟩
  · refine ⟨?_, h3, h1, h2⟩
    rw [CidL.wr, if_pos h0, mhWr, h2, h3, uv18, uv32]; rfl
  · omega
theorem wr_v1 {c : CidL} (h : c.tidy) (h0 : c.version ≠ 0) : c.wr = 1 :: (Lib.uvarint c.codec ++ mhWr c.code c.digest) ∧ c.version = 1 ∧ c.codec < 9223372036854775808 ∧ c.code < 9223372036854775808 := by
  rcases h with ⟨h1, _⟩ | ⟨h1, h2, h3⟩
  · omega
  · refine ⟨?_, h1, h2, h3⟩
    rw [CidL.wr, if_neg h0, uv1]; rfl

theorem cdRd_wr (c : CidL) (r : List UInt8) (h : c.tidy) (hd : c.digest.length < 9223372036854775808) : cdRd (c.wr ++ r) = some (c, c.wr.length) := by
  by_cases h0 : c.version = 0
  · obtain ⟨e, h3, h1, h2⟩ := wr_v0 h h0
    have hv : isV0 (c.wr ++ r) = true := by rw [e]; simp [isV0]; omega
    rw [cdRd, if_pos hv, e, if_neg (by simp; omega)]
    obtain ⟨v, codec, code, d⟩ := c
    simp only at h0 h1 h2 h3
    subst h0 h1 h2
    simp [h3]
  · obtain ⟨e, h1, h2, h3⟩ := wr_v1 h h0
    have hv : isV0 (c.wr ++ r) = false := by rw [e]; simp [isV0]
    have e1 : c.wr ++ r = Lib.uvarint 1 ++ (Lib.uvarint c.codec ++ (mhWr c.code c.digest ++ r)) := by rw [e, uv1]; simp
    have r1 := uvRd_uvarint 1 (Lib.uvarint c.codec ++ (mhWr c.code c.digest ++ r)) (by omega)
    have r2 := uvRd_uvarint c.codec (mhWr c.code c.digest ++ r) h2
    have r3 := mhRd_mhWr c.code c.digest r h3 hd
    have d1 : (c.wr ++ r).drop (Lib.uvarint 1).length = Lib.uvarint c.codec ++ (mhWr c.code c.digest ++ r) := by rw [e1, List.drop_left]
    have d2 : (c.wr ++ r).drop ((Lib.uvarint 1).length + (Lib.uvarint c.codec).length) = mhWr c.code c.digest ++ r := by
      rw [← List.drop_drop, d1, List.drop_left]
    have hl : c.wr.length = (Lib.uvarint 1).length + (Lib.uvarint c.codec).length + (mhWr c.code c.digest).length := by
      rw [e, uv1, List.length_cons, List.length_append, List.length_singleton]; omega
    rw [cdRd, hv, if_neg (by simp)]
    rw [← e1] at r1
    rw [r1]
    simp only [if_true, d1, r2, d2, r3]
    rw [hl]
    obtain ⟨v, codec, code, d⟩ := c
    simp only at h1
    subst h1
    rfl

theorem cdRd_some {l : List UInt8} {c : CidL} {n : Nat} (h : cdRd l = some (c, n)) : c.tidy ∧ n ≤ l.length ∧ 0 < n ∧ c.digest.length ≤ l.length ∧ l.take n = c.wr ∧ n = c.wr.length := by
  unfold cdRd at h
  split at h
  · rename_i hv
    split at h
    · cases h
    · injection h with h
      injection h with h1 h2
      subst h1 h2
      have hl : 34 ≤ l.length := by omega
      simp [isV0] at hv
      obtain ⟨⟨_, ha⟩, hb⟩ := hv
      have hd : ((l.drop 2).take 32).length = 32 := by simp; omega
      have ht : (⟨0, 112, 18, (l.drop 2).take 32⟩ : CidL).tidy := .inl ⟨rfl, rfl, rfl, hd⟩
      have hw := (wr_v0 ht rfl).1
      refine ⟨ht, hl, by omega, by simp; omega, ?_, by rw [hw]; simp; omega⟩
      rw [hw]
      match l, ha, hb with
      | x :: y :: l', ha, hb => simp at ha hb; subst ha hb; simp
  · split at h
    · rename_i v n1 h1
      split at h
      · rename_i hv1
        split at h
        · rename_i codec m h2
          split at h
          · rename_i code d k h3
            injection h with h
            injection h with h4 h5
            subst h4 h5 hv1
            obtain ⟨a1, a2, a3, a4⟩ := uvRd_ok0 h1
            obtain ⟨b1, b2, b3, b4⟩ := uvRd_ok0 h2
            obtain ⟨_, _, _, _, _, c1, c2, c3, c4, _⟩ := mhRd_some h3
            obtain ⟨e3, e4⟩ := mhRd_canon h3
            obtain ⟨f1, f2⟩ := uvRd_canon0 h1
            obtain ⟨g1, g2⟩ := uvRd_canon0 h2
            rw [List.length_drop] at b2 c2
            have ht : (⟨1, codec, code, d⟩ : CidL).tidy := .inr ⟨rfl, b4, c4⟩
            have hw : (⟨1, codec, code, d⟩ : CidL).wr = Lib.uvarint 1 ++ Lib.uvarint codec ++ mhWr code d := rfl
            refine ⟨ht, by omega, by omega, by simp only; omega, ?_, ?_⟩
            · rw [hw, Nat.add_assoc, List.take_add, f1, List.take_add, g1, List.drop_drop, e3, List.append_assoc]
            · rw [hw, List.length_append, List.length_append, ← f2, ← g2, ← e4]
          · cases h
        · cases h
      · cases h
    · cases h
theorem cdRd_take {l : List UInt8} {c : CidL} {n : Nat} (h : cdRd l = some (c, n)) (hl : l.length < 9223372036854775808) : cdRd (l.take n) = some (c, n) := by
  obtain ⟨ht, h1, h2, h3, h4, h5⟩ := cdRd_some h
  have := cdRd_wr c [] ht (by omega)
  rw [List.append_nil] at this
  rw [h4, this, ← h5]

/-- What the numbers of one of version 1 are read as, one behind the other. -/
theorem wr_reads {c : CidL} (h : c.tidy) (h0 : c.version ≠ 0) (hd : c.digest.length < 9223372036854775808) :
    ∃ n2 n3 n4, uvRd c.wr 0 0 = .ok 1 1 ∧ uvRd (c.wr.drop 1) 0 0 = .ok c.codec n2 ∧ uvRd (c.wr.drop (1 + n2)) 0 0 = .ok c.code n3 ∧ uvRd (c.wr.drop (1 + n2 + n3)) 0 0 = .ok c.digest.length n4 ∧
      1 + n2 + n3 + n4 + c.digest.length = c.wr.length ∧ c.wr.drop (1 + n2) = mhWr c.code c.digest ∧ 1 ≤ n2 ∧ 1 ≤ n3 ∧ 1 ≤ n4 := by
  obtain ⟨e, h1, h2, h3⟩ := wr_v1 h h0
  have e1 : c.wr = Lib.uvarint 1 ++ (Lib.uvarint c.codec ++ (Lib.uvarint c.code ++ (Lib.uvarint c.digest.length ++ c.digest))) := by rw [e, uv1, mhWr]; simp
  have l1 : (Lib.uvarint 1).length = 1 := by rw [uv1]; rfl
  have d1 : c.wr.drop 1 = Lib.uvarint c.codec ++ (Lib.uvarint c.code ++ (Lib.uvarint c.digest.length ++ c.digest)) := by rw [e1, uv1]; rfl
  have d2 : c.wr.drop (1 + (Lib.uvarint c.codec).length) = Lib.uvarint c.code ++ (Lib.uvarint c.digest.length ++ c.digest) := by rw [← List.drop_drop, d1, List.drop_left]
  have d3 : c.wr.drop (1 + (Lib.uvarint c.codec).length + (Lib.uvarint c.code).length) = Lib.uvarint c.digest.length ++ c.digest := by rw [← List.drop_drop, d2, List.drop_left]
  refine ⟨(Lib.uvarint c.codec).length, (Lib.uvarint c.code).length, (Lib.uvarint c.digest.length).length, ?_, ?_, ?_, ?_, ?_, ?_, Lib.uvarint_pos _, Lib.uvarint_pos _, Lib.uvarint_pos _⟩
  · have := uvRd_uvarint 1 (Lib.uvarint c.codec ++ (Lib.uvarint c.code ++ (Lib.uvarint c.digest.length ++ c.digest))) (by omega)
    rw [l1] at this
    rw [e1]; exact this
  · rw [d1]; exact uvRd_uvarint _ _ h2
  · rw [d2]; exact uvRd_uvarint _ _ h3
  · rw [d3]; exact uvRd_uvarint _ _ hd
  · rw [e1]; simp only [List.length_append, l1]; omega
  · rw [d2, mhWr, List.append_assoc]
end Go.Proofs.YtdfhfaeeejijcaaDoor
