/-
  The walks of package varint: UvarintSize, PutUvarint, ToUvarint, FromUvarint. Conditions: as each contract says.
-/
import Derived.Test.YtdfhfaeeejijcaaDoorIb
import Derived.Test.YtdfhfaeeejijcaaDoorShelf
import Derived.Test.YtdfhfaeeejijcaaDoorBase
import Derived.Test.YtdfhfaeeejijcaaDoorUv
import Derived.Deep.QuietTactic
import Derived.BigQuiet
namespace Go.Proofs.YtdfhfaeeejijcaaDoor
open Go.RowKit

theorem ret_i64 {a b : Int} (h : a = b) : Ending.returned (.int .i64 a) = .returned (.int .i64 b) := by rw [h]

set_option maxRecDepth 100000 in
theorem uvarintSize_any (n : Int) (w : World) (h0 : 0 ≤ n) (h1 : n < 18446744073709551616) :
    Calls Tryd.prog 49 #[.int .u64 n] w fun e w' => e = .returned (.int .i64 (Lib.uvarint n.toNat).length) ∧ w = w' := by
  have hl := uv_len n.toNat (by omega)
  have hb := Lib.bitLen_le n.toNat 64 (by omega) (by simp; omega)
  have HL := Lib.hid hl
  clear hl
  go_enter Tryd.func49, Tryd.ntmps49
  go_wp2_with fail
  refine (Tryd.bits_Len64 n _ h0 (by omega)).mono ?_
  rintro _ w1 ⟨rfl, rfl⟩
  generalize Lib.bitLen n.toNat = b at *
  by_cases hr : 0 < b % 7
  · have h2 : decide ((0 : Int) < (b : Int) % 7) = true := by simp; omega
    go_wp2_with fail
    go_ret
    exact ⟨ret_i64 (by rw [HL.out, if_pos (.inl hr)]; rfl), rfl⟩
  · have h2 : decide ((0 : Int) < (b : Int) % 7) = false := by simp; omega
    by_cases hq : b / 7 = 0
    · have h3 : (((b : Int) / 7) == 0) = true := by simp; omega
      go_wp2_with fail
      go_ret
      exact ⟨ret_i64 (by rw [HL.out, if_pos (.inr hq)]; rfl), rfl⟩
    · have h3 : (((b : Int) / 7) == 0) = false := by simp; omega
      go_wp2_with fail
      go_ret
      exact ⟨ret_i64 (by rw [HL.out, if_neg (by omega)]; rfl), rfl⟩

set_option maxRecDepth 100000 in
/-- PutUvarint: x's varint is laid in the slice's first cells; its length comes back. -/
theorem putUvarint_any (g o n c x : Nat) (hx : x < 18446744073709551616) (w : World) (hn : (Lib.uvarint x).length ≤ n)
    (hcell : ∀ j, j < (Lib.uvarint x).length → (w.cell? ⟨g, o + j, none⟩).isSome = true ∧ w.frozen? ⟨g, o + j, none⟩ = false) :
    Calls Tryd.prog 50 #[.slice (some ⟨g, o, none⟩) n c, .int .u64 x] w fun e w' => e = .returned (.int .i64 (Lib.uvarint x).length) ∧ w' = w.setCells g o (Lib.byteCells (Lib.uvarint x)) := by
  go_enter Tryd.func50, Tryd.ntmps50
  go_wp2_with fail
  refine (Tryd.binary_PutUvarint g o n c x hx w hn hcell).mono ?_
  rintro _ w1 ⟨rfl, rfl⟩
  go_wp2_with fail
  go_ret
  exact ⟨rfl, rfl⟩


theorem or_add (a b k : Nat) (ha : a < 128 ^ k) (hk : k ≤ 8) (hb : b < 128) (x : Int) (hx : x = ((b * 128 ^ k : Nat) : Int)) : bits .or .u64 (a : Int) x = ((a + b * 128 ^ k : Nat) : Int) := by
  subst hx
  have e : (128 : Nat) ^ k = 2 ^ (7 * k) := by rw [Nat.pow_mul]
  have h8 : 128 ^ k ≤ 128 ^ 8 := Nat.pow_le_pow_right (by omega) hk
  have e8 : (128 : Nat) ^ 8 = 72057594037927936 := by decide
  have h9 : b * 128 ^ k ≤ 127 * 128 ^ k := Nat.mul_le_mul_right _ (by omega)
  have hb' : b * 128 ^ k < 2 ^ 64 := by omega
  have h := (bits_nat .u64 64 (by decide) (fun n h1 h2 => by rw [IntKind.wrap_u64]; omega) a (b * 128 ^ k) (by omega) hb').2
  have h3 := Nat.two_pow_add_eq_or_of_lt (i := 7 * k) (b := a) (by rw [← e]; exact ha) b
  rw [h, Nat.or_comm, e, Nat.mul_comm b, ← h3, Nat.add_comm]
theorem and127 (b : Nat) (hb : b < 256) : bits .and .u8 (b : Int) 127 = ((b % 128 : Nat) : Int) := by
  have h := u8_and_nat b 127 hb (by omega)
  have h2 := Nat.and_two_pow_sub_one_eq_mod b 7
  simp only [Nat.reducePow, Nat.add_one_sub_one] at h2
  rw [show ((127 : Nat) : Int) = 127 from rfl] at h
  rw [h, h2]
theorem shl_wrap (b k : Nat) (hb : b < 128) (hk : k ≤ 8) : IntKind.u64.wrap ((b : Int) * 2 ^ (7 * k)) = ((b * 128 ^ k : Nat) : Int) := by
  have e : (128 : Nat) ^ k = 2 ^ (7 * k) := by rw [Nat.pow_mul]
  have h8 : 128 ^ k ≤ 128 ^ 8 := Nat.pow_le_pow_right (by omega) hk
  have e8 : (128 : Nat) ^ 8 = 72057594037927936 := by decide
  have h9 : b * 128 ^ k ≤ 127 * 128 ^ k := Nat.mul_le_mul_right _ (by omega)
  have e2 : ((b : Int) * 2 ^ (7 * k)) = ((b * 128 ^ k : Nat) : Int) := by rw [e]; push_cast; rfl
  rw [e2, IntKind.wrap_u64]
  omega
theorem uvRd_step (l : List UInt8) (k a : Nat) (hk : k < l.length) : uvRd (l.drop k) k a = if (k = 8 ∧ 128 ≤ l[k].toNat) ∨ 9 ≤ k then .long
    else if l[k].toNat < 128 then (if l[k].toNat = 0 ∧ 0 < k then .needless else .ok (a + l[k].toNat * 128 ^ k) (k + 1)) else uvRd (l.drop (k + 1)) (k + 1) (a + l[k].toNat % 128 * 128 ^ k) := by
  rw [List.drop_eq_getElem_cons hk, uvRd]

/-- What FromUvarint comes to. -/
def UvPost (r : UvR) (w : World) (e : Ending) (w' : World) : Prop :=
  (∃ k, w' = w.drewN k) ∧ match r with
    | .ok n s => e = .returned (.tuple #[.int .u64 n, .int .i64 s, .nilIface])
    | _ => ∃ t p, e = .returned (.tuple #[.int .u64 0, .int .i64 0, .iface t p])

theorem uvPost_ok {r : UvR} {w : World} {n s : Nat} {x y : Int} (h : r = .ok n s) (hx : x = n) (hy : y = s) : UvPost r w (.returned (.tuple #[.int .u64 x, .int .i64 y, .nilIface])) w := by
  subst h hx hy
  exact ⟨⟨0, rfl⟩, rfl⟩

set_option maxRecDepth 100000 in
set_option maxHeartbeats 1000000 in
theorem fromUvarint_any (g o c : Nat) (l : List UInt8) (w : World) (hl : l.length ≤ 4611686018427387904) (hc : Bs w g o l) (e0 : Er w 7) (e1 : Er w 8) (e2 : Er w 9) :
    Calls Tryd.prog 68 #[.slice (some ⟨g, o, none⟩) l.length c] w (UvPost (uvRd l 0 0) w) := by
  obtain ⟨t0, p0, e0⟩ := e0
  obtain ⟨t1, p1, e1⟩ := e1
  obtain ⟨t2, p2, e2⟩ := e2
  go_enter Tryd.func68, Tryd.ntmps68
  go_wp2_with fail
  go_loop [5, 6, 11] (fun x s i => ∃ (k : Nat) (a : Nat), k ≤ l.length ∧ k ≤ 9 ∧ a < 128 ^ k ∧ x = .int .u64 a ∧ s = .int .u64 (7 * k : Nat) ∧ i = .int .i64 k ∧ uvRd l 0 0 = uvRd (l.drop k) k a) (fun _ _ i => l.length - (intOf i).toNat)
  case atStart => exact ⟨0, 0, by omega, by omega, by simp, rfl, rfl, rfl, by simp⟩
  case round =>
    obtain ⟨k, a, hk, hk9, ha, rfl, rfl, rfl, hrd⟩ := hrel
    have HRD := Lib.hid hrd
    clear hrd
    by_cases hlt : k < l.length
    · have hcell : w.cell? ⟨g, o + k, none⟩ = some (.int .u8 ((l[k].toNat : Nat) : Int)) := hc k hlt
      have hb := l[k].toNat_lt
      have hst := uvRd_step l k a hlt
      have HST := Lib.hid hst
      clear hst
      generalize l[k].toNat = b at *
      by_cases hL : (k = 8 ∧ 128 ≤ b) ∨ 9 ≤ k
      · have hend : uvRd l 0 0 = .long := by rw [HRD.out, HST.out, if_pos hL]
        go_wp2_with fail
        all_goals go_quiet (fail)
        all_goals go_wp2_with fail
        all_goals go_ret3
        all_goals exact ⟨⟨_, rfl⟩, by rw [hend]; exact ⟨_, _, rfl⟩⟩
      · by_cases hN : 128 ≤ b
        · have hA := and127 b hb
          have hS := shl_wrap (b % 128) k (by omega) (by omega)
          have hO := or_add a (b % 128) k ha (by omega) (by omega) _ rfl
          have HO := Lib.hid (And.intro hA (And.intro hS hO))
          clear hA hS hO
          go_wp2_with fail
          all_goals go_round
          case rel =>
            have hpow : a + b % 128 * 128 ^ k < 128 ^ (k + 1) := by
              rw [Nat.pow_succ]
              have : b % 128 * 128 ^ k ≤ 127 * 128 ^ k := Nat.mul_le_mul_right _ (by omega)
              omega
            refine ⟨k + 1, a + b % 128 * 128 ^ k, by omega, by omega, hpow, ?_, by go_num, by go_num, by rw [HRD.out, HST.out, if_neg hL, if_neg (by omega)]⟩
            rw [HO.out.1, show IntKind.u64.wrap ((b % 128 : Nat) : Int) = ((b % 128 : Nat) : Int) from by rw [IntKind.wrap_u64]; omega, HO.out.2.1, HO.out.2.2]
          case measure => simp [intOf]; omega
        · by_cases h0 : b = 0 ∧ 0 < k
          · have hend : uvRd l 0 0 = .needless := by rw [HRD.out, HST.out, if_neg hL, if_pos (by omega), if_pos h0]
            have h01 : ((b : Int) == 0) = true := by simp [h0.1]
            go_wp2_with fail
            all_goals go_quiet (fail)
            all_goals go_wp2_with fail
            all_goals go_ret3
            all_goals exact ⟨⟨_, rfl⟩, by rw [hend]; exact ⟨_, _, rfl⟩⟩
          · have hend : uvRd l 0 0 = .ok (a + b * 128 ^ k) (k + 1) := by rw [HRD.out, HST.out, if_neg hL, if_pos (by omega), if_neg h0]
            have hS := shl_wrap b k (by omega) (by omega)
            have hO := or_add a b k ha (by omega) (by omega) _ rfl
            have HO := Lib.hid (And.intro hS hO)
            have HE := Lib.hid hend
            clear hS hO hend
            go_wp2_with fail
            all_goals go_ret3
            all_goals refine uvPost_ok HE.out ?_ ?_
            all_goals first
              | (rw [HO.out.1]; exact HO.out.2)
              | rfl
              | (push_cast; omega)
              | (exact or_add a b k ha (by omega) (by omega) _ (by rw [show k = 8 from by omega, show (128 : Nat) ^ 8 = 72057594037927936 from by decide, Int.natCast_mul]; rfl))
              | (exact or_add a b k ha (by omega) (by omega) _ (by rw [show b = 0 from by omega, Nat.zero_mul]; rfl))
              | trace_state
    · have hend : uvRd l 0 0 = .ends := by rw [HRD.out, List.drop_of_length_le (by omega)]; rfl
      go_wp2_with fail
      go_quiet (fail)
      go_wp2_with fail
      go_ret3
      exact ⟨⟨_, rfl⟩, by rw [hend]; exact ⟨_, _, rfl⟩⟩
end Go.Proofs.YtdfhfaeeejijcaaDoor
