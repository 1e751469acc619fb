/-
  The walks of cid.uvarint (of a varint that is one), Cid.Version, Defined, Bytes, KeyString. Conditions: as each contract says.
-/
import Derived.Test.YtaionnajhgjekaaDoorCd
import Derived.Test.YtaionnajhgjekaaDoorMhL
namespace Go.Proofs.YtaionnajhgjekaaDoor
open Go.RowKit

set_option maxRecDepth 100000 in
set_option maxHeartbeats 2000000 in
theorem cidUv_any (l : List UInt8) (n s : Nat) (w : World) (hl : l.length ≤ 4611686018427387904) (hr : uvRd l 0 0 = .ok n s) :
    Calls Tryd.prog 63 #[.string ⟨l.toArray⟩] w fun e w' => e = .returned (.tuple #[.int .u64 n, .int .i64 s, .nilIface]) ∧ w = w' := by
  have HR := Lib.hid hr
  clear hr
  go_enter Tryd.func63, Tryd.ntmps63
  go_wp2_with fail
  go_loop [5, 6, 7] (fun x q i => ∃ (k a : Nat), k ≤ l.length ∧ k ≤ 9 ∧ a < 128 ^ k ∧ x = .int .u64 a ∧ q = .int .u64 (7 * (k : Int)) ∧ i = .int .i64 k ∧ uvRd (l.drop k) k a = .ok n s) (fun _ _ i => l.length - (intOf i).toNat)
  case atStart => exact ⟨0, 0, by omega, by omega, by simp, rfl, rfl, rfl, by rw [List.drop_zero]; exact HR.out⟩
  case round =>
    obtain ⟨k, a, hk, hk9, ha, rfl, rfl, rfl, hrd⟩ := hrel
    have hlt : k < l.length := by
      rcases Nat.lt_or_ge k l.length with h | h
      · exact h
      · rw [List.drop_of_length_le h] at hrd; cases hrd
    have hb := l[k].toNat_lt
    have hst := uvRd_step l k a hlt
    obtain ⟨b, hbv⟩ : ∃ b, l[k].toNat = b := ⟨_, rfl⟩
    have hix : ∀ h, ((⟨l.toArray⟩ : ByteArray)[k]'h).toNat = b := fun _ => hbv
    rw [hbv] at hb hst
    rw [hst] at hrd
    clear hst
    have hL : ¬ ((k = 8 ∧ 128 ≤ b) ∨ 9 ≤ k) := by
      intro h
      rw [if_pos h] at hrd
      cases hrd
    rw [if_neg hL] at hrd
    have hk8 : k ≤ 8 := by omega
    have d9 : decide ((9 : Int) < (k : Int)) = false := by simp; omega
    have d9b : decide (9 < k) = false := by simp; omega
    have d9e : ((k : Int) == 9) = false := by simp; omega
    by_cases hN : 128 ≤ b
    · rw [if_neg (by omega)] at hrd
      have hA := and127 b hb
      have hS := shl_wrap (b % 128) k (by omega) (by omega)
      have hO := or_add a (b % 128) k ha (by omega) (by omega) _ rfl
      have HO := Lib.hid (And.intro hA (And.intro hS (And.intro hO (And.intro hrd hL))))
      clear hA hS hO hrd hL
      have hd : decide ((b : Int) < 128) = false := by simp; omega
      go_wp2_with fail
      all_goals go_round
      case rel =>
        have hpow : a + b % 128 * 128 ^ k < 128 ^ (k + 1) := by
          rw [Nat.pow_succ]
          have : b % 128 * 128 ^ k ≤ 127 * 128 ^ k := Nat.mul_le_mul_right _ (by omega)
          omega
        refine ⟨k + 1, a + b % 128 * 128 ^ k, by omega, by omega, hpow, ?_, by go_num, by go_num, HO.out.2.2.2.1⟩
        rw [HO.out.1, show IntKind.u64.wrap ((b % 128 : Nat) : Int) = ((b % 128 : Nat) : Int) from by rw [IntKind.wrap_u64]; omega, HO.out.2.1, HO.out.2.2.1]
      case measure => simp [intOf]; omega
    · rw [if_pos (by omega)] at hrd
      have h0 : ¬ (b = 0 ∧ 0 < k) := by
        intro h
        rw [if_pos h] at hrd
        cases hrd
      rw [if_neg h0] at hrd
      injection hrd with h1 h2
      have hS := shl_wrap b k (by omega) (by omega)
      have hO := or_add a b k ha (by omega) (by omega) _ rfl
      have HO := Lib.hid (And.intro hS (And.intro hO (And.intro h1 h2)))
      have hB : IntKind.u64.wrap (b : Int) = (b : Int) := by rw [IntKind.wrap_u64]; omega
      have HB := Lib.hid hB
      have d0 : ∃ t, ((b : Int) == 0) = t ∧ (t = true ↔ b = 0) := ⟨_, rfl, by simp⟩
      obtain ⟨t0, d0, d0'⟩ := d0
      have dk : ∃ t, decide (0 < k) = t ∧ (t = true ↔ 0 < k) := ⟨_, rfl, by simp⟩
      obtain ⟨tk, dk, dk'⟩ := dk
      have H := Lib.hid (And.intro d0' (And.intro dk' h0))
      have hd : decide ((b : Int) < 128) = true := by simp; omega
      clear hS hO h1 h2 hB d0' dk' h0 hL hN
      cases t0 <;> cases tk
      all_goals try (exfalso; obtain ⟨h1, h2, h3⟩ := H.out; simp at h1 h2; omega)
      all_goals go_wp2_with fail
      all_goals go_ret3
      all_goals refine ⟨?_, rfl⟩
      all_goals rw [← HO.out.2.2.1, ← HO.out.2.2.2]
      all_goals have hr : (Value.int .u64 (bits .or .u64 (a : Int) (IntKind.u64.wrap ((b : Int) * 2 ^ (7 * k))))) = .int .u64 ((a + b * 128 ^ k : Nat) : Int) := by rw [HO.out.1, HO.out.2.1]
      all_goals exact congrArg (fun v => Ending.returned (.tuple #[v, .int .i64 (k + 1), .nilIface])) hr

set_option maxRecDepth 100000 in
theorem version_any (c : CidL) (l : List UInt8) (w : World) (hl : l = c.wr) (hc : c.tidy) :
    Calls Tryd.prog 62 #[.agg #[.string ⟨l.toArray⟩]] w fun e w' => e = .returned (.int .u64 c.version) ∧ Below w.heap.size w w' := by
  by_cases h0 : c.version = 0
  · obtain ⟨e, h3, _, _⟩ := wr_v0 hc h0
    rw [h0]
    have hlen : l.length = 34 := by rw [hl, e]; simp [h3]
    have hi0 : ∀ h, ((⟨l.toArray⟩ : ByteArray)[0]'h).toNat = 18 := fun h => by
      have : l[0]? = some 18 := by rw [hl, e]; rfl
      exact congrArg UInt8.toNat (List.getElem?_eq_some_iff.1 this).2
    have hi1 : ∀ h, ((⟨l.toArray⟩ : ByteArray)[1]'h).toNat = 32 := fun h => by
      have : l[1]? = some 32 := by rw [hl, e]; rfl
      exact congrArg UInt8.toNat (List.getElem?_eq_some_iff.1 this).2
    clear e h3 hl h0 hc
    go_enter Tryd.func62, Tryd.ntmps62
    go_wp2_with fail
    go_ret
    exact ⟨rfl, (Below.refl _ _).alloc (Nat.le_refl _) _⟩
  · obtain ⟨e, h1, _, _⟩ := wr_v1 hc h0
    rw [h1]
    have hpos : 0 < l.length := by rw [hl, e]; simp
    have hi0 : ∀ h, ((⟨l.toArray⟩ : ByteArray)[0]'h).toNat = 1 := fun h => by
      have : l[0]? = some 1 := by rw [hl, e]; rfl
      exact congrArg UInt8.toNat (List.getElem?_eq_some_iff.1 this).2
    clear e h1 hl h0 hc
    obtain ⟨t, ht⟩ : ∃ t, ((l.length : Int) == 34) = t := ⟨_, rfl⟩
    cases t
    all_goals go_enter Tryd.func62, Tryd.ntmps62
    all_goals go_wp2_with fail
    all_goals go_ret
    all_goals exact ⟨rfl, (Below.refl _ _).alloc (Nat.le_refl _) _⟩

set_option maxRecDepth 100000 in
theorem keyString_any (s : ByteArray) (w : World) :
    Calls Tryd.prog 35 #[.agg #[.string s]] w fun e w' => e = .returned (.string s) ∧ Below w.heap.size w w' := by
  go_enter Tryd.func35, Tryd.ntmps35
  go_wp2_with fail
  go_ret
  exact ⟨rfl, (Below.refl _ _).alloc (Nat.le_refl _) _⟩

set_option maxRecDepth 100000 in
theorem cidDefined_any (l : List UInt8) (w : World) (hl : 0 < l.length) :
    Calls Tryd.prog 73 #[.agg #[.string ⟨l.toArray⟩]] w fun e w' => e = .returned (.bool true) ∧ Below w.heap.size w w' := by
  have hne : l.isEmpty = false := by cases l with | nil => simp at hl | cons _ _ => rfl
  clear hl
  go_enter Tryd.func73, Tryd.ntmps73
  go_wp2_with fail
  go_ret
  exact ⟨rfl, (Below.refl _ _).alloc (Nat.le_refl _) _⟩

set_option maxRecDepth 100000 in
theorem cidBytes_any (l : List UInt8) (w : World) (hl : 0 < l.length) (_ : l.length ≤ 2147483647) :
    Calls Tryd.prog 65 #[.agg #[.string ⟨l.toArray⟩]] w fun e w' => ∃ g c, e = .returned (.slice (some ⟨g, 0, none⟩) l.length c) ∧ w.heap.size ≤ g ∧ g < w'.heap.size ∧ l.length ≤ c ∧ Bs w' g 0 l ∧ Below w.heap.size w w' := by
  have hcv := fun W => Lib.run_convert_string_bytes (P := Tryd.prog) W 9 48 5 ⟨l.toArray⟩ Tryd.underlying9 Tryd.underlying48 Tryd.underlying5
  go_enter Tryd.func65, Tryd.ntmps65
  go_wp2_with fail
  refine (cidDefined_any l _ hl).mono ?_
  rintro _ w1 ⟨rfl, b1⟩
  obtain ⟨c1, f1⟩ := bcell b1
  have z1 := b1.size
  have b01 := Old.trans ((Below.refl w.heap.size w).alloc (Nat.le_refl _) (.cells #[.string ⟨l.toArray⟩] 72)) b1
  simp at c1 f1 z1
  have hb := bw_below w1 5 ⟨l.toArray⟩
  have hbs := bw_bs w1 5 ⟨l.toArray⟩
  have hsz := bw_size w1 5 ⟨l.toArray⟩
  have hgc := grownCap_ge w1 (⟨l.toArray⟩ : ByteArray).size 0 5
  go_wp2_with fail
  go_ret
  exact ⟨w1.heap.size, _, rfl, by omega, by rw [hsz]; omega, hgc, hbs, Old.trans b01 hb⟩
end Go.Proofs.YtaionnajhgjekaaDoor
