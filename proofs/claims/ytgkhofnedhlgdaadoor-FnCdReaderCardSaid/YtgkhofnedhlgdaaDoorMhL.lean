/-
  The walks of impl.MhEncode, spec.ReadVarint, spec.ReadMultihash, laws.mhOne, FnMhDecode and FnMhCanon. Conditions: the packages' errors are not nil (they are as start-up lays them).
-/
import Derived.Test.YtgkhofnedhlgdaaDoorMhI
namespace Go.Proofs.YtgkhofnedhlgdaaDoor
open Go.RowKit

set_option maxRecDepth 100000 in
theorem mhEncodeI_any (code : Int) (d : List UInt8) (w : World) (h0 : 0 ≤ code) (h1 : code < 18446744073709551616) (hl : d.length ≤ 2147483647) :
    Calls Tryd.prog 15 #[.int .u64 code, .string ⟨d.toArray⟩] w fun e w' => e = .returned (.string ⟨(mhWr code.toNat d).toArray⟩) ∧ Below w.heap.size w w' := by
  have hcv := fun W => Lib.run_convert_string_bytes (P := Tryd.prog) W 9 51 5 ⟨d.toArray⟩ Tryd.underlying9 Tryd.underlying51 Tryd.underlying5
  have hb := bw_below w 5 ⟨d.toArray⟩
  have hbs := bw_bs w 5 ⟨d.toArray⟩
  go_enter Tryd.func15, Tryd.ntmps15
  go_wp2_with fail
  generalize Lib.bytesWorld w 5 ⟨d.toArray⟩ = W at *
  refine (mhEncode_any w.heap.size 0 _ _ code d W h0 h1 rfl (by omega) hbs).mono ?_
  clear hcv
  rintro e w1 ⟨rfl, b1, hb1⟩
  have hcv2 := conv_str (P := Tryd.prog) Tryd.underlying51 Tryd.underlying5 Tryd.underlying9 (c := (mhWr code.toNat d).length) hb1 rfl
  go_wp2_with fail
  go_ret
  exact ⟨rfl, Old.trans hb b1⟩

/-- What spec.ReadVarint comes to. -/
def rvOf (r : UvR) : Value :=
  match r with
  | .ok n s => .tuple #[.int .u64 n, .int .i64 s, .int .i64 0]
  | .ends => .tuple #[.int .u64 0, .int .i64 0, .int .i64 1]
  | .long => .tuple #[.int .u64 0, .int .i64 0, .int .i64 2]
  | .needless => .tuple #[.int .u64 0, .int .i64 0, .int .i64 3]

set_option maxRecDepth 100000 in
set_option maxHeartbeats 1000000 in
theorem specRead_any (l : List UInt8) (w : World) (hl : l.length ≤ 4611686018427387904) :
    Calls Tryd.prog 9 #[.string ⟨l.toArray⟩] w fun e w' => e = .returned (rvOf (uvRd l 0 0)) ∧ w = w' := by
  go_enter Tryd.func9, Tryd.ntmps9
  go_wp2_with fail
  go_loop [5, 6] (fun x i => ∃ (k : Nat) (a : Nat), k ≤ l.length ∧ k ≤ 9 ∧ a < 128 ^ k ∧ x = .int .u64 a ∧ i = .int .i64 k ∧ uvRd l 0 0 = uvRd (l.drop k) k a) (fun _ i => l.length - (intOf i).toNat)
  case atStart => exact ⟨0, 0, by omega, by omega, by simp, rfl, rfl, by simp⟩
  case round =>
    obtain ⟨k, a, hk, hk9, ha, rfl, rfl, hrd⟩ := hrel
    have HRD := Lib.hid hrd
    clear hrd
    by_cases hlt : k < l.length
    · have hb := l[k].toNat_lt
      have hst := uvRd_step l k a hlt
      obtain ⟨b, hbv⟩ : ∃ b, l[k].toNat = b := ⟨_, rfl⟩
      have hix : ∀ h, ((⟨l.toArray⟩ : ByteArray)[k]'h).toNat = b := fun _ => hbv
      rw [hbv] at hb hst
      have HST := Lib.hid hst
      clear hst
      have h8 : ∃ t, ((k : Int) == 8) = t ∧ (t = true ↔ k = 8) := ⟨_, rfl, by simp; omega⟩
      obtain ⟨t8, h8, h8'⟩ := h8
      have d128 : ∃ t, decide ((128 : Int) ≤ (b : Int)) = t ∧ (t = true ↔ 128 ≤ b) := ⟨_, rfl, by simp; omega⟩
      obtain ⟨t128, d128, d128'⟩ := d128
      have dlt : decide ((b : Int) < 128) = !t128 := by rw [← d128]; by_cases h : (128 : Int) ≤ b <;> simp [h] <;> omega
      have d9 : ∃ t, decide ((9 : Int) ≤ (k : Int)) = t ∧ (t = true ↔ 9 ≤ k) := ⟨_, rfl, by simp; omega⟩
      obtain ⟨t9, d9, d9'⟩ := d9
      have d0 : ∃ t, ((b : Int) == 0) = t ∧ (t = true ↔ b = 0) := ⟨_, rfl, by simp⟩
      obtain ⟨t0, d0, d0'⟩ := d0
      have dk : ∃ t, decide (0 < k) = t ∧ (t = true ↔ 0 < k) := ⟨_, rfl, by simp⟩
      obtain ⟨tk, dk, dk'⟩ := dk
      have H := Lib.hid (And.intro h8' (And.intro d128' (And.intro d9' (And.intro d0' dk'))))
      clear h8' d128' d9' d0' dk'
      by_cases hL : (k = 8 ∧ 128 ≤ b) ∨ 9 ≤ k
      · have HE := Lib.hid (show uvRd l 0 0 = .long by rw [HRD.out, HST.out, if_pos hL])
        have HL := Lib.hid hL
        clear hL
        cases t8 <;> cases t9 <;> cases t128
        all_goals try (exfalso; obtain ⟨h1, h2, h3, h4, h5⟩ := H.out; have := HL.out; simp at h1 h2 h3; omega)
        all_goals go_wp2_with fail
        all_goals go_ret3
        all_goals exact ⟨by rw [HE.out]; rfl, rfl⟩
      · obtain rfl : t9 = false := by obtain ⟨h1, h2, h3, h4, h5⟩ := H.out; cases t9 <;> simp at h3 ⊢; omega
        by_cases hN : 128 ≤ b
        · obtain rfl : t8 = false := by obtain ⟨h1, h2, h3, h4, h5⟩ := H.out; cases t8 <;> simp at h1 ⊢; omega
          obtain rfl : t128 = true := by obtain ⟨h1, h2, h3, h4, h5⟩ := H.out; cases t128 <;> simp at h2 ⊢; omega
          have hA := and127 b hb
          have hS := shl_wrap (b % 128) k (by omega) (by omega)
          have hO := or_add a (b % 128) k ha (by omega) (by omega) _ rfl
          have HO := Lib.hid (And.intro hA (And.intro hS hO))
          have HL := Lib.hid (And.intro hL hN)
          clear hA hS hO hL hN
          go_wp2_with fail
          all_goals go_round
          case rel =>
            have hpow : a + b % 128 * 128 ^ k < 128 ^ (k + 1) := by
              rw [Nat.pow_succ]
              have : b % 128 * 128 ^ k ≤ 127 * 128 ^ k := Nat.mul_le_mul_right _ (by omega)
              omega
            have hL := HL.out
            refine ⟨k + 1, a + b % 128 * 128 ^ k, by omega, by omega, hpow, ?_, by go_num, by rw [HRD.out, HST.out, if_neg hL.1, if_neg (by omega)]⟩
            rw [HO.out.1, show IntKind.u64.wrap ((b % 128 : Nat) : Int) = ((b % 128 : Nat) : Int) from by rw [IntKind.wrap_u64]; omega, HO.out.2.1, HO.out.2.2]
          case measure => simp [intOf]; omega
        · obtain rfl : t128 = false := by obtain ⟨h1, h2, h3, h4, h5⟩ := H.out; cases t128 <;> simp at h2 ⊢; omega
          have hA := and127 b hb
          rw [show b % 128 = b from by omega] at hA
          by_cases h0 : b = 0 ∧ 0 < k
          · have HE := Lib.hid (show uvRd l 0 0 = .needless by rw [HRD.out, HST.out, if_neg hL, if_pos (by omega), if_pos h0])
            obtain rfl : t0 = true := by obtain ⟨h1, h2, h3, h4, h5⟩ := H.out; exact h4.2 h0.1
            obtain rfl : tk = true := by obtain ⟨h1, h2, h3, h4, h5⟩ := H.out; exact h5.2 h0.2
            clear hA hL hN h0
            cases t8
            all_goals go_wp2_with fail
            all_goals go_ret3
            all_goals exact ⟨by rw [HE.out]; rfl, rfl⟩
          · have HE := Lib.hid (show uvRd l 0 0 = .ok (a + b * 128 ^ k) (k + 1) by rw [HRD.out, HST.out, if_neg hL, if_pos (by omega), if_neg h0])
            have hS := shl_wrap b k (by omega) (by omega)
            have hO := or_add a b k ha (by omega) (by omega) _ rfl
            have HO := Lib.hid (And.intro hA (And.intro hS hO))
            have HB := Lib.hid (And.intro (show IntKind.u64.wrap (b : Int) = (b : Int) by rw [IntKind.wrap_u64]; omega) h0)
            clear hA hS hO hL hN h0
            cases t8 <;> cases tk <;> cases t0
            all_goals try (exfalso; obtain ⟨h1, h2, h3, h4, h5⟩ := H.out; have := HB.out.2; simp at h4 h5; omega)
            all_goals go_wp2_with fail
            all_goals go_ret3
            all_goals refine ⟨?_, rfl⟩
            all_goals rw [HE.out]
            all_goals have hr : (Value.int .u64 (bits .or .u64 (a : Int) (IntKind.u64.wrap (IntKind.u64.wrap (bits .and .u8 (b : Int) 127) * 2 ^ (7 * k))))) = .int .u64 ((a + b * 128 ^ k : Nat) : Int) := by rw [HO.out.1, HB.out.1, HO.out.2.1, HO.out.2.2]
            all_goals exact congrArg (fun v => Ending.returned (.tuple #[v, .int .i64 (k + 1), .int .i64 0])) hr
    · have hend : uvRd l 0 0 = .ends := by rw [HRD.out, List.drop_of_length_le (by omega)]; rfl
      have HE := Lib.hid hend
      clear hend
      go_wp2_with fail
      go_ret3
      exact ⟨by rw [HE.out]; rfl, rfl⟩

theorem str_mid (l : List UInt8) {a b n : Nat} (h : b = a + n) : (⟨l.toArray⟩ : ByteArray).extract a b = ⟨((l.drop a).take n).toArray⟩ := by
  subst h
  rw [ByteArray.extract_mk]
  simp [List.take_drop]
theorem ret_tup4 {s t : ByteArray} {a b : Int} {c : Int} {k : Bool} (h : s = t) (hb : a = b) : Ending.returned (.tuple #[.int .u64 c, .string s, .int .i64 a, .bool k]) = .returned (.tuple #[.int .u64 c, .string t, .int .i64 b, .bool k]) := by rw [h, hb]
/-- What spec.ReadMultihash comes to. -/
def smOf (r : Option (Nat × List UInt8 × Nat)) : Value :=
  match r with
  | some (code, d, n) => .tuple #[.int .u64 code, .string ⟨d.toArray⟩, .int .i64 n, .bool true]
  | none => .tuple #[.int .u64 0, .string ⟨#[]⟩, .int .i64 0, .bool false]

set_option maxRecDepth 100000 in
set_option maxHeartbeats 1000000 in
theorem specMh_any (l : List UInt8) (w : World) (hl : l.length ≤ 2147483647) :
    Calls Tryd.prog 52 #[.string ⟨l.toArray⟩] w fun e w' => e = .returned (smOf (mhRd l)) ∧ Below w.heap.size w w' := by
  generalize hR : mhRd l = R
  unfold mhRd at hR
  have HR := Lib.hid hR
  clear hR
  generalize h1 : uvRd l 0 0 = r1
  rw [h1] at HR
  have H1 := Lib.hid h1
  clear h1
  go_enter Tryd.func52, Tryd.ntmps52
  go_wp2_with fail
  refine (specRead_any l w (by omega)).mono ?_
  rw [H1.out]
  rintro e w1 ⟨rfl, rfl⟩
  cases r1 with
  | ok code n =>
    have hn := uvRd_ok0 H1.out
    generalize h2 : uvRd (l.drop n) 0 0 = r2
    have H2 := Lib.hid h2
    clear h2
    simp only [rvOf]
    go_wp2_with fail
    rw [str_from l rfl]
    refine (specRead_any (l.drop n) _ (by simp; omega)).mono ?_
    rw [H2.out]
    rintro e w1 ⟨rfl, rfl⟩
    cases r2 with
    | ok size m =>
      have hm := uvRd_ok0 H2.out
      rw [List.length_drop] at hm
      simp only [rvOf]
      by_cases hz : l.length - n - m < size
      · have hR : R = none := by rw [← HR.out]; simp only [H2.out]; rw [if_pos hz]
        subst hR
        clear HR
        go_wp2_with fail
        refine bodyPost_ret (results_tmp4 rfl _ _ _) rfl ?_
        exact ⟨rfl, Below.refl _ _⟩
      · have hR : R = some (code, (l.drop (n + m)).take size, n + m + size) := by rw [← HR.out]; simp only [H2.out]; rw [if_neg hz]
        subst hR
        clear HR
        go_wp2_with fail
        go_quiet (fail)
        go_wp2_with fail
        refine bodyPost_ret (results_tmp4 rfl _ _ _) rfl ?_
        exact ⟨ret_tup4 (str_mid l rfl) rfl, below_drewN (Below.refl _ _) _⟩
    | _ =>
      have hR : R = none := by rw [← HR.out]; simp only [H2.out]
      subst hR
      clear HR
      simp only [rvOf]
      go_wp2_with fail
      refine bodyPost_ret (results_tmp4 rfl _ _ _) rfl ?_
      exact ⟨rfl, Below.refl _ _⟩
  | _ =>
    have hR : R = none := by rw [← HR.out]
    subst hR
    clear HR
    simp only [rvOf]
    go_wp2_with fail
    refine bodyPost_ret (results_tmp4 rfl _ _ _) rfl ?_
    exact ⟨rfl, Below.refl _ _⟩

end Go.Proofs.YtgkhofnedhlgdaaDoor
