/-
  sort.stable_func, whatever order it sorts by: the row is sorted. Conditions: as the contract says.
  Unsigned varints in plain Lean: the length of one, and the reading of one (at most nine bytes, no needless zeros). Conditions: as each lemma says.
  Multihashes in plain Lean: reading one, and that what is read is what is written. Conditions: as each lemma says.
  Content identifiers in plain Lean: their bytes and the reading of them. Conditions: as each lemma says.
-/
import Derived.Test.YtcljffldbnoljaaGreatDoorQe
import Derived.Lib.Varint
import Derived.Lib.BitFns
namespace Go.Proofs.YtcljffldbnoljaaGreatDoor
open Go.RowKit Go.Sort
variable {α : Type} [Inhabited α]

set_option maxRecDepth 100000 in
set_option maxHeartbeats 4000000 in
theorem stable_eq (lp s1 s2 : Value) (blk n : Nat) (R : World → Array α → Prop) (hI : InvR R) (hS : SwapR s1 s2 blk n R) (lt : α → α → Bool) (hO : SWO lt) (hL : LessR lp n lt R) (hn : n ≤ 1000) (w : World) (D : Array α) (h : R w D) (hD : D.size = n) (hblk : blk < w.heap.size) :
    Calls Tryz.prog 79 #[.agg (dataV lp s1 s2), .int .i64 n] w fun e w' => e = .returned (.tuple #[]) ∧ Merged lt 0 n D R w' ∧ Kp [blk] w w' := by
  obtain ⟨d, hd⟩ : ∃ d, w.heap.size = d := ⟨_, rfl⟩
  obtain ⟨V, hV⟩ : ∃ V, w.alloc (.cells (dataV lp s1 s2) 152) = V := ⟨_, rfl⟩
  have bV : Below w.heap.size w V := by rw [← hV]; exact Old.alloc (Below.refl _ _) _
  have BV : Blk V d 152 (dataV lp s1 s2) := by rw [← hV, ← hd]; exact Blk.new _ _ _
  have hdb : d ≠ blk := by omega
  have hdb' : d ∉ [blk] := by simpa using hdb
  have hbV : blk < V.heap.size := Nat.lt_of_lt_of_le hblk bV.size
  have HI := Lib.hid (And.intro (hI w V D h bV) (And.intro bV BV))
  clear h bV BV
  go_enter Tryz.func79, Tryz.ntmps79
  go_wp2_with fail
  clear hV hd
  go_loopw [5, 6] (fun x y wr => ∃ a : Nat, a ≤ n ∧ x = .int .i64 a ∧ y = .int .i64 ((a + 20 : Nat) : Int) ∧ (∃ (t : Nat) (E : Array α), R wr E ∧ Hid (a = t * 20 ∧ PermIn 0 n D E ∧ ∀ u : Nat, u < t → SortedIn lt (u * 20) (u * 20 + 20) E)) ∧ Kp [blk] V wr) (fun x _ _ => n - (intOf x).toNat)
  case atStart => exact ⟨0, Nat.zero_le _, rfl, rfl, ⟨0, D, HI.out.1, Lib.hid ⟨rfl, permIn_refl _ _ _, fun u hu => absurd hu (Nat.not_lt_zero u)⟩⟩, Kp.refl _ _⟩
  case round =>
    obtain ⟨a, han, rfl, rfl, ⟨t, E, hIn, hE⟩, hK⟩ := hrel
    have hEs : E.size = n := hE.out.2.1.1.trans hD
    have hEs2 := Lib.hid hEs
    obtain ⟨b, hb⟩ : ∃ b, a + 20 = b := ⟨_, rfl⟩
    rw [hb]
    have hwb : IntKind.i64.wrap ((b : Int) + 20) = (b : Int) + 20 := by rw [IntKind.wrap_i64]; omega
    have HB := Lib.hid hb
    clear hb
    by_cases hlt : b ≤ n
    · have hdd : decide ((b : Int) ≤ (n : Int)) = true := by rw [decide_eq_true_eq]; omega
      have hab : a ≤ b := by have := HB.out; omega
      have c0 : wr.cell? ⟨d, 0, none⟩ = some (Value.func (.func 62) #[] #[lp]) := (HI.out.2.2.kp hK hdb').cell 0
      have c1 : wr.cell? ⟨d, 1, none⟩ = some (Value.func (.func 88) #[] #[s1, s2]) := (HI.out.2.2.kp hK hdb').cell 1
      have hcall := insertionSort_eq lp s1 s2 blk n R hI hS lt hL a b (by omega) (by omega) hn wr E hIn hEs (Nat.lt_of_lt_of_le hbV hK.size)
      have HCL := Lib.hid hcall
      have HK := Lib.hid hK
      clear hcall hIn hK hEs
      go_wp2_with fail
      refine HCL.out.mono ?_
      rintro e w5 ⟨rfl, hI5, k5⟩
      have HY := Lib.hid (And.intro hI5 (HK.out.trans k5))
      clear hI5 k5 c0 c1
      go_wp2_with fail
      go_roundw
      case rel =>
        have hb20 := HB.out
        have hs := insertionSort_holds (lt := lt) hO E a b (by omega) (by have := hEs2.out; omega)
        refine ⟨b, hlt, rfl, by go_num, ⟨t + 1, _, HY.out.1, Lib.hid ⟨by have := hE.out.1; omega, permIn_trans _ _ _ _ _ hE.out.2.1 (permIn_mono _ _ _ _ _ _ (Nat.zero_le _) hlt (by have := hEs2.out; omega) hs.1), ?_⟩⟩, HY.out.2⟩
        rw [← hb20] at hs ⊢
        exact runs_step hE.out.1 hE.out.2.2 hs.1 hs.2
      case measure => have := HB.out; simp [intOf]; omega
    · have hdd : decide ((b : Int) ≤ (n : Int)) = false := by rw [decide_eq_false_iff_not]; omega
      have c0 : wr.cell? ⟨d, 0, none⟩ = some (Value.func (.func 62) #[] #[lp]) := (HI.out.2.2.kp hK hdb').cell 0
      have c1 : wr.cell? ⟨d, 1, none⟩ = some (Value.func (.func 88) #[] #[s1, s2]) := (HI.out.2.2.kp hK hdb').cell 1
      have hcall := insertionSort_eq lp s1 s2 blk n R hI hS lt hL a n (by omega) (by omega) hn wr E hIn hEs (Nat.lt_of_lt_of_le hbV hK.size)
      have HCL := Lib.hid hcall
      have HK := Lib.hid hK
      clear hcall hIn hK hEs
      go_wp2_with fail
      refine HCL.out.mono ?_
      rintro e w5 ⟨rfl, hI5, k5⟩
      have HY := Lib.hid (And.intro hI5 (HK.out.trans k5))
      clear hI5 k5 c0 c1
      go_wp2_with fail
      clear HCL HK
      go_loopw [4] (fun x wr => ∃ bs : Nat, 20 ≤ bs ∧ bs ≤ 2020 ∧ x = .int .i64 bs ∧ (∃ E, R wr E ∧ Hid (PermIn 0 n D E ∧ Runs lt bs n E)) ∧ Kp [blk] V wr) (fun x _ => n - (intOf x).toNat)
      case atStart =>
        have hb20 := HB.out
        have hs := insertionSort_holds (lt := lt) hO E a n (by omega) (by have := hEs2.out; omega)
        exact ⟨20, by omega, by omega, rfl, ⟨_, HY.out.1, Lib.hid ⟨permIn_trans _ _ _ _ _ hE.out.2.1 (permIn_mono _ _ _ _ _ _ (Nat.zero_le _) (Nat.le_refl _) (by have := hEs2.out; omega) hs.1), runs_end hE.out.1 (by omega) hE.out.2.2 hs.1 hs.2⟩⟩, HY.out.2⟩
      case round =>
        clear HY
        obtain ⟨bs, hbs1, hbs2, rfl, ⟨F, hIn, hF⟩, hK⟩ := hrel
        have hw2 : IntKind.i64.wrap (2 * (bs : Int)) = 2 * (bs : Int) := by rw [IntKind.wrap_i64]; omega
        have hw2' : IntKind.i64.wrap ((bs : Int) * 2) = (bs : Int) * 2 := by rw [IntKind.wrap_i64]; omega
        by_cases hbn : bs < n
        · have hdn : decide ((bs : Int) < (n : Int)) = true := by rw [decide_eq_true_eq]; omega
          have HZ := Lib.hid (And.intro hIn hK)
          clear hIn hK
          go_wp2_with fail
          go_loopw [5, 6] (fun x y wr => ∃ a : Nat, a ≤ n ∧ x = .int .i64 a ∧ y = .int .i64 ((a : Int) + 2 * (bs : Int)) ∧ (∃ (t : Nat) (E : Array α), R wr E ∧ Hid (a = t * (2 * bs) ∧ PermIn 0 n D E ∧ Half lt bs n t E)) ∧ Kp [blk] V wr) (fun x _ _ => n - (intOf x).toNat)
          case atStart => exact ⟨0, Nat.zero_le _, rfl, by congr 1; omega, ⟨0, F, HZ.out.1, Lib.hid ⟨(Nat.zero_mul _).symm, hF.out.1, half_start hF.out.2⟩⟩, HZ.out.2⟩
          case round =>
            clear HZ
            obtain ⟨a2, han2, rfl, rfl, ⟨u, X, hIn, hX⟩, hK⟩ := hrel
            have hXs := Lib.hid (hX.out.2.1.1.trans hD)
            have hru := Lib.hid (half_runs hX.out.1 hX.out.2.2)
            obtain ⟨b2, hb2⟩ : ∃ b2 : Nat, a2 + 2 * bs = b2 := ⟨_, rfl⟩
            rw [show (a2 : Int) + 2 * (bs : Int) = (b2 : Int) by omega]
            obtain ⟨m2, hm2⟩ : ∃ m2 : Nat, a2 + bs = m2 := ⟨_, rfl⟩
            have hwm : IntKind.i64.wrap ((a2 : Int) + (bs : Int)) = (m2 : Int) := by rw [IntKind.wrap_i64]; omega
            have hwb2 : IntKind.i64.wrap ((b2 : Int) + 2 * (bs : Int)) = (b2 : Int) + 2 * (bs : Int) := by rw [IntKind.wrap_i64]; omega
            have hord : a2 < m2 ∧ m2 < b2 := by omega
            have HB2 := Lib.hid (And.intro hb2 hm2)
            clear hb2 hm2
            by_cases hlt2 : b2 ≤ n
            · have hdd2 : decide ((b2 : Int) ≤ (n : Int)) = true := by rw [decide_eq_true_eq]; omega
              have c0 : wr.cell? ⟨d, 0, none⟩ = some (Value.func (.func 62) #[] #[lp]) := (HI.out.2.2.kp hK hdb').cell 0
              have c1 : wr.cell? ⟨d, 1, none⟩ = some (Value.func (.func 88) #[] #[s1, s2]) := (HI.out.2.2.kp hK hdb').cell 1
              have hcall := symMerge_eq lp s1 s2 blk n R hI hS lt hO hL hn (n + 1) a2 m2 b2 (by omega) (by omega) (by omega) (by omega) wr X hIn hXs.out (by have e := hru.out.1; rw [Nat.min_eq_left (by have := HB2.out; omega), HB2.out.2] at e; exact e) (by have e := hru.out.2; rw [Nat.min_eq_left (by have := HB2.out; omega), HB2.out.2, show m2 + bs = b2 by have := HB2.out; omega] at e; exact e) (Nat.lt_of_lt_of_le hbV hK.size)
              have HCL := Lib.hid hcall
              have HK := Lib.hid hK
              clear hcall hIn hK
              go_wp2_with fail
              refine HCL.out.mono ?_
              rintro e w5 ⟨rfl, ⟨Y, hI5, hP5, hS5⟩, k5⟩
              have HPS := Lib.hid (And.intro hP5 hS5)
              clear hP5 hS5
              have HY := Lib.hid (And.intro hI5 (HK.out.trans k5))
              clear hI5 k5 c0 c1
              go_wp2_with fail
              go_roundw
              case rel =>
                have hb2 := HB2.out.1
                refine ⟨b2, hlt2, rfl, rfl, ⟨u + 1, Y, HY.out.1, Lib.hid ⟨?_, permIn_trans _ _ _ _ _ hX.out.2.1 (permIn_mono _ _ _ _ _ _ (Nat.zero_le _) hlt2 (by have := hXs.out; omega) HPS.out.1), ?_⟩⟩, HY.out.2⟩
                · rw [Nat.succ_mul, ← hX.out.1]; omega
                · have hq := HPS.out
                  rw [← hb2] at hq
                  exact half_step hX.out.1 hX.out.2.2 hq.1 hq.2
              case measure => simp [intOf]; omega
            · have hdd2 : decide ((b2 : Int) ≤ (n : Int)) = false := by rw [decide_eq_false_iff_not]; omega
              by_cases hmn : m2 < n
              · have hdm : decide ((m2 : Int) < (n : Int)) = true := by rw [decide_eq_true_eq]; omega
                have c0 : wr.cell? ⟨d, 0, none⟩ = some (Value.func (.func 62) #[] #[lp]) := (HI.out.2.2.kp hK hdb').cell 0
                have c1 : wr.cell? ⟨d, 1, none⟩ = some (Value.func (.func 88) #[] #[s1, s2]) := (HI.out.2.2.kp hK hdb').cell 1
                have hcall := symMerge_eq lp s1 s2 blk n R hI hS lt hO hL hn (n + 1) a2 m2 n (by omega) (by omega) (by omega) (by omega) wr X hIn hXs.out (by have e := hru.out.1; rw [Nat.min_eq_left (by have := HB2.out; omega), HB2.out.2] at e; exact e) (by have e := hru.out.2; rw [Nat.min_eq_right (by have := HB2.out; omega), HB2.out.2] at e; exact e) (Nat.lt_of_lt_of_le hbV hK.size)
                have HCL := Lib.hid hcall
                have HK := Lib.hid hK
                clear hcall hIn hK
                go_wp2_with fail
                refine HCL.out.mono ?_
                rintro e w5 ⟨rfl, ⟨Y, hI5, hP5, hS5⟩, k5⟩
                have HPS := Lib.hid (And.intro hP5 hS5)
                clear hP5 hS5
                have HY := Lib.hid (And.intro hI5 (HK.out.trans k5))
                clear hI5 k5 c0 c1
                go_wp2_with fail
                go_roundw
                case rel =>
                  refine ⟨2 * bs, by omega, by omega, by congr 1; omega, ⟨Y, HY.out.1, Lib.hid ⟨permIn_trans _ _ _ _ _ hX.out.2.1 (permIn_mono _ _ _ _ _ _ (Nat.zero_le _) (Nat.le_refl _) (by have := hXs.out; omega) HPS.out.1), ?_⟩⟩, HY.out.2⟩
                  exact half_end2 hX.out.1 (by have := HB2.out; omega) hX.out.2.2 HPS.out.1 HPS.out.2
                case measure => simp [intOf]; omega
              · have hdm : decide ((m2 : Int) < (n : Int)) = false := by rw [decide_eq_false_iff_not]; omega
                have HY := Lib.hid (And.intro hIn hK)
                clear hIn hK
                go_wp2_with fail
                go_roundw
                case rel =>
                  refine ⟨2 * bs, by omega, by omega, by congr 1; omega, ⟨X, HY.out.1, Lib.hid ⟨hX.out.2.1, ?_⟩⟩, HY.out.2⟩
                  refine half_end hX.out.1 (by have := HB2.out; omega) hX.out.2.2 ?_
                  have e := hru.out.1
                  rw [Nat.min_eq_right (by have := HB2.out; omega)] at e
                  exact e
                case measure => simp [intOf]; omega
        · have hdn : decide ((bs : Int) < (n : Int)) = false := by rw [decide_eq_false_iff_not]; omega
          have HZ := Lib.hid (And.intro hIn hK)
          clear hIn hK
          go_wp2_with fail
          go_end0
          exact ⟨rfl, ⟨F, HZ.out.1, hF.out.1, runs_all hF.out.2 (by omega)⟩, (Kp.of_below HI.out.2.1 [blk]).trans HZ.out.2⟩
end Go.Proofs.YtcljffldbnoljaaGreatDoor

namespace Go.Proofs.YtcljffldbnoljaaGreatDoor
open Go

/-- How many bytes a varint has, out of the number of its bits. -/
theorem uv_len (x : Nat) (hx : x < 18446744073709551616) :
    (Lib.uvarint x).length = (if 0 < Lib.bitLen x % 7 ∨ Lib.bitLen x / 7 = 0 then Lib.bitLen x / 7 + 1 else Lib.bitLen x / 7) := by
  induction x using Nat.strongRecOn with
  | ind x ih =>
    by_cases h : x < 128
    · rw [Lib.uvarint_small h]
      have hb := Lib.bitLen_le x 7 (by omega) (by simpa using h)
      simp only [List.length_singleton]
      split <;> omega
    · rw [Lib.uvarint_big (by omega), List.length_cons, ih (x / 128) (by omega) (by omega)]
      have hs := Lib.bitLen_shift 7 x (by simp; omega) (by simpa using hx)
      rw [show (2 : Nat) ^ 7 = 128 from rfl] at hs
      have hp : 1 ≤ Lib.bitLen (x / 128) := by
        rw [Lib.bitLen_half (x / 128) (by omega) (by omega)]
        omega
      rw [hs]
      split <;> split <;> omega

theorem uv_le9 {x : Nat} (h : x < 9223372036854775808) : (Lib.uvarint x).length ≤ 9 :=
  Lib.uvarint_length 8 x (Nat.lt_of_lt_of_le h (by decide))

/-- What reading a varint comes to. -/
inductive UvR where
  | ends | long | needless
  | ok (n size : Nat)
  deriving DecidableEq

/-- Read on: k bytes have been read, their number is x. -/
def uvRd : List UInt8 → Nat → Nat → UvR
  | [], _, _ => .ends
  | b :: l, k, x =>
    if (k = 8 ∧ 128 ≤ b.toNat) ∨ 9 ≤ k then .long
    else if b.toNat < 128 then (if b.toNat = 0 ∧ 0 < k then .needless else .ok (x + b.toNat * 128 ^ k) (k + 1))
    else uvRd l (k + 1) (x + b.toNat % 128 * 128 ^ k)

theorem uvRd_uvarint_at (r : List UInt8) : ∀ (y k x : Nat), k ≤ 8 → y * 128 ^ k < 9223372036854775808 → (k = 0 ∨ y ≠ 0) →
    uvRd (Lib.uvarint y ++ r) k x = .ok (x + y * 128 ^ k) (k + (Lib.uvarint y).length) := by
  intro y
  induction y using Nat.strongRecOn with
  | ind y ih =>
    intro k x hk hy h0
    by_cases h : y < 128
    · rw [Lib.uvarint_small h]
      have e : (y.toUInt8).toNat = y := by simp; omega
      simp only [List.singleton_append, uvRd, e, List.length_singleton]
      rw [if_neg (by omega), if_pos h, if_neg (by omega)]
    · rw [Lib.uvarint_big (by omega), List.length_cons]
      have e : ((y % 128 + 128).toUInt8).toNat = y % 128 + 128 := by simp; omega
      have hk8 : k < 8 := by
        rcases Nat.lt_or_ge k 8 with h8 | h8
        · exact h8
        · exfalso
          have h1 : 128 ^ 8 ≤ 128 ^ k := Nat.pow_le_pow_right (by omega) h8
          have h2 : 128 * 128 ^ 8 ≤ y * 128 ^ k := Nat.mul_le_mul (by omega) h1
          have h3 : 128 * 128 ^ 8 = (9223372036854775808 : Nat) := by decide
          omega
      have hdm : y / 128 * 128 + y % 128 = y := by omega
      have hp : y / 128 * 128 ^ (k + 1) + y % 128 * 128 ^ k = y * 128 ^ k := by
        rw [Nat.pow_succ, Nat.mul_comm (128 ^ k) 128, ← Nat.mul_assoc, ← Nat.add_mul, hdm]
      simp only [List.cons_append, uvRd, e]
      rw [if_neg (by omega), if_neg (by omega)]
      have e2 : (y % 128 + 128) % 128 = y % 128 := by omega
      rw [e2, ih (y / 128) (by omega) (k + 1) _ (by omega) (by omega) (by omega)]
      congr 1 <;> omega

/-- A varint that is written is read, whatever stands behind it. -/
theorem uvRd_uvarint (y : Nat) (r : List UInt8) (hy : y < 9223372036854775808) : uvRd (Lib.uvarint y ++ r) 0 0 = .ok y (Lib.uvarint y).length := by
  have := uvRd_uvarint_at r y 0 0 (by omega) (by simpa using hy) (.inl rfl)
  simpa using this

/-- What is read: no more bytes than there are, at most nine; a number below 2^63. -/
theorem uvRd_ok : ∀ (l : List UInt8) (k x n s : Nat), uvRd l k x = .ok n s → x < 128 ^ k → k < s ∧ s ≤ k + l.length ∧ s ≤ 9 ∧ n < 128 ^ s
  | [], k, x, n, s, h, _ => by simp [uvRd] at h
  | b :: l, k, x, n, s, h, hx => by
    simp only [uvRd] at h
    have hb := b.toNat_lt
    have hpos : 0 < 128 ^ k := Nat.pow_pos (by omega)
    split at h
    · cases h
    · rename_i h1
      split at h
      · rename_i h2
        split at h
        · cases h
        · injection h with e1 e2
          subst e1 e2
          refine ⟨by omega, by simp only [List.length_cons]; omega, by omega, ?_⟩
          rw [Nat.pow_succ]
          have : b.toNat * 128 ^ k ≤ 127 * 128 ^ k := Nat.mul_le_mul_right _ (by omega)
          omega
      · have hx2 : x + b.toNat % 128 * 128 ^ k < 128 ^ (k + 1) := by
          rw [Nat.pow_succ]
          have : b.toNat % 128 * 128 ^ k ≤ 127 * 128 ^ k := Nat.mul_le_mul_right _ (by omega)
          omega
        have := uvRd_ok l (k + 1) _ n s h hx2
        simp only [List.length_cons]
        omega

theorem uvRd_ok0 {l : List UInt8} {n s : Nat} (h : uvRd l 0 0 = .ok n s) : 0 < s ∧ s ≤ l.length ∧ s ≤ 9 ∧ n < 9223372036854775808 := by
  obtain ⟨h1, h2, h3, h4⟩ := uvRd_ok l 0 0 n s h (by simp)
  refine ⟨h1, by simpa using h2, h3, Nat.lt_of_lt_of_le h4 ?_⟩
  have : 128 ^ s ≤ 128 ^ 9 := Nat.pow_le_pow_right (by omega) h3
  have e : (128 : Nat) ^ 9 = 9223372036854775808 := by decide
  omega

/-- The bytes of which a varint is read are those with which it is written. -/
theorem uvRd_canon : ∀ (l : List UInt8) (k x n s : Nat), uvRd l k x = .ok n s → x < 128 ^ k →
    ∃ y, n = x + y * 128 ^ k ∧ (0 < k → y ≠ 0) ∧ l.take (s - k) = Lib.uvarint y ∧ s = k + (Lib.uvarint y).length
  | [], k, x, n, s, h, _ => by simp [uvRd] at h
  | b :: l, k, x, n, s, h, hx => by
    have hok := uvRd_ok (b :: l) k x n s h hx
    simp only [uvRd] at h
    have hb := b.toNat_lt
    have hpos : 0 < 128 ^ k := Nat.pow_pos (by omega)
    split at h
    · cases h
    · rename_i h1
      split at h
      · rename_i h2
        split at h
        · cases h
        · rename_i h3
          injection h with e1 e2
          subst e1 e2
          refine ⟨b.toNat, rfl, by omega, ?_, ?_⟩
          · rw [Lib.uvarint_small h2, show k + 1 - k = 1 from by omega]
            simp
          · rw [Lib.uvarint_small h2]; rfl
      · rename_i h2
        have hx2 : x + b.toNat % 128 * 128 ^ k < 128 ^ (k + 1) := by
          rw [Nat.pow_succ]
          have : b.toNat % 128 * 128 ^ k ≤ 127 * 128 ^ k := Nat.mul_le_mul_right _ (by omega)
          omega
        obtain ⟨y, e1, e2, e3, e4⟩ := uvRd_canon l (k + 1) _ n s h hx2
        have hy : y ≠ 0 := e2 (by omega)
        have hbig : Lib.uvarint (b.toNat % 128 + y * 128) = b :: Lib.uvarint y := by
          rw [Lib.uvarint_big (by omega)]
          have a1 : (b.toNat % 128 + y * 128) / 128 = y := by omega
          have a2 : ((b.toNat % 128 + y * 128) % 128 + 128).toUInt8 = b := by
            have : (b.toNat % 128 + y * 128) % 128 + 128 = b.toNat := by omega
            rw [this]; simp
          rw [a1, a2]
        refine ⟨b.toNat % 128 + y * 128, ?_, by omega, ?_, ?_⟩
        · rw [e1, Nat.pow_succ, Nat.add_mul, Nat.mul_assoc y 128, Nat.mul_comm 128 (128 ^ k)]; omega
        · rw [hbig, show s - k = (s - (k + 1)) + 1 from by omega, List.take_succ_cons, e3]
        · rw [hbig, List.length_cons]; omega

theorem uvRd_canon0 {l : List UInt8} {n s : Nat} (h : uvRd l 0 0 = .ok n s) : l.take s = Lib.uvarint n ∧ s = (Lib.uvarint n).length := by
  obtain ⟨y, e1, _, e3, e4⟩ := uvRd_canon l 0 0 n s h (by simp)
  have : n = y := by simpa using e1
  subst this
  exact ⟨by simpa using e3, by simpa using e4⟩
end Go.Proofs.YtcljffldbnoljaaGreatDoor

namespace Go.Proofs.YtcljffldbnoljaaGreatDoor
open Go

/-- The multihash with which a text begins: its code, its digest, how many bytes it has. -/
def mhRd (l : List UInt8) : Option (Nat × List UInt8 × Nat) :=
  match uvRd l 0 0 with
  | .ok code n => match uvRd (l.drop n) 0 0 with
    | .ok size m => if l.length - n - m < size then none else some (code, (l.drop (n + m)).take size, n + m + size)
    | _ => none
  | _ => none

/-- A multihash's bytes. -/
def mhWr (code : Nat) (d : List UInt8) : List UInt8 := Lib.uvarint code ++ Lib.uvarint d.length ++ d

theorem mhRd_some {l : List UInt8} {code n : Nat} {d : List UInt8} (h : mhRd l = some (code, d, n)) :
    ∃ a m, uvRd l 0 0 = .ok code a ∧ uvRd (l.drop a) 0 0 = .ok d.length m ∧ d = (l.drop (a + m)).take d.length ∧ n = a + m + d.length ∧ n ≤ l.length ∧ 2 ≤ n ∧ code < 9223372036854775808 ∧ 0 < a ∧ 0 < m := by
  unfold mhRd at h
  split at h
  · rename_i code' a h1
    split at h
    · rename_i size m h2
      split at h
      · cases h
      · rename_i h3
        injection h with h
        injection h with e1 h
        injection h with e2 e3
        subst e1
        have k1 := uvRd_ok0 h1
        have k2 := uvRd_ok0 h2
        rw [List.length_drop] at k2
        have hlen : d.length = size := by rw [← e2, List.length_take, List.length_drop]; omega
        refine ⟨a, m, h1, by rw [hlen]; exact h2, by rw [hlen]; exact e2.symm, by omega, by omega, by omega, by omega, by omega, by omega⟩
    · cases h
  · cases h

theorem mhRd_len {l : List UInt8} (h : l.length < 2) : mhRd l = none := by
  cases hm : mhRd l with
  | none => rfl
  | some x =>
    obtain ⟨code, d, n⟩ := x
    have := mhRd_some hm
    obtain ⟨_, _, _, _, _, _, h1, h2, _⟩ := this
    omega

theorem mhRd_mhWr (code : Nat) (d r : List UInt8) (hc : code < 9223372036854775808) (hd : d.length < 9223372036854775808) : mhRd (mhWr code d ++ r) = some (code, d, (mhWr code d).length) := by
  have e : mhWr code d ++ r = Lib.uvarint code ++ (Lib.uvarint d.length ++ (d ++ r)) := by simp [mhWr]
  unfold mhRd
  rw [e, uvRd_uvarint code _ hc]
  simp only [List.drop_left, uvRd_uvarint d.length _ hd]
  rw [if_neg (by simp)]
  have e2 : (Lib.uvarint code ++ (Lib.uvarint d.length ++ (d ++ r))).drop ((Lib.uvarint code).length + (Lib.uvarint d.length).length) = d ++ r := by
    rw [← List.append_assoc, ← List.length_append, List.drop_left]
  rw [e2, List.take_left]
  simp [mhWr, Nat.add_assoc]

/-- The bytes of which a multihash is read are those with which it is written. -/
theorem mhRd_canon {l : List UInt8} {code n : Nat} {d : List UInt8} (h : mhRd l = some (code, d, n)) : l.take n = mhWr code d ∧ n = (mhWr code d).length := by
  obtain ⟨a, m, h1, h2, h3, rfl, h5, _⟩ := mhRd_some h
  obtain ⟨c1, c2⟩ := uvRd_canon0 h1
  obtain ⟨c3, c4⟩ := uvRd_canon0 h2
  constructor
  · rw [Nat.add_assoc, List.take_add, c1, List.take_add, c3, List.drop_drop]
    rw [mhWr, List.append_assoc]
    congr 2
    exact h3.symm
  · simp only [mhWr, List.length_append]; omega

theorem mhRd_take {l : List UInt8} {code n : Nat} {d : List UInt8} (h : mhRd l = some (code, d, n)) : mhRd (l.take n) = some (code, d, n) := by
  obtain ⟨c1, c2⟩ := mhRd_canon h
  obtain ⟨_, _, _, h2, h3, _, _, _, hc, _⟩ := mhRd_some h
  have := mhRd_mhWr code d [] hc (uvRd_ok0 h2).2.2.2
  rw [List.append_nil] at this
  rw [c1, this, ← c2]
end Go.Proofs.YtcljffldbnoljaaGreatDoor

namespace Go.Proofs.YtcljffldbnoljaaGreatDoor
open Go

/-- An identifier. -/
structure CidL where
  version : Nat
  codec : Nat
  code : Nat
  digest : List UInt8

/-- Of version 0, or of version 1 with numbers below 2^63. -/
def CidL.tidy (c : CidL) : Prop :=
  (c.version = 0 ∧ c.codec = 112 ∧ c.code = 18 ∧ c.digest.length = 32) ∨ (c.version = 1 ∧ c.codec < 9223372036854775808 ∧ c.code < 9223372036854775808)

/-- Its bytes. -/
def CidL.wr (c : CidL) : List UInt8 := if c.version = 0 then mhWr c.code c.digest else Lib.uvarint 1 ++ Lib.uvarint c.codec ++ mhWr c.code c.digest

/-- Bytes that begin as one of version 0 does. -/
def isV0 (l : List UInt8) : Bool := decide (2 < l.length) && (l[0]? == some 18) && (l[1]? == some 32)

/-- The identifier with which bytes begin, and its length. -/
def cdRd (l : List UInt8) : Option (CidL × Nat) :=
  if isV0 l then (if l.length < 34 then none else some (⟨0, 112, 18, (l.drop 2).take 32⟩, 34))
  else match uvRd l 0 0 with
    | .ok v n => if v = 1 then (match uvRd (l.drop n) 0 0 with
        | .ok codec m => match mhRd (l.drop (n + m)) with
          | some (code, d, k) => some (⟨1, codec, code, d⟩, n + m + k)
          | none => none
        | _ => none) else none
    | _ => none

theorem uv18 : Lib.uvarint 18 = [18] := by rw [Lib.uvarint_small (by omega)]; rfl
theorem uv32 : Lib.uvarint 32 = [32] := by rw [Lib.uvarint_small (by omega)]; rfl
theorem uv1 : Lib.uvarint 1 = [1] := by rw [Lib.uvarint_small (by omega)]; rfl

theorem wr_v0 {c : CidL} (h : c.tidy) (h0 : c.version = 0) : c.wr = 18 :: 32 :: c.digest ∧ c.digest.length = 32 ∧ c.codec = 112 ∧ c.code = 18 := by
  rcases h with ⟨_, h1, h2, h3⟩ | ⟨h1, _⟩
  · refine ⟨?_, h3, h1, h2⟩
    rw [CidL.wr, if_pos h0, mhWr, h2, h3, uv18, uv32]; rfl
  · omega
theorem wr_v1 {c : CidL} (h : c.tidy) (h0 : c.version ≠ 0) : c.wr = 1 :: (Lib.uvarint c.codec ++ mhWr c.code c.digest) ∧ c.version = 1 ∧ c.codec < 9223372036854775808 ∧ c.code < 9223372036854775808 := by
  rcases h with ⟨h1, _⟩ | ⟨h1, h2, h3⟩
  · omega
  · refine ⟨?_, h1, h2, h3⟩
    rw [CidL.wr, if_neg h0, uv1]; rfl

theorem cdRd_wr (c : CidL) (r : List UInt8) (h : c.tidy) (hd : c.digest.length < 9223372036854775808) : cdRd (c.wr ++ r) = some (c, c.wr.length) := by
  by_cases h0 : c.version = 0
  · obtain ⟨e, h3, h1, h2⟩ := wr_v0 h h0
    have hv : isV0 (c.wr ++ r) = true := by rw [e]; simp [isV0]; omega
    rw [cdRd, if_pos hv, e, if_neg (by simp; omega)]
    obtain ⟨v, codec, code, d⟩ := c
    simp only at h0 h1 h2 h3
    subst h0 h1 h2
    simp [h3]
  · obtain ⟨e, h1, h2, h3⟩ := wr_v1 h h0
    have hv : isV0 (c.wr ++ r) = false := by rw [e]; simp [isV0]
    have e1 : c.wr ++ r = Lib.uvarint 1 ++ (Lib.uvarint c.codec ++ (mhWr c.code c.digest ++ r)) := by rw [e, uv1]; simp
    have r1 := uvRd_uvarint 1 (Lib.uvarint c.codec ++ (mhWr c.code c.digest ++ r)) (by omega)
    have r2 := uvRd_uvarint c.codec (mhWr c.code c.digest ++ r) h2
    have r3 := mhRd_mhWr c.code c.digest r h3 hd
    have d1 : (c.wr ++ r).drop (Lib.uvarint 1).length = Lib.uvarint c.codec ++ (mhWr c.code c.digest ++ r) := by rw [e1, List.drop_left]
    have d2 : (c.wr ++ r).drop ((Lib.uvarint 1).length + (Lib.uvarint c.codec).length) = mhWr c.code c.digest ++ r := by
      rw [← List.drop_drop, d1, List.drop_left]
    have hl : c.wr.length = (Lib.uvarint 1).length + (Lib.uvarint c.codec).length + (mhWr c.code c.digest).length := by
      rw [e, uv1, List.length_cons, List.length_append, List.length_singleton]; omega
    rw [cdRd, hv, if_neg (by simp)]
    rw [← e1] at r1
    rw [r1]
    simp only [if_true, d1, r2, d2, r3]
    rw [hl]
    obtain ⟨v, codec, code, d⟩ := c
    simp only at h1
    subst h1
    rfl

theorem cdRd_some {l : List UInt8} {c : CidL} {n : Nat} (h : cdRd l = some (c, n)) : c.tidy ∧ n ≤ l.length ∧ 0 < n ∧ c.digest.length ≤ l.length ∧ l.take n = c.wr ∧ n = c.wr.length := by
  unfold cdRd at h
  split at h
  · rename_i hv
    split at h
    · cases h
    · injection h with h
      injection h with h1 h2
      subst h1 h2
      have hl : 34 ≤ l.length := by omega
      simp [isV0] at hv
      obtain ⟨⟨_, ha⟩, hb⟩ := hv
      have hd : ((l.drop 2).take 32).length = 32 := by simp; omega
      have ht : (⟨0, 112, 18, (l.drop 2).take 32⟩ : CidL).tidy := .inl ⟨rfl, rfl, rfl, hd⟩
      have hw := (wr_v0 ht rfl).1
      refine ⟨ht, hl, by omega, by simp; omega, ?_, by rw [hw]; simp; omega⟩
      rw [hw]
      match l, ha, hb with
      | x :: y :: l', ha, hb => simp at ha hb; subst ha hb; simp
  · split at h
    · rename_i v n1 h1
      split at h
      · rename_i hv1
        split at h
        · rename_i codec m h2
          split at h
          · rename_i code d k h3
            injection h with h
            injection h with h4 h5
            subst h4 h5 hv1
            obtain ⟨a1, a2, a3, a4⟩ := uvRd_ok0 h1
            obtain ⟨b1, b2, b3, b4⟩ := uvRd_ok0 h2
            obtain ⟨_, _, _, _, _, c1, c2, c3, c4, _⟩ := mhRd_some h3
            obtain ⟨e3, e4⟩ := mhRd_canon h3
            obtain ⟨f1, f2⟩ := uvRd_canon0 h1
            obtain ⟨g1, g2⟩ := uvRd_canon0 h2
            rw [List.length_drop] at b2 c2
            have ht : (⟨1, codec, code, d⟩ : CidL).tidy := .inr ⟨rfl, b4, c4⟩
            have hw : (⟨1, codec, code, d⟩ : CidL).wr = Lib.uvarint 1 ++ Lib.uvarint codec ++ mhWr code d := rfl
            refine ⟨ht, by omega, by omega, by simp only; omega, ?_, ?_⟩
            · rw [hw, Nat.add_assoc, List.take_add, f1, List.take_add, g1, List.drop_drop, e3, List.append_assoc]
            · rw [hw, List.length_append, List.length_append, ← f2, ← g2, ← e4]
          · cases h
        · cases h
      · cases h
    · cases h
theorem cdRd_take {l : List UInt8} {c : CidL} {n : Nat} (h : cdRd l = some (c, n)) (hl : l.length < 9223372036854775808) : cdRd (l.take n) = some (c, n) := by
  obtain ⟨ht, h1, h2, h3, h4, h5⟩ := cdRd_some h
  have := cdRd_wr c [] ht (by omega)
  rw [List.append_nil] at this
  rw [h4, this, ← h5]

/-- What the numbers of one of version 1 are read as, one behind the other. -/
theorem wr_reads {c : CidL} (h : c.tidy) (h0 : c.version ≠ 0) (hd : c.digest.length < 9223372036854775808) :
    ∃ n2 n3 n4, uvRd c.wr 0 0 = .ok 1 1 ∧ uvRd (c.wr.drop 1) 0 0 = .ok c.codec n2 ∧ uvRd (c.wr.drop (1 + n2)) 0 0 = .ok c.code n3 ∧ uvRd (c.wr.drop (1 + n2 + n3)) 0 0 = .ok c.digest.length n4 ∧
      1 + n2 + n3 + n4 + c.digest.length = c.wr.length ∧ c.wr.drop (1 + n2) = mhWr c.code c.digest ∧ 1 ≤ n2 ∧ 1 ≤ n3 ∧ 1 ≤ n4 := by
  obtain ⟨e, h1, h2, h3⟩ := wr_v1 h h0
  have e1 : c.wr = Lib.uvarint 1 ++ (Lib.uvarint c.codec ++ (Lib.uvarint c.code ++ (Lib.uvarint c.digest.length ++ c.digest))) := by rw [e, uv1, mhWr]; simp
  have l1 : (Lib.uvarint 1).length = 1 := by rw [uv1]; rfl
  have d1 : c.wr.drop 1 = Lib.uvarint c.codec ++ (Lib.uvarint c.code ++ (Lib.uvarint c.digest.length ++ c.digest)) := by rw [e1, uv1]; rfl
  have d2 : c.wr.drop (1 + (Lib.uvarint c.codec).length) = Lib.uvarint c.code ++ (Lib.uvarint c.digest.length ++ c.digest) := by rw [← List.drop_drop, d1, List.drop_left]
  have d3 : c.wr.drop (1 + (Lib.uvarint c.codec).length + (Lib.uvarint c.code).length) = Lib.uvarint c.digest.length ++ c.digest := by rw [← List.drop_drop, d2, List.drop_left]
  refine ⟨(Lib.uvarint c.codec).length, (Lib.uvarint c.code).length, (Lib.uvarint c.digest.length).length, ?_, ?_, ?_, ?_, ?_, ?_, Lib.uvarint_pos _, Lib.uvarint_pos _, Lib.uvarint_pos _⟩
  · have := uvRd_uvarint 1 (Lib.uvarint c.codec ++ (Lib.uvarint c.code ++ (Lib.uvarint c.digest.length ++ c.digest))) (by omega)
    rw [l1] at this
    rw [e1]; exact this
  · rw [d1]; exact uvRd_uvarint _ _ h2
  · rw [d2]; exact uvRd_uvarint _ _ h3
  · rw [d3]; exact uvRd_uvarint _ _ hd
  · rw [e1]; simp only [List.length_append, l1]; omega
  · rw [d2, mhWr, List.append_assoc]
end Go.Proofs.YtcljffldbnoljaaGreatDoor
