/-
  The walk of spec.little: a number in 8 bytes, the lowest first. Conditions: the number is one of uint64.
-/
import Derived.Test.YtakkdpbpoghfgaaGreatDoorProg
import Derived.Test.YtakkdpbpoghfgaaGreatDoorBase
import Derived.LoopTactic
import Derived.Deep.RegionHeld3
import Derived.Deep.QuietTactic
import Derived.BigQuiet
import Derived.Deep.RegionWith
import Derived.Lib.Endian
namespace Go.Proofs.YtakkdpbpoghfgaaGreatDoor
open Go.RowKit

theorem leBytes_snoc : ∀ (k v : Nat), Lib.leBytes (k + 1) v = Lib.leBytes k v ++ [(v / 256 ^ k % 256).toUInt8]
  | 0, v => by simp [Lib.leBytes]
  | k + 1, v => by
    rw [Lib.leBytes, leBytes_snoc k (v / 256), Nat.div_div_eq_div_mul, show 256 * 256 ^ k = 256 ^ (k + 1) from by rw [Nat.pow_succ, Nat.mul_comm]]
    rfl

/-- The row behind k rounds. -/
def leRow (k v : Nat) : List Value := Lib.byteCells (Lib.leBytes k v) ++ List.replicate (8 - k) (.int .u8 0)
theorem leRow_len (k v : Nat) (h : k ≤ 8) : (leRow k v).length = 8 := by
  rw [leRow, List.length_append, Lib.byteCells_length, Lib.leBytes_length, List.length_replicate]; omega
theorem leRow_step (k v : Nat) (h : k < 8) : (leRow k v).toArray.setIfInBounds k (.int .u8 (((v / 256 ^ k % 256).toUInt8.toNat : Nat) : Int)) = (leRow (k + 1) v).toArray := by
  have e1 : (Lib.byteCells (Lib.leBytes k v)).length = k := by rw [Lib.byteCells_length, Lib.leBytes_length]
  have e2 : List.replicate (8 - k) (Value.int .u8 0) = .int .u8 0 :: List.replicate (8 - (k + 1)) (.int .u8 0) := by
    rw [show 8 - k = (8 - (k + 1)) + 1 from by omega]; rfl
  rw [List.setIfInBounds_toArray, leRow, leRow, leBytes_snoc, Lib.byteCells_append, e2, List.set_append_right _ _ (by omega), e1, Nat.sub_self, List.append_assoc]
  rfl

set_option maxRecDepth 100000 in
set_option maxHeartbeats 1000000 in
theorem little_any (n : Int) (w : World) (h0 : 0 ≤ n) (h1 : n < 18446744073709551616) :
    Calls Tryz.prog 8 #[.int .u64 n] w fun e w' => e = .returned (.string ⟨(Lib.leBytes 8 n.toNat).toArray⟩) ∧ Below w.heap.size w w' := by
  go_enter Tryz.func8, Tryz.ntmps8
  go_wp2_with fail
  go_loopw [5] (fun i wr => ∃ (k : Nat), k ≤ 8 ∧ i = .int .i64 k ∧ Blk wr w.heap.size 52 (leRow k n.toNat).toArray ∧ Below w.heap.size w wr) (fun i _ => 8 - (intOf i).toNat)
  case atStart => exact ⟨0, by omega, rfl, Blk.new _ _ _, (Below.refl _ _).alloc (Nat.le_refl _) _⟩
  case round =>
    obtain ⟨k, hk, rfl, B1, b1⟩ := hrel
    have hlen := leRow_len k n.toNat hk
    by_cases hlt : k < 8
    · have hc : ∃ v, wr.cell? ⟨w.heap.size, k, none⟩ = some v := Option.isSome_iff_exists.1 (blk_some B1 (by omega)).1
      obtain ⟨v0, hc⟩ := hc
      have hf := B1.frozen k
      go_wp2_with fail
      refine ⟨⟨k + 1, by omega, by go_num, ?_, b1.setCell (p := ⟨w.heap.size, k, none⟩) (Nat.le_refl _) _⟩, by simp [intOf]; omega⟩
      have hv : n / 2 ^ (8 * k) % 256 = (((n.toNat / 256 ^ k % 256).toUInt8.toNat : Nat) : Int) := by
        rw [Lib.toUInt8_mod, show (256 : Nat) ^ k = 2 ^ (8 * k) from by rw [Nat.pow_mul]]
        conv => lhs; rw [← Int.toNat_of_nonneg h0]
        push_cast
        rfl
      have B2 := B1.set_ k (.int .u8 (n / 2 ^ (8 * k) % 256))
      rw [hv, leRow_step k n.toNat hlt] at B2
      rw [hv]
      exact B2
    · obtain rfl : k = 8 := by omega
      have hr8 : leRow 8 n.toNat = Lib.byteCells (Lib.leBytes 8 n.toNat) := by rw [leRow]; simp
      rw [hr8] at B1
      have hcv2 := conv_str (P := Tryz.prog) Tryz.underlying54 Tryz.underlying5 Tryz.underlying9 (c := 8) (bs_blk B1) (Lib.leBytes_length _ _).symm
      go_wp2_with fail
      go_ret
      exact ⟨rfl, b1⟩

/-- A header's 40 bytes. -/
def hdBytes (a b c d e : Int) : List UInt8 := Lib.leBytes 8 a.toNat ++ Lib.leBytes 8 b.toNat ++ Lib.leBytes 8 c.toNat ++ Lib.leBytes 8 d.toNat ++ Lib.leBytes 8 e.toNat

set_option maxRecDepth 100000 in
set_option maxHeartbeats 4000000 in
theorem headBytes_any (a b c d e : Int) (w : World) (ha0 : 0 ≤ a) (ha1 : a < 18446744073709551616) (hb0 : 0 ≤ b) (hb1 : b < 18446744073709551616) (hc0 : 0 ≤ c) (hc1 : c < 18446744073709551616) (hd0 : 0 ≤ d) (hd1 : d < 18446744073709551616) (he0 : 0 ≤ e) (he1 : e < 18446744073709551616) :
    Calls Tryz.prog 4 #[.agg #[.int .u64 a, .int .u64 b, .int .u64 c, .int .u64 d, .int .u64 e]] w fun r w' => r = .returned (.string ⟨(hdBytes a b c d e).toArray⟩) ∧ Below w.heap.size w w' := by
  have B1 := Blk.new w 24 #[.int .u64 a, .int .u64 b, .int .u64 c, .int .u64 d, .int .u64 e]
  obtain ⟨f, hf⟩ : ∃ f : Int → List UInt8, f = fun n => Lib.leBytes 8 n.toNat := ⟨_, rfl⟩
  have hh : hdBytes a b c d e = f a ++ f b ++ f c ++ f d ++ f e := by rw [hf]; rfl
  rw [hh]
  clear hh
  have hfl : ∀ n, (f n).length = 8 := by intro n; rw [hf]; exact Lib.leBytes_length _ _
  have hl : ∀ n W, 0 ≤ n → n < 18446744073709551616 → Calls Tryz.prog 8 #[.int .u64 n] W fun e w' => e = .returned (.string ⟨(f n).toArray⟩) ∧ Below W.heap.size W w' := by rw [hf]; exact little_any
  have H := Lib.hid (show ∀ n W, (n = a ∨ n = b ∨ n = c ∨ n = d ∨ n = e) → Calls Tryz.prog 8 #[.int .u64 n] W fun e w' => e = .returned (.string ⟨(f n).toArray⟩) ∧ Below W.heap.size W w' from fun n W h => hl n W (by rcases h with rfl | rfl | rfl | rfl | rfl <;> assumption) (by rcases h with rfl | rfl | rfl | rfl | rfl <;> assumption))
  clear ha0 ha1 hb0 hb1 hc0 hc1 hd0 hd1 he0 he1 hl hf
  have bw : Below w.heap.size w (w.alloc (.cells #[.int .u64 a, .int .u64 b, .int .u64 c, .int .u64 d, .int .u64 e] 24)) := (Below.refl _ _).alloc (Nat.le_refl _) _
  have hlt := B1.lt
  obtain ⟨G, hG⟩ : ∃ G, w.heap.size = G := ⟨_, rfl⟩
  go_enter Tryz.func4, Tryz.ntmps4
  go_wp2_with fail
  generalize w.alloc (.cells #[.int .u64 a, .int .u64 b, .int .u64 c, .int .u64 d, .int .u64 e] 24) = W at *
  rw [hG] at B1 hlt
  clear hG
  have q0 : W.cell? ⟨G, 0, none⟩ = some (.int .u64 a) := B1.cell 0
  have q1 : W.cell? ⟨G, 1, none⟩ = some (.int .u64 b) := B1.cell 1
  have q2 : W.cell? ⟨G, 2, none⟩ = some (.int .u64 c) := B1.cell 2
  have q3 : W.cell? ⟨G, 3, none⟩ = some (.int .u64 d) := B1.cell 3
  have q4 : W.cell? ⟨G, 4, none⟩ = some (.int .u64 e) := B1.cell 4
  clear B1
  go_region_held3 (fun w' => Below W.heap.size W w' ∧ ∀ b o, b < W.heap.size → w'.cell? ⟨b, o, none⟩ = W.cell? ⟨b, o, none⟩)
    (first | exact stay_drew W | exact stay_below ‹_› ‹_› | go_keep)
    (first
      | (go_at_call 8; refine (H.out _ _ (by simp)).mono ?_; rintro _ w3 ⟨rfl, b3⟩))
  go_wp2_with fail
  go_ret
  exact ⟨by simp only [str_app]; rfl, Old.trans bw (by first | assumption | exact (‹Below W.heap.size W _ ∧ _›).1)⟩
end Go.Proofs.YtakkdpbpoghfgaaGreatDoor
