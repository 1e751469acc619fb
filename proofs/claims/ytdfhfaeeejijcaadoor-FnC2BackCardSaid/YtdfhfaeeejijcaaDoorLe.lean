/-
  The walk of spec.little: a number in 8 bytes, the lowest first. Conditions: the number is one of uint64.
-/
import Derived.Test.YtdfhfaeeejijcaaDoorProg
import Derived.Test.YtdfhfaeeejijcaaDoorBase
import Derived.LoopTactic
import Derived.Deep.RegionHeld3
import Derived.Deep.QuietTactic
import Derived.BigQuiet
import Derived.Deep.RegionWith
import Derived.Lib.Endian
namespace Go.Proofs.YtdfhfaeeejijcaaDoor
open Go.RowKit

theorem leBytes_snoc : ∀ (k v : Nat), Lib.leBytes (k + 1) v = Lib.leBytes k v ++ [(v / 256 ^ k % 256).toUInt8]
  | 0, v => by simp [Lib.leBytes]
  | k + 1, v => by
    rw [Lib.leBytes, leBytes_snoc k (v / 256), Nat.div_div_eq_div_mul, show 256 * 256 ^ k = 256 ^ (k + 1) from by rw [Nat.pow_succ, Nat.mul_comm]]
    rfl

/-- The row behind k rounds. -/
def leRow (k v : Nat) : List Value := Lib.byteCells (Lib.leBytes k v) ++ List.replicate (8 - k) (.int .u8 0)
theorem leRow_len (k v : Nat) (h : k ≤ 8) : (leRow k v).length = 8 := by
  rw [leRow, List.length_append, Lib.byteCells_length, Lib.leBytes_length, List.length_replicate]; omega
theorem leRow_step (k v : Nat) (h : k < 8) : (leRow k v).toArray.setIfInBounds k (.int .u8 (((v / 256 ^ k % 256).toUInt8.toNat : Nat) : Int)) = (leRow (k + 1) v).toArray := by
  have e1 : (Lib.byteCells (Lib.leBytes k v)).length = k := by rw [Lib.byteCells_length, Lib.leBytes_length]
  have e2 : List.replicate (8 - k) (Value.int .u8 0) = .int .u8 0 :: List.replicate (8 - (k + 1)) (.int .u8 0) := by
    rw [show 8 - k = (8 - (k + 1)) + 1 from by omega]; rfl
  rw [List.setIfInBounds_toArray, leRow, leRow, leBytes_snoc, Lib.byteCells_append, e2, List.set_append_right _ _ (by omega), e1, Nat.sub_self, List.append_assoc]
  rfl

/-- A header's 40 bytes. -/
def hdBytes (a b c d e : Int) : List UInt8 := Lib.leBytes 8 a.toNat ++ Lib.leBytes 8 b.toNat ++ Lib.leBytes 8 c.toNat ++ Lib.leBytes 8 d.toNat ++ Lib.leBytes 8 e.toNat

end Go.Proofs.YtdfhfaeeejijcaaDoor
