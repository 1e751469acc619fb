/-
  The walks of impl.MhEncode, spec.ReadVarint, spec.ReadMultihash, laws.mhOne, FnMhDecode and FnMhCanon. Conditions: the packages' errors are not nil (they are as start-up lays them).
-/
import Derived.Test.YtdfhfaeeejijcaaDoorMhI
namespace Go.Proofs.YtdfhfaeeejijcaaDoor
open Go.RowKit

/-- What spec.ReadVarint comes to. -/
def rvOf (r : UvR) : Value :=
  match r with
  | .ok n s => .tuple #[.int .u64 n, .int .i64 s, .int .i64 0]
  | .ends => .tuple #[.int .u64 0, .int .i64 0, .int .i64 1]
  | .long => .tuple #[.int .u64 0, .int .i64 0, .int .i64 2]
  | .needless => .tuple #[.int .u64 0, .int .i64 0, .int .i64 3]

theorem str_mid (l : List UInt8) {a b n : Nat} (h : b = a + n) : (⟨l.toArray⟩ : ByteArray).extract a b = ⟨((l.drop a).take n).toArray⟩ := by
  subst h
  rw [ByteArray.extract_mk]
  simp [List.take_drop]
theorem ret_tup4 {s t : ByteArray} {a b : Int} {c : Int} {k : Bool} (h : s = t) (hb : a = b) : Ending.returned (.tuple #[.int .u64 c, .string s, .int .i64 a, .bool k]) = .returned (.tuple #[.int .u64 c, .string t, .int .i64 b, .bool k]) := by rw [h, hb]
/-- What spec.ReadMultihash comes to. -/
def smOf (r : Option (Nat × List UInt8 × Nat)) : Value :=
  match r with
  | some (code, d, n) => .tuple #[.int .u64 code, .string ⟨d.toArray⟩, .int .i64 n, .bool true]
  | none => .tuple #[.int .u64 0, .string ⟨#[]⟩, .int .i64 0, .bool false]

end Go.Proofs.YtdfhfaeeejijcaaDoor
