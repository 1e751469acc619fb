/-
  (*index.InsertionIndex).Get, impl.found: their walks. Conditions: as each contract says.
-/
import Derived.Test.YtdfhfaeeejijcaaDoorIy
namespace Go.Proofs.YtdfhfaeeejijcaaDoor
open Go.RowKit

/-- What Get comes to. -/
def GtPost (s : Tre) (d : List UInt8) (aN : Addr) (w : World) (e : Ending) (w' : World) : Prop :=
  Below w.heap.size w w' ∧ ((∃ y ∈ s.ino, y.d = d ∧ e = .returned (.tuple #[.int .u64 (y.off : Nat), .nilIface])) ∨
    ((∀ y ∈ s.ino, y.d ≠ d) ∧ e = .returned (.tuple #[.int .u64 0, .iface 142 (.pointer (some aN))])))

set_option maxRecDepth 100000 in
set_option maxHeartbeats 4000000 in
theorem iiGet_any (ib : Nat) (n : Int) (s : Tre) (c : CidL) (aN : Addr) (w : World) (hb : Blk w ib 113 #[.int .i64 n, .pointer s.adr]) (h : Tr w s) (hO : Ord s.ino) (hc : c.tidy) (hd : c.digest.length ≤ 200) (hd0 : c.digest ≠ []) (E : E4 w) (eN : Ee w 0 aN) :
    Calls Tryd.prog 24 #[.pointer (some ⟨ib, 0, none⟩), .agg #[.string ⟨c.wr.toArray⟩]] w (GtPost s c.digest aN w) := by
  obtain ⟨l, hl⟩ : ∃ l, c.wr = l := ⟨_, rfl⟩
  have b0 := Old.alloc (Below.refl w.heap.size w) (.cells #[.string ⟨l.toArray⟩] 58)
  have hg := getRecord_any ib n s c aN _ (hb.old b0) (Tr.old b0 h) hO hc hd hd0 (E.old b0) (eN.old b0)
  rw [hl] at hg
  rw [hl]
  have HG := Lib.hid hg
  have HB := Lib.hid b0
  clear hb h hO hc hd hd0 E eN hl b0 hg
  go_enter Tryd.func24, Tryd.ntmps24
  go_wp2_with fail
  refine HG.out.mono ?_
  rintro e w1 ⟨b1, ⟨y, hy, hyd, rfl⟩ | ⟨hno, rfl⟩⟩
  · have HY := Lib.hid (And.intro hy (And.intro hyd (Old.alloc (Old.trans HB.out b1) (.cells #[.string ⟨y.id.toArray⟩, .int .u64 (y.off : Nat)] 91))))
    clear hy hyd b1
    go_wp2_with fail
    go_ret2
    exact ⟨HY.out.2.2, .inl ⟨y, HY.out.1, HY.out.2.1, rfl⟩⟩
  · have HY := Lib.hid (And.intro hno (Old.alloc (Old.trans HB.out b1) (.cells #[.string ⟨#[]⟩, .int .u64 0] 91)))
    clear hno b1
    go_wp2_with fail
    go_ret2
    exact ⟨HY.out.2, .inr ⟨HY.out.1, rfl⟩⟩

set_option maxRecDepth 100000 in
theorem found_nil (w : World) : Calls Tryd.prog 25 #[.nilIface] w fun e w' => e = .returned (.int .u8 0) ∧ w = w' := by
  go_enter Tryd.func25, Tryd.ntmps25
  go_wp2_with fail
  go_ret
  exact ⟨rfl, rfl⟩

set_option maxRecDepth 100000 in
theorem found_not (aN : Addr) (w : World) (eN : Ee w 0 aN) : Calls Tryd.prog 25 #[.iface 142 (.pointer (some aN))] w fun e w' => e = .returned (.int .u8 1) ∧ w = w' := by
  unfold Ee at eN
  have heq := fun W => eql_same aN W
  go_enter Tryd.func25, Tryd.ntmps25
  go_wp2_with fail
  go_ret
  exact ⟨rfl, rfl⟩
end Go.Proofs.YtdfhfaeeejijcaaDoor
