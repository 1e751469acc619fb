/-
  The walks of cid.uvarint (of a varint that is one), Cid.Version, Defined, Bytes, KeyString. Conditions: as each contract says.
-/
import Derived.Test.YtdfhfaeeejijcaaDoorCd
import Derived.Test.YtdfhfaeeejijcaaDoorMhL
namespace Go.Proofs.YtdfhfaeeejijcaaDoor
open Go.RowKit

set_option maxRecDepth 100000 in
theorem version_any (c : CidL) (l : List UInt8) (w : World) (hl : l = c.wr) (hc : c.tidy) :
    Calls Tryd.prog 67 #[.agg #[.string ⟨l.toArray⟩]] w fun e w' => e = .returned (.int .u64 c.version) ∧ Below w.heap.size w w' := by
  by_cases h0 : c.version = 0
  · obtain ⟨e, h3, _, _⟩ := wr_v0 hc h0
    rw [h0]
    have hlen : l.length = 34 := by rw [hl, e]; simp [h3]
    have hi0 : ∀ h, ((⟨l.toArray⟩ : ByteArray)[0]'h).toNat = 18 := fun h => by
      have : l[0]? = some 18 := by rw [hl, e]; rfl
      exact congrArg UInt8.toNat (List.getElem?_eq_some_iff.1 this).2
    have hi1 : ∀ h, ((⟨l.toArray⟩ : ByteArray)[1]'h).toNat = 32 := fun h => by
      have : l[1]? = some 32 := by rw [hl, e]; rfl
      exact congrArg UInt8.toNat (List.getElem?_eq_some_iff.1 this).2
    clear e h3 hl h0 hc
    go_enter Tryd.func67, Tryd.ntmps67
    go_wp2_with fail
    go_ret
    exact ⟨rfl, (Below.refl _ _).alloc (Nat.le_refl _) _⟩
  · obtain ⟨e, h1, _, _⟩ := wr_v1 hc h0
    rw [h1]
    have hpos : 0 < l.length := by rw [hl, e]; simp
    have hi0 : ∀ h, ((⟨l.toArray⟩ : ByteArray)[0]'h).toNat = 1 := fun h => by
      have : l[0]? = some 1 := by rw [hl, e]; rfl
      exact congrArg UInt8.toNat (List.getElem?_eq_some_iff.1 this).2
    clear e h1 hl h0 hc
    obtain ⟨t, ht⟩ : ∃ t, ((l.length : Int) == 34) = t := ⟨_, rfl⟩
    cases t
    all_goals go_enter Tryd.func67, Tryd.ntmps67
    all_goals go_wp2_with fail
    all_goals go_ret
    all_goals exact ⟨rfl, (Below.refl _ _).alloc (Nat.le_refl _) _⟩

set_option maxRecDepth 100000 in
theorem cidDefined_any (l : List UInt8) (w : World) (hl : 0 < l.length) :
    Calls Tryd.prog 76 #[.agg #[.string ⟨l.toArray⟩]] w fun e w' => e = .returned (.bool true) ∧ Below w.heap.size w w' := by
  have hne : l.isEmpty = false := by cases l with | nil => simp at hl | cons _ _ => rfl
  clear hl
  go_enter Tryd.func76, Tryd.ntmps76
  go_wp2_with fail
  go_ret
  exact ⟨rfl, (Below.refl _ _).alloc (Nat.le_refl _) _⟩

set_option maxRecDepth 100000 in
theorem cidBytes_any (l : List UInt8) (w : World) (hl : 0 < l.length) (_ : l.length ≤ 2147483647) :
    Calls Tryd.prog 66 #[.agg #[.string ⟨l.toArray⟩]] w fun e w' => ∃ g c, e = .returned (.slice (some ⟨g, 0, none⟩) l.length c) ∧ w.heap.size ≤ g ∧ g < w'.heap.size ∧ l.length ≤ c ∧ Bs w' g 0 l ∧ Below w.heap.size w w' := by
  have hcv := fun W => Lib.run_convert_string_bytes (P := Tryd.prog) W 9 24 5 ⟨l.toArray⟩ Tryd.underlying9 Tryd.underlying24 Tryd.underlying5
  go_enter Tryd.func66, Tryd.ntmps66
  go_wp2_with fail
  refine (cidDefined_any l _ hl).mono ?_
  rintro _ w1 ⟨rfl, b1⟩
  obtain ⟨c1, f1⟩ := bcell b1
  have z1 := b1.size
  have b01 := Old.trans ((Below.refl w.heap.size w).alloc (Nat.le_refl _) (.cells #[.string ⟨l.toArray⟩] 58)) b1
  simp at c1 f1 z1
  have hb := bw_below w1 5 ⟨l.toArray⟩
  have hbs := bw_bs w1 5 ⟨l.toArray⟩
  have hsz := bw_size w1 5 ⟨l.toArray⟩
  have hgc := grownCap_ge w1 (⟨l.toArray⟩ : ByteArray).size 0 5
  go_wp2_with fail
  go_ret
  exact ⟨w1.heap.size, _, rfl, by omega, by rw [hsz]; omega, hgc, hbs, Old.trans b01 hb⟩
end Go.Proofs.YtdfhfaeeejijcaaDoor
