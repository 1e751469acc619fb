/-
  bytes.Compare, recordDigest.Less, llrb.less: their walks; the order of digests. Conditions: as each contract says.
-/
import Derived.Test.YtdfhfaeeejijcaaDoorLl
import Derived.Lib.Bytealg
import Derived.Lib.BytesEntry
import Derived.Stop.Asserts
namespace Go.Proofs.YtdfhfaeeejijcaaDoor
open Go.RowKit

theorem bytesOf_back (l : List UInt8) : Lib.bytesOf (l.map fun b => (b.toNat : Int)) = l := by
  induction l with
  | nil => rfl
  | cons a t ih =>
    simp only [Lib.bytesOf, List.map_cons] at ih ⊢
    rw [ih]
    simp

theorem run_bytesOf {P : Program} {g o c : Nat} {l : List UInt8} {w : World} (h : Bs w g o l) : (Extern.Bytes.bytesOf (.slice (some ⟨g, o, none⟩) l.length c)).run P w = .ok ⟨l.toArray⟩ w := by
  have hr := Lib.run_loadBytesX (P := P) (w := w) (l.map fun b => (b.toNat : Int)) ⟨g, o, none⟩ .empty (by
    intro j x hx
    rw [List.getElem?_map] at hx
    obtain ⟨y, hy, rfl⟩ := Option.map_eq_some_iff.1 hx
    obtain ⟨hj, rfl⟩ := List.getElem?_eq_some_iff.1 hy
    rw [add_at]
    exact h j hj)
  rw [List.length_map, bytesOf_back] at hr
  have : (⟨ByteArray.empty.data ++ l.toArray⟩ : ByteArray) = ⟨l.toArray⟩ := by
    show (⟨#[] ++ l.toArray⟩ : ByteArray) = _
    rw [Array.empty_append]
  rw [this] at hr
  exact hr

theorem run_compare {P : Program} {g o c g' o' c' : Nat} {l m : List UInt8} {w : World} (h : Bs w g o l) (h' : Bs w g' o' m) :
    (Extern.BytealgCompare.compare #[.slice (some ⟨g, o, none⟩) l.length c, .slice (some ⟨g', o', none⟩) m.length c']).run P w = .ok (.int .i64 (Lib.compareBytes l m)) w := by
  change Sem.run P (do pure (goInt (Extern.BytealgCompare.cmp (← Extern.Bytes.bytesOf (.slice (some ⟨g, o, none⟩) l.length c)) (← Extern.Bytes.bytesOf (.slice (some ⟨g', o', none⟩) m.length c'))))) w = _
  simp only [Sem.run_bind, run_bytesOf h, run_bytesOf h', Result.andThen, Sem.run_pure]
  rw [Lib.cmp_eq]
  rfl

set_option maxRecDepth 100000 in
theorem bytesCompare_any (g o c g' o' c' : Nat) (l m : List UInt8) (w : World) (h : Bs w g o l) (h' : Bs w g' o' m) :
    Calls Tryd.prog 114 #[.slice (some ⟨g, o, none⟩) l.length c, .slice (some ⟨g', o', none⟩) m.length c'] w fun e w' => e = .returned (.int .i64 (Lib.compareBytes l m)) ∧ w = w' := by
  have hr := run_compare (P := Tryd.prog) (c := c) (c' := c') h h'
  have HR := Lib.hid hr
  clear hr h h'
  go_enter Tryd.func114, Tryd.ntmps114
  go_wp2_with fail
  rw [run_callFunc_extern Tryd.func115 (by kernel_rfl) (by kernel_rfl) (by kernel_rfl) (e := Extern.BytealgCompare.compare) (by kernel_rfl), HR.out]
  simp only [Result.andThen]
  rw [Oper.upon_value]
  go_wp2_with fail
  go_ret
  exact ⟨rfl, rfl⟩

/-- One digest ahead of another. -/
def ltB (a b : List UInt8) : Bool := decide (Lib.compareBytes a b < 0)
theorem ltB_cons (a b : UInt8) (x y : List UInt8) : ltB (a :: x) (b :: y) = (decide (a < b) || (decide (a = b) && ltB x y)) := by
  unfold ltB
  have hc : Lib.compareBytes (a :: x) (b :: y) = if a < b then -1 else if b < a then 1 else Lib.compareBytes x y := rfl
  rw [hc]
  by_cases h : a < b
  · simp [h]
  · by_cases h' : b < a
    · have : ¬ a = b := fun e => by subst e; exact h h'
      simp [h, h', this]
    · have : a = b := UInt8.le_antisymm (by simpa using h') (by simpa using h)
      simp [h, h', this]
theorem ltB_irrefl (a : List UInt8) : ltB a a = false := by
  induction a with
  | nil => rfl
  | cons a x ih => rw [ltB_cons, ih]; simp
theorem ltB_total : ∀ {a b : List UInt8}, ltB a b = false → ltB b a = false → a = b
  | [], [], _, _ => rfl
  | [], _ :: _, h, _ => by simp [ltB, Lib.compareBytes] at h
  | _ :: _, [], _, h => by simp [ltB, Lib.compareBytes] at h
  | a :: x, b :: y, h, k => by
    rw [ltB_cons] at h k
    simp only [Bool.or_eq_false_iff, Bool.and_eq_false_iff, decide_eq_false_iff_not] at h k
    have e : a = b := UInt8.le_antisymm (by simpa using k.1) (by simpa using h.1)
    subst e
    rw [ltB_total (a := x) (b := y) (by simpa using h.2) (by simpa using k.2)]
theorem ltB_trans : ∀ {a b c : List UInt8}, ltB a b = true → ltB b c = true → ltB a c = true
  | [], [], _, h, _ => by simp [ltB, Lib.compareBytes] at h
  | _ :: _, [], _, h, _ => by simp [ltB, Lib.compareBytes] at h
  | _, _ :: _, [], _, k => by simp [ltB, Lib.compareBytes] at k
  | [], _ :: _, _ :: _, _, _ => by simp [ltB, Lib.compareBytes]
  | a :: x, b :: y, c :: z, h, k => by
    rw [ltB_cons] at h k ⊢
    simp only [Bool.or_eq_true, Bool.and_eq_true, decide_eq_true_eq] at h k ⊢
    rcases h with h | ⟨rfl, h⟩
    · rcases k with k | ⟨rfl, k⟩
      · exact .inl (UInt8.lt_trans h k)
      · exact .inl h
    · rcases k with k | ⟨rfl, k⟩
      · exact .inl k
      · exact .inr ⟨rfl, ltB_trans h k⟩

theorem run_typeAssert_struct {P : Program} {t xT : TypeId} {fs : Array Field} (v : Value) (w : World) (h : P.underlying t = some (.struct fs)) : (Instr.typeAssert (.iface t v) xT t true).run P w = .ok (.tuple #[v, .bool true]) w := by
  simp [Instr.typeAssert, run_underlying h, go_sem, Result.andThen]

set_option maxRecDepth 100000 in
set_option maxHeartbeats 2000000 in
theorem less_any (x y : Rec) (w : World) (hx : It w x) (hy : It w y) :
    Calls Tryd.prog 113 #[x.agg, y.val] w fun e w' => e = .returned (.bool (ltB x.d y.d)) ∧ Below w.heap.size w w' := by
  obtain ⟨g, o, c, d, id, off⟩ := x
  obtain ⟨g', o', c', d', id', off'⟩ := y
  unfold Rec.val Rec.agg
  simp only
  have b1 := Old.alloc (Old.alloc (Below.refl w.heap.size w) (.cells #[.slice (some ⟨g, o, none⟩) d.length c, .string ⟨id.toArray⟩, .int .u64 (off : Nat)] 116)) (.cells #[.slice (some ⟨g', o', none⟩) d'.length c', .string ⟨id'.toArray⟩, .int .u64 (off' : Nat)] 116)
  have hta := fun v W => run_typeAssert_struct (P := Tryd.prog) (t := 116) (xT := 136) v W Tryd.underlying116
  have HX := Lib.hid (And.intro (hx.1.old b1) (hy.1.old b1))
  have HB := Lib.hid b1
  clear hx hy b1
  go_enter Tryd.func113, Tryd.ntmps113
  go_wp2_with fail
  refine (bytesCompare_any _ _ _ _ _ _ _ _ _ HX.out.1 HX.out.2).mono ?_
  rintro e w1 ⟨rfl, rfl⟩
  go_wp2_with fail
  go_ret
  exact ⟨rfl, HB.out⟩

set_option maxRecDepth 100000 in
set_option maxHeartbeats 2000000 in
theorem llrbLess_any (x y : Rec) (w : World) (hx : It w x) (hy : It w y) :
    Calls Tryd.prog 69 #[x.val, y.val] w fun e w' => e = .returned (.bool (ltB x.d y.d)) ∧ Below w.heap.size w w' := by
  have H := Lib.hid (less_any x y w hx hy)
  have he1 : ∀ u v W, (binOp .eql 136 (.iface 116 u) (.iface 169 v)).run Tryd.prog W = .ok (.bool false) W := fun u v W => run_eql_iface_types _ _ u v Tryd.underlying136 (by decide) W
  have he2 : ∀ u v W, (binOp .eql 136 (.iface 116 u) (.iface 170 v)).run Tryd.prog W = .ok (.bool false) W := fun u v W => run_eql_iface_types _ _ u v Tryd.underlying136 (by decide) W
  have hm : ∀ v W, (method 297 116 v "Less").run Tryd.prog W = .ok (113, v) W := fun _ _ => by kernel_rfl
  clear hx hy
  unfold Rec.val
  go_enter Tryd.func69, Tryd.ntmps69
  go_wp2_with fail
  refine H.out.mono ?_
  rintro e w1 ⟨rfl, b1⟩
  go_wp2_with fail
  go_ret
  exact ⟨rfl, b1⟩
end Go.Proofs.YtdfhfaeeejijcaaDoor
