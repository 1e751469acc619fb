/-
  A tree of pub/llrb in memory: what it holds; the walks of newNode, isRed, rotateLeft, rotateRight, flip. Conditions: as each contract says.
-/
import Derived.Test.YtdfhfaeeejijcaaDoorIb
import Derived.Test.YtdfhfaeeejijcaaDoorRf
import Derived.Deep.RegionWith
namespace Go.Proofs.YtdfhfaeeejijcaaDoor
open Go.RowKit

/-- An item of the tree: where its digest lies, the digest, the identifier's bytes, the offset. -/
structure Rec where
  g : Nat
  o : Nat
  c : Nat
  d : List UInt8
  id : List UInt8
  off : Nat
def Rec.agg (x : Rec) : Value := .agg #[.slice (some ⟨x.g, x.o, none⟩) x.d.length x.c, .string ⟨x.id.toArray⟩, .int .u64 (x.off : Nat)]
def Rec.val (x : Rec) : Value := .iface 116 x.agg
/-- Its digest lies there. -/
def It (w : World) (x : Rec) : Prop := Bs w x.g x.o x.d ∧ x.d ≠ [] ∧ x.d.length ≤ x.c ∧ x.d.length ≤ 1000

inductive Tre where
  | leaf
  | node (b : Nat) (x : Rec) (l r : Tre) (k : Bool)
def Tre.adr : Tre → Option Addr
  | .leaf => none
  | .node b _ _ _ _ => some ⟨b, 0, none⟩
def Tre.ptr (s : Tre) : Value := .pointer s.adr
def Tre.red : Tre → Bool
  | .leaf => false
  | .node _ _ _ _ k => !k
def Tre.bs : Tre → List Nat
  | .leaf => []
  | .node b _ l r _ => b :: (l.bs ++ r.bs)
def Tre.ino : Tre → List Rec
  | .leaf => []
  | .node _ x l r _ => l.ino ++ x :: r.ino
/-- The tree lies in memory. -/
def Tr (w : World) : Tre → Prop
  | .leaf => True
  | .node b x l r k => Blk w b 148 #[x.val, l.ptr, r.ptr, .bool k] ∧ It w x ∧ Tr w l ∧ Tr w r

/-- Blocks of nodes. -/
def Nodes (w : World) (L : List Nat) : Prop := ∀ b ∈ L, ∃ (x : Rec) (p q : Tre) (k : Bool), Blk w b 148 #[x.val, p.ptr, q.ptr, .bool k]
theorem Tr.nodes {w : World} : ∀ {s : Tre}, Tr w s → Nodes w s.bs
  | .leaf, _ => fun b hb => by cases hb
  | .node c x l r k, h => fun b hb => by
    rcases List.mem_cons.1 hb with rfl | hb
    · exact ⟨x, l, r, k, h.1⟩
    · rcases List.mem_append.1 hb with hb | hb
      · exact h.2.2.1.nodes b hb
      · exact h.2.2.2.nodes b hb
theorem Tr.lt {w : World} {s : Tre} (h : Tr w s) : ∀ b ∈ s.bs, b < w.heap.size := fun b hb => by
  obtain ⟨x, p, q, k, h⟩ := h.nodes b hb
  exact h.lt

theorem It.apart {w : World} {x : Rec} {L : List Nat} (h : It w x) (hn : Nodes w L) : x.g ∉ L := by
  intro hm
  obtain ⟨y, p, q, k, hb⟩ := hn x.g hm
  obtain ⟨h1, h2, _⟩ := h
  have h0 := h1 0 (by cases hd : x.d with | nil => exact absurd hd h2 | cons a t => simp)
  rw [Nat.add_zero, hb.cell x.o] at h0
  match hx : x.o with
  | 0 => rw [hx] at h0; simp [Rec.val] at h0
  | 1 => rw [hx] at h0; simp [Tre.ptr] at h0
  | 2 => rw [hx] at h0; simp [Tre.ptr] at h0
  | 3 => rw [hx] at h0; simp at h0
  | n + 4 => rw [hx] at h0; simp at h0
theorem It.kp {w w' : World} {x : Rec} {L : List Nat} (h : It w x) (hk : Kp L w w') (hn : Nodes w L) : It w' x :=
  ⟨h.1.kp hk (h.apart hn), h.2⟩
theorem It.old {w w' : World} {x : Rec} (h : It w x) (hb : Below w.heap.size w w') : It w' x := ⟨h.1.old hb, h.2⟩
theorem Tr.kp {w w' : World} {L : List Nat} (hk : Kp L w w') (hn : Nodes w L) : ∀ {s : Tre}, Tr w s → (∀ b ∈ s.bs, b ∉ L) → Tr w' s
  | .leaf, _, _ => trivial
  | .node b x l r k, h, hd => ⟨h.1.kp hk (hd b (by simp [Tre.bs])), h.2.1.kp hk hn, Tr.kp hk hn h.2.2.1 (fun c hc => hd c (by simp [Tre.bs, hc])), Tr.kp hk hn h.2.2.2 (fun c hc => hd c (by simp [Tre.bs, hc]))⟩
theorem Tr.old {w w' : World} (hb : Below w.heap.size w w') : ∀ {s : Tre}, Tr w s → Tr w' s
  | .leaf, _ => trivial
  | .node b x l r k, h => ⟨h.1.old hb, h.2.1.old hb, Tr.old hb h.2.2.1, Tr.old hb h.2.2.2⟩

set_option maxRecDepth 100000 in
theorem newNode_any (ti : TypeId) (u : Value) (w : World) : Calls Tryd.prog 70 #[.iface ti u] w fun e w' => e = .returned (.pointer (some ⟨w.heap.size, 0, none⟩)) ∧ Blk w' w.heap.size 148 #[.iface ti u, .pointer none, .pointer none, .bool false] ∧ Below w.heap.size w w' := by
  go_enter Tryd.func70, Tryd.ntmps70
  go_wp2_with fail
  go_ret
  exact ⟨rfl, Blk.new _ _ _, Old.alloc (Below.refl _ _) _⟩

set_option maxRecDepth 100000 in
theorem isRed_any (s : Tre) (w : World) (h : Tr w s) : Calls Tryd.prog 77 #[s.ptr] w fun e w' => e = .returned (.bool s.red) ∧ w = w' := by
  cases s with
  | leaf =>
    unfold Tre.ptr Tre.adr Tre.red
    simp only
    go_enter Tryd.func77, Tryd.ntmps77
    go_wp2_with fail
    go_ret
    exact ⟨rfl, rfl⟩
  | node b x l r k =>
    have q3 : w.cell? ⟨b, 3, none⟩ = some (.bool k) := h.1.cell 3
    unfold Tre.ptr Tre.adr Tre.red
    simp only
    clear h
    go_enter Tryd.func77, Tryd.ntmps77
    go_wp2_with fail
    go_ret
    exact ⟨rfl, rfl⟩

/-- What a rotation to the left comes to. -/
def RtL (b c : Nat) (x y : Value) (p1 p2 p3 : Option Addr) (k : Bool) (w : World) (e : Ending) (w' : World) : Prop :=
  e = .returned (.pointer (some ⟨c, 0, none⟩)) ∧ Blk w' b 148 #[x, .pointer p1, .pointer p2, .bool false] ∧ Blk w' c 148 #[y, .pointer (some ⟨b, 0, none⟩), .pointer p3, .bool k] ∧ Kp [b, c] w w'

set_option maxRecDepth 100000 in
set_option maxHeartbeats 2000000 in
theorem rotateLeft_any (b c : Nat) (x y : Value) (p1 p2 p3 : Option Addr) (k : Bool) (w : World) (hb : Blk w b 148 #[x, .pointer p1, .pointer (some ⟨c, 0, none⟩), .bool k]) (hc : Blk w c 148 #[y, .pointer p2, .pointer p3, .bool false]) (hne : b ≠ c) :
    Calls Tryd.prog 78 #[.pointer (some ⟨b, 0, none⟩)] w (RtL b c x y p1 p2 p3 k w) := by
  have q2 : w.cell? ⟨b, 2, none⟩ = some (.pointer (some ⟨c, 0, none⟩)) := hb.cell 2
  have q3 : w.cell? ⟨b, 3, none⟩ = some (.bool k) := hb.cell 3
  have u1 : w.cell? ⟨c, 1, none⟩ = some (.pointer p2) := hc.cell 1
  have u3 : w.cell? ⟨c, 3, none⟩ = some (.bool false) := hc.cell 3
  have f2 := hb.frozen 2
  have f3 := hb.frozen 3
  have g1 := hc.frozen 1
  have g3 := hc.frozen 3
  have hcb : ¬ c = b := fun h => hne h.symm
  have H := Lib.hid (And.intro hb hc)
  clear hb hc
  go_enter Tryd.func78, Tryd.ntmps78
  go_wp2_with fail
  go_ret
  have B := (((H.out.1.set_ 2 (.pointer p2)).far (p := ⟨c, 1, none⟩) hne (.pointer (some ⟨b, 0, none⟩))).far (p := ⟨c, 3, none⟩) hne (.bool k)).set_ 3 (.bool false)
  have C := (((H.out.2.far (p := ⟨b, 2, none⟩) hcb (.pointer p2)).set_ 1 (.pointer (some ⟨b, 0, none⟩))).set_ 3 (.bool k)).far (p := ⟨b, 3, none⟩) hcb (.bool false)
  exact ⟨rfl, B, C, ((((Kp.refl [b, c] w).setCell (p := ⟨b, 2, none⟩) (.inl (by simp)) _).setCell (p := ⟨c, 1, none⟩) (.inl (by simp)) _).setCell (p := ⟨c, 3, none⟩) (.inl (by simp)) _).setCell (p := ⟨b, 3, none⟩) (.inl (by simp)) _⟩

/-- What a rotation to the right comes to. -/
def RtR (b c : Nat) (x y : Value) (p1 p2 p3 : Option Addr) (k : Bool) (w : World) (e : Ending) (w' : World) : Prop :=
  e = .returned (.pointer (some ⟨c, 0, none⟩)) ∧ Blk w' b 148 #[x, .pointer p2, .pointer p3, .bool false] ∧ Blk w' c 148 #[y, .pointer p1, .pointer (some ⟨b, 0, none⟩), .bool k] ∧ Kp [b, c] w w'

set_option maxRecDepth 100000 in
set_option maxHeartbeats 2000000 in
theorem rotateRight_any (b c : Nat) (x y : Value) (p1 p2 p3 : Option Addr) (k : Bool) (w : World) (hb : Blk w b 148 #[x, .pointer (some ⟨c, 0, none⟩), .pointer p3, .bool k]) (hc : Blk w c 148 #[y, .pointer p1, .pointer p2, .bool false]) (hne : b ≠ c) :
    Calls Tryd.prog 79 #[.pointer (some ⟨b, 0, none⟩)] w (RtR b c x y p1 p2 p3 k w) := by
  have q1 : w.cell? ⟨b, 1, none⟩ = some (.pointer (some ⟨c, 0, none⟩)) := hb.cell 1
  have q3 : w.cell? ⟨b, 3, none⟩ = some (.bool k) := hb.cell 3
  have u2 : w.cell? ⟨c, 2, none⟩ = some (.pointer p2) := hc.cell 2
  have u3 : w.cell? ⟨c, 3, none⟩ = some (.bool false) := hc.cell 3
  have f1 := hb.frozen 1
  have f3 := hb.frozen 3
  have g2 := hc.frozen 2
  have g3 := hc.frozen 3
  have hcb : ¬ c = b := fun h => hne h.symm
  have H := Lib.hid (And.intro hb hc)
  clear hb hc
  go_enter Tryd.func79, Tryd.ntmps79
  go_wp2_with fail
  go_ret
  have B := (((H.out.1.set_ 1 (.pointer p2)).far (p := ⟨c, 2, none⟩) hne (.pointer (some ⟨b, 0, none⟩))).far (p := ⟨c, 3, none⟩) hne (.bool k)).set_ 3 (.bool false)
  have C := (((H.out.2.far (p := ⟨b, 1, none⟩) hcb (.pointer p2)).set_ 2 (.pointer (some ⟨b, 0, none⟩))).set_ 3 (.bool k)).far (p := ⟨b, 3, none⟩) hcb (.bool false)
  exact ⟨rfl, B, C, ((((Kp.refl [b, c] w).setCell (p := ⟨b, 1, none⟩) (.inl (by simp)) _).setCell (p := ⟨c, 2, none⟩) (.inl (by simp)) _).setCell (p := ⟨c, 3, none⟩) (.inl (by simp)) _).setCell (p := ⟨b, 3, none⟩) (.inl (by simp)) _⟩

/-- What flip comes to. -/
def Flp (b c d : Nat) (x y z : Value) (p1 p2 p3 p4 : Option Addr) (k m n : Bool) (w : World) (e : Ending) (w' : World) : Prop :=
  e = .returned (.tuple #[]) ∧ Blk w' b 148 #[x, .pointer (some ⟨c, 0, none⟩), .pointer (some ⟨d, 0, none⟩), .bool (!k)] ∧ Blk w' c 148 #[y, .pointer p1, .pointer p2, .bool (!m)] ∧ Blk w' d 148 #[z, .pointer p3, .pointer p4, .bool (!n)] ∧ Kp [b, c, d] w w'

set_option maxRecDepth 100000 in
set_option maxHeartbeats 2000000 in
theorem flip_any (b c d : Nat) (x y z : Value) (p1 p2 p3 p4 : Option Addr) (k m n : Bool) (w : World) (hb : Blk w b 148 #[x, .pointer (some ⟨c, 0, none⟩), .pointer (some ⟨d, 0, none⟩), .bool k]) (hc : Blk w c 148 #[y, .pointer p1, .pointer p2, .bool m]) (hd : Blk w d 148 #[z, .pointer p3, .pointer p4, .bool n]) (hbc : b ≠ c) (hbd : b ≠ d) (hcd : c ≠ d) :
    Calls Tryd.prog 80 #[.pointer (some ⟨b, 0, none⟩)] w (Flp b c d x y z p1 p2 p3 p4 k m n w) := by
  have q1 : w.cell? ⟨b, 1, none⟩ = some (.pointer (some ⟨c, 0, none⟩)) := hb.cell 1
  have q2 : w.cell? ⟨b, 2, none⟩ = some (.pointer (some ⟨d, 0, none⟩)) := hb.cell 2
  have q3 : w.cell? ⟨b, 3, none⟩ = some (.bool k) := hb.cell 3
  have u3 : w.cell? ⟨c, 3, none⟩ = some (.bool m) := hc.cell 3
  have v3 : w.cell? ⟨d, 3, none⟩ = some (.bool n) := hd.cell 3
  have f3 := hb.frozen 3
  have g3 := hc.frozen 3
  have h3 := hd.frozen 3
  have hcb : ¬ c = b := fun h => hbc h.symm
  have hdb : ¬ d = b := fun h => hbd h.symm
  have hdc : ¬ d = c := fun h => hcd h.symm
  have B := ((hb.set_ 3 (.bool (!k))).far (p := ⟨c, 3, none⟩) hbc (.bool (!m))).far (p := ⟨d, 3, none⟩) hbd (.bool (!n))
  have C := ((hc.far (p := ⟨b, 3, none⟩) hcb (.bool (!k))).set_ 3 (.bool (!m))).far (p := ⟨d, 3, none⟩) hcd (.bool (!n))
  have D := ((hd.far (p := ⟨b, 3, none⟩) hdb (.bool (!k))).far (p := ⟨c, 3, none⟩) hdc (.bool (!m))).set_ 3 (.bool (!n))
  have K := (((Kp.refl [b, c, d] w).setCell (p := ⟨b, 3, none⟩) (.inl (by simp)) (.bool (!k))).setCell (p := ⟨c, 3, none⟩) (.inl (by simp)) (.bool (!m))).setCell (p := ⟨d, 3, none⟩) (.inl (by simp)) (.bool (!n))
  have H := Lib.hid (And.intro B (And.intro C (And.intro D K)))
  clear hb hc hd B C D K
  go_enter Tryd.func80, Tryd.ntmps80
  go_wp2_with fail
  go_region
  all_goals go_wp2_with fail
  all_goals go_region
  all_goals go_wp2_with fail
  all_goals refine bodyPost_ret (results_none rfl _ _ _) rfl ?_
  all_goals exact ⟨rfl, H.out.1, H.out.2.1, H.out.2.2.1, (H.out.2.2.2.drew).drew⟩
end Go.Proofs.YtdfhfaeeejijcaaDoor
