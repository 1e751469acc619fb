/-
  bytes.Reader: the walks of NewReader, ReadByte, Len, Read; errors by their addresses; io.ReadAtLeast and io.ReadFull over one. Conditions: as each contract says.
  A tree of pub/llrb in memory: what it holds; the walks of newNode, isRed, rotateLeft, rotateRight, flip. Conditions: as each contract says.
  bytes.Compare, recordDigest.Less, llrb.less: their walks; the order of digests. Conditions: as each contract says.
  Entries in a row; spec.ByDigest's order reads them. Conditions: as each law says.
-/
import Derived.Test.YtcljffldbnoljaaGreatDoorShelf
import Derived.Test.YtcljffldbnoljaaGreatDoorJBase
import Derived.LaidEql
import Derived.StillTailTactics
import Derived.Deep.QuietTactic
import Derived.BigQuiet
import Derived.Deep.RegionWith
import Derived.Deep.RegionHeld3
import Derived.Lib.Bytealg
import Derived.Lib.BytesEntry
import Derived.Stop.Asserts
import Derived.Test.YtcljffldbnoljaaGreatDoorJQf
import Derived.Test.YtcljffldbnoljaaGreatDoorJCdS
import Derived.Shelf.GgSortFunc.SmallK
import Derived.Sort.Walk0
import Derived.BigRegion
namespace Go.Proofs.YtcljffldbnoljaaGreatDoor
open Go.RowKit

/-! ### Errors by their addresses -/
/-- Variable number g holds the error that lies at a. -/
def Ee (w : World) (g : Nat) (a : Addr) : Prop := w.cell? ⟨g, 0, none⟩ = some (.iface 136 (.pointer (some a)))
/-- What '==' wants of the block where an error lies. -/
def Eh (w : World) (a : Addr) : Prop := ∃ c t, w.heap[a.block]? = some (.cells c t (0, 0))
theorem Eh.lt {w : World} {a : Addr} (h : Eh w a) : a.block < w.heap.size := by
  obtain ⟨c, t, h⟩ := h
  rcases Nat.lt_or_ge a.block w.heap.size with hlt | hge
  · exact hlt
  · rw [Array.getElem?_eq_none hge] at h; cases h
theorem Eh.old {w w' : World} {a : Addr} (h : Eh w a) (hb : Below w.heap.size w w') : Eh w' a := by
  have hlt := h.lt
  obtain ⟨c, t, h⟩ := h
  exact ⟨c, t, (hb.block a.block hlt).trans h⟩
theorem Ee.er {w : World} {g : Nat} {a : Addr} (h : Ee w g a) : Er w g := ⟨_, _, h⟩
theorem Ee.old {w w' : World} {g : Nat} {a : Addr} (h : Ee w g a) (hb : Below w.heap.size w w') : Ee w' g a := (hb.cell (p := ⟨g, 0, none⟩) (World.block_lt_of_cell? w _ h)).trans h
theorem Ee.kp {w w' : World} {L : List Nat} {g : Nat} {a : Addr} (h : Ee w g a) (hb : Kp L w w') (hg : g ∉ L) : Ee w' g a := (hb.cell (p := ⟨g, 0, none⟩) (World.block_lt_of_cell? w _ h) hg).trans h

theorem isComp : (Tryz.prog.info? 136).map (·.comparable) = some true := by kernel_rfl
theorem isSize : (Tryz.prog.info? 138).map (·.size) = some 1 := by kernel_rfl
theorem eql_same (a : Addr) (W : World) : (binOp .eql 42 (.iface 136 (.pointer (some a))) (.iface 136 (.pointer (some a)))).run Tryz.prog W = .ok (.bool true) W := by
  obtain ⟨i, hi, hcmp⟩ := Option.map_eq_some_iff.1 isComp
  obtain ⟨j, hj, hjs⟩ := Option.map_eq_some_iff.1 isSize
  exact run_eql_iface_ptr_same (P := Tryz.prog) W a Tryz.underlying42 Tryz.underlying136 hi hcmp hj
theorem eql_other {a b : Addr} {W : World} (h : a ≠ b) (ha : Eh W a) (hb : Eh W b) : (binOp .eql 42 (.iface 136 (.pointer (some a))) (.iface 136 (.pointer (some b)))).run Tryz.prog W = .ok (.bool false) W := by
  obtain ⟨i, hi, hcmp⟩ := Option.map_eq_some_iff.1 isComp
  obtain ⟨j, hj, hjs⟩ := Option.map_eq_some_iff.1 isSize
  obtain ⟨_, _, ha⟩ := ha
  obtain ⟨_, _, hb⟩ := hb
  exact run_eql_iface_ptr_other (P := Tryz.prog) W Tryz.underlying42 Tryz.underlying136 hi hcmp hj (by rw [hjs]; decide) h ha hb

/-- Below block number B, but for the blocks of L, all is as it was. -/
structure Kb (B : Nat) (L : List Nat) (w w' : World) : Prop where
  os : w'.os = w.os
  tape : w'.tape = w.tape
  output : w'.output = w.output
  size : w.heap.size ≤ w'.heap.size
  block : ∀ k, k < B → k ∉ L → w'.heap[k]? = w.heap[k]?
section
variable {B : Nat} {L : List Nat} {a b c : World}
theorem Kb.refl : Kb B L a a := ⟨rfl, rfl, rfl, Nat.le_refl _, fun _ _ _ => rfl⟩
theorem Kb.trans (h : Kb B L a b) (k : Kb B L b c) : Kb B L a c :=
  ⟨k.os.trans h.os, k.tape.trans h.tape, k.output.trans h.output, Nat.le_trans h.size k.size, fun i hi hn => (k.block i hi hn).trans (h.block i hi hn)⟩
theorem Kb.drewN (h : Kb B L a b) (n : Nat) : Kb B L a (b.drewN n) := ⟨h.os, h.tape, h.output, h.size, h.block⟩
theorem Kb.cell {p : Addr} (h : Kb B L a b) (hp : p.block < B) (hn : p.block ∉ L) : b.cell? p = a.cell? p := World.cell?_of_block (h.block p.block hp hn)
theorem Kb.of_below (h : Below B a b) (L : List Nat) : Kb B L a b := ⟨h.os, h.tape, h.output, h.size, fun k hk _ => h.block k hk⟩
theorem Kb.below (h : Kb B [] a b) : Below B a b := ⟨h.os, h.tape, h.output, h.size, fun k hk => h.block k hk (by simp)⟩
theorem Kb.alloc (h : Kb B L a b) (hB : B ≤ b.heap.size) (o : Obj) : Kb B L a (b.alloc o) := h.trans ⟨rfl, rfl, rfl, by simp, fun k hk _ => Below.heap_alloc _ _ _ (Nat.lt_of_lt_of_le hk hB)⟩
theorem Kb.setCell (h : Kb B L a b) {p : Addr} (hp : p.block ∈ L ∨ B ≤ p.block) (u : Value) : Kb B L a (b.setCell p u) :=
  h.trans ⟨rfl, rfl, rfl, by simp [World.setCell], fun k hk hn => Below.heap_setCell _ _ _ _ (by
    rcases hp with h | h
    · rintro rfl; exact hn h
    · rintro rfl; omega)⟩
theorem Kb.setCells {g : Nat} (hg : g ∈ L ∨ B ≤ g) : ∀ (vs : List Value) (o : Nat) (b : World), Kb B L a b → Kb B L a (b.setCells g o vs)
  | [], _, _, h => h
  | v :: vs, o, _, h => Kb.setCells hg vs (o + 1) _ (h.setCell (p := ⟨g, o, none⟩) hg v)
theorem Ee.kb {g : Nat} {x : Addr} (h : Ee a g x) (k : Kb B L a b) (hB : g < B) (hg : g ∉ L) : Ee b g x := (k.cell (p := ⟨g, 0, none⟩) hB hg).trans h
end


theorem below_kp {B : Nat} {a b c : World} {L : List Nat} (h : Below B a b) (k : Kp L b c) (hB : B ≤ b.heap.size) (hL : ∀ i ∈ L, B ≤ i) : Below B a c :=
  ⟨k.os.trans h.os, k.tape.trans h.tape, k.output.trans h.output, Nat.le_trans h.size k.size, fun i hi => (k.block i (by omega) (fun hm => by have := hL i hm; omega)).trans (h.block i hi)⟩
theorem Ee.lt {w : World} {g : Nat} {a : Addr} (h : Ee w g a) : g < w.heap.size := World.block_lt_of_cell? w _ h
theorem Kb.kp {L l : List Nat} {a b : World} (h : Kb a.heap.size L a b) (hl : ∀ i ∈ L, i ∈ l) : Kp l a b := ⟨h.os, h.tape, h.output, h.size, fun k hk hn => h.block k hk (fun hm => hn (hl k hm))⟩
theorem Kp.of_setCells {l : List Nat} {a : World} {g : Nat} (hg : g ∈ l ∨ a.heap.size ≤ g) : ∀ (vs : List Value) (o : Nat) (b : World), Kp l a b → Kp l a (b.setCells g o vs)
  | [], _, _, h => h
  | v :: vs, o, _, h => Kp.of_setCells hg vs (o + 1) _ (h.setCell (p := ⟨g, o, none⟩) hg v)
theorem add_at (g o j : Nat) : (⟨g, o, none⟩ : Addr).add j = ⟨g, o + j, none⟩ := by unfold Addr.add; split <;> simp_all
theorem bytes_one (l : List UInt8) : ∀ v ∈ Lib.byteCells l, v.oneCell' = true := by
  intro v hv
  obtain ⟨x, _, rfl⟩ := List.mem_map.1 hv
  rfl
theorem bs_src {w : World} {g o : Nat} {l : List UInt8} (h : Bs w g o l) : ∀ j v, (Lib.byteCells l)[j]? = some v → w.cell? ((⟨g, o, none⟩ : Addr).add j) = some v := by
  intro j v hj
  obtain ⟨hlt, rfl⟩ := List.getElem?_eq_some_iff.1 hj
  rw [Lib.byteCells_length] at hlt
  have := h j hlt
  rw [add_at, this]
  simp [Lib.byteCells]

end Go.Proofs.YtcljffldbnoljaaGreatDoor

namespace Go.Proofs.YtcljffldbnoljaaGreatDoor
open Go.RowKit

/-- An item of the tree: where its digest lies, the digest, the identifier's bytes, the offset. -/
structure Rec where
  g : Nat
  o : Nat
  c : Nat
  d : List UInt8
  id : List UInt8
  off : Nat
def Rec.agg (x : Rec) : Value := .agg #[.slice (some ⟨x.g, x.o, none⟩) x.d.length x.c, .string ⟨x.id.toArray⟩, .int .u64 (x.off : Nat)]
def Rec.val (x : Rec) : Value := .iface 67 x.agg
/-- Its digest lies there. -/
def It (w : World) (x : Rec) : Prop := Bs w x.g x.o x.d ∧ x.d ≠ [] ∧ x.d.length ≤ x.c ∧ x.d.length ≤ 1000

inductive Tre where
  | leaf
  | node (b : Nat) (x : Rec) (l r : Tre) (k : Bool)
def Tre.adr : Tre → Option Addr
  | .leaf => none
  | .node b _ _ _ _ => some ⟨b, 0, none⟩
def Tre.ptr (s : Tre) : Value := .pointer s.adr
def Tre.red : Tre → Bool
  | .leaf => false
  | .node _ _ _ _ k => !k
def Tre.bs : Tre → List Nat
  | .leaf => []
  | .node b _ l r _ => b :: (l.bs ++ r.bs)
def Tre.ino : Tre → List Rec
  | .leaf => []
  | .node _ x l r _ => l.ino ++ x :: r.ino
/-- The tree lies in memory. -/
def Tr (w : World) : Tre → Prop
  | .leaf => True
  | .node b x l r k => Blk w b 100 #[x.val, l.ptr, r.ptr, .bool k] ∧ It w x ∧ Tr w l ∧ Tr w r

/-- Blocks of nodes. -/
def Nodes (w : World) (L : List Nat) : Prop := ∀ b ∈ L, ∃ (x : Rec) (p q : Tre) (k : Bool), Blk w b 100 #[x.val, p.ptr, q.ptr, .bool k]
theorem Tr.nodes {w : World} : ∀ {s : Tre}, Tr w s → Nodes w s.bs
  | .leaf, _ => fun b hb => by cases hb
  | .node c x l r k, h => fun b hb => by
    rcases List.mem_cons.1 hb with rfl | hb
    · exact ⟨x, l, r, k, h.1⟩
    · rcases List.mem_append.1 hb with hb | hb
      · exact h.2.2.1.nodes b hb
      · exact h.2.2.2.nodes b hb
theorem Tr.lt {w : World} {s : Tre} (h : Tr w s) : ∀ b ∈ s.bs, b < w.heap.size := fun b hb => by
  obtain ⟨x, p, q, k, h⟩ := h.nodes b hb
  exact h.lt

theorem It.apart {w : World} {x : Rec} {L : List Nat} (h : It w x) (hn : Nodes w L) : x.g ∉ L := by
  intro hm
  obtain ⟨y, p, q, k, hb⟩ := hn x.g hm
  obtain ⟨h1, h2, _⟩ := h
  have h0 := h1 0 (by cases hd : x.d with | nil => exact absurd hd h2 | cons a t => simp)
  rw [Nat.add_zero, hb.cell x.o] at h0
  match hx : x.o with
  | 0 => rw [hx] at h0; simp [Rec.val] at h0
  | 1 => rw [hx] at h0; simp [Tre.ptr] at h0
  | 2 => rw [hx] at h0; simp [Tre.ptr] at h0
  | 3 => rw [hx] at h0; simp at h0
  | n + 4 => rw [hx] at h0; simp at h0
theorem It.kp {w w' : World} {x : Rec} {L : List Nat} (h : It w x) (hk : Kp L w w') (hn : Nodes w L) : It w' x :=
  ⟨h.1.kp hk (h.apart hn), h.2⟩
theorem It.old {w w' : World} {x : Rec} (h : It w x) (hb : Below w.heap.size w w') : It w' x := ⟨h.1.old hb, h.2⟩
theorem Tr.kp {w w' : World} {L : List Nat} (hk : Kp L w w') (hn : Nodes w L) : ∀ {s : Tre}, Tr w s → (∀ b ∈ s.bs, b ∉ L) → Tr w' s
  | .leaf, _, _ => trivial
  | .node b x l r k, h, hd => ⟨h.1.kp hk (hd b (by simp [Tre.bs])), h.2.1.kp hk hn, Tr.kp hk hn h.2.2.1 (fun c hc => hd c (by simp [Tre.bs, hc])), Tr.kp hk hn h.2.2.2 (fun c hc => hd c (by simp [Tre.bs, hc]))⟩
theorem Tr.old {w w' : World} (hb : Below w.heap.size w w') : ∀ {s : Tre}, Tr w s → Tr w' s
  | .leaf, _ => trivial
  | .node _b _x _l _r _k, h => ⟨h.1.old hb, h.2.1.old hb, Tr.old hb h.2.2.1, Tr.old hb h.2.2.2⟩

set_option maxRecDepth 100000 in
theorem newNode_any (ti : TypeId) (u : Value) (w : World) : Calls Tryz.prog 71 #[.iface ti u] w fun e w' => e = .returned (.pointer (some ⟨w.heap.size, 0, none⟩)) ∧ Blk w' w.heap.size 100 #[.iface ti u, .pointer none, .pointer none, .bool false] ∧ Below w.heap.size w w' := by
  go_enter Tryz.func71, Tryz.ntmps71
  go_wp2_with fail
  go_ret
  exact ⟨rfl, Blk.new _ _ _, Old.alloc (Below.refl _ _) _⟩

set_option maxRecDepth 100000 in
theorem isRed_any (s : Tre) (w : World) (h : Tr w s) : Calls Tryz.prog 100 #[s.ptr] w fun e w' => e = .returned (.bool s.red) ∧ w = w' := by
  cases s with
  | leaf =>
    unfold Tre.ptr Tre.adr Tre.red
    simp only
    go_enter Tryz.func100, Tryz.ntmps100
    go_wp2_with fail
    go_ret
    exact ⟨rfl, rfl⟩
  | node b x l r k =>
    have q3 : w.cell? ⟨b, 3, none⟩ = some (.bool k) := h.1.cell 3
    unfold Tre.ptr Tre.adr Tre.red
    simp only
    clear h
    go_enter Tryz.func100, Tryz.ntmps100
    go_wp2_with fail
    go_ret
    exact ⟨rfl, rfl⟩

/-- What a rotation to the left comes to. -/
def RtL (b c : Nat) (x y : Value) (p1 p2 p3 : Option Addr) (k : Bool) (w : World) (e : Ending) (w' : World) : Prop :=
  e = .returned (.pointer (some ⟨c, 0, none⟩)) ∧ Blk w' b 100 #[x, .pointer p1, .pointer p2, .bool false] ∧ Blk w' c 100 #[y, .pointer (some ⟨b, 0, none⟩), .pointer p3, .bool k] ∧ Kp [b, c] w w'

set_option maxRecDepth 100000 in
set_option maxHeartbeats 2000000 in
theorem rotateLeft_any (b c : Nat) (x y : Value) (p1 p2 p3 : Option Addr) (k : Bool) (w : World) (hb : Blk w b 100 #[x, .pointer p1, .pointer (some ⟨c, 0, none⟩), .bool k]) (hc : Blk w c 100 #[y, .pointer p2, .pointer p3, .bool false]) (hne : b ≠ c) :
    Calls Tryz.prog 101 #[.pointer (some ⟨b, 0, none⟩)] w (RtL b c x y p1 p2 p3 k w) := by
  have q2 : w.cell? ⟨b, 2, none⟩ = some (.pointer (some ⟨c, 0, none⟩)) := hb.cell 2
  have q3 : w.cell? ⟨b, 3, none⟩ = some (.bool k) := hb.cell 3
  have u1 : w.cell? ⟨c, 1, none⟩ = some (.pointer p2) := hc.cell 1
  have u3 : w.cell? ⟨c, 3, none⟩ = some (.bool false) := hc.cell 3
  have f2 := hb.frozen 2
  have f3 := hb.frozen 3
  have g1 := hc.frozen 1
  have g3 := hc.frozen 3
  have hcb : ¬ c = b := fun h => hne h.symm
  have H := Lib.hid (And.intro hb hc)
  clear hb hc
  go_enter Tryz.func101, Tryz.ntmps101
  go_wp2_with fail
  go_ret
  have B := (((H.out.1.set_ 2 (.pointer p2)).far (p := ⟨c, 1, none⟩) hne (.pointer (some ⟨b, 0, none⟩))).far (p := ⟨c, 3, none⟩) hne (.bool k)).set_ 3 (.bool false)
  have C := (((H.out.2.far (p := ⟨b, 2, none⟩) hcb (.pointer p2)).set_ 1 (.pointer (some ⟨b, 0, none⟩))).set_ 3 (.bool k)).far (p := ⟨b, 3, none⟩) hcb (.bool false)
  exact ⟨rfl, B, C, ((((Kp.refl [b, c] w).setCell (p := ⟨b, 2, none⟩) (.inl (by simp)) _).setCell (p := ⟨c, 1, none⟩) (.inl (by simp)) _).setCell (p := ⟨c, 3, none⟩) (.inl (by simp)) _).setCell (p := ⟨b, 3, none⟩) (.inl (by simp)) _⟩

/-- What a rotation to the right comes to. -/
def RtR (b c : Nat) (x y : Value) (p1 p2 p3 : Option Addr) (k : Bool) (w : World) (e : Ending) (w' : World) : Prop :=
  e = .returned (.pointer (some ⟨c, 0, none⟩)) ∧ Blk w' b 100 #[x, .pointer p2, .pointer p3, .bool false] ∧ Blk w' c 100 #[y, .pointer p1, .pointer (some ⟨b, 0, none⟩), .bool k] ∧ Kp [b, c] w w'

set_option maxRecDepth 100000 in
set_option maxHeartbeats 2000000 in
theorem rotateRight_any (b c : Nat) (x y : Value) (p1 p2 p3 : Option Addr) (k : Bool) (w : World) (hb : Blk w b 100 #[x, .pointer (some ⟨c, 0, none⟩), .pointer p3, .bool k]) (hc : Blk w c 100 #[y, .pointer p1, .pointer p2, .bool false]) (hne : b ≠ c) :
    Calls Tryz.prog 102 #[.pointer (some ⟨b, 0, none⟩)] w (RtR b c x y p1 p2 p3 k w) := by
  have q1 : w.cell? ⟨b, 1, none⟩ = some (.pointer (some ⟨c, 0, none⟩)) := hb.cell 1
  have q3 : w.cell? ⟨b, 3, none⟩ = some (.bool k) := hb.cell 3
  have u2 : w.cell? ⟨c, 2, none⟩ = some (.pointer p2) := hc.cell 2
  have u3 : w.cell? ⟨c, 3, none⟩ = some (.bool false) := hc.cell 3
  have f1 := hb.frozen 1
  have f3 := hb.frozen 3
  have g2 := hc.frozen 2
  have g3 := hc.frozen 3
  have hcb : ¬ c = b := fun h => hne h.symm
  have H := Lib.hid (And.intro hb hc)
  clear hb hc
  go_enter Tryz.func102, Tryz.ntmps102
  go_wp2_with fail
  go_ret
  have B := (((H.out.1.set_ 1 (.pointer p2)).far (p := ⟨c, 2, none⟩) hne (.pointer (some ⟨b, 0, none⟩))).far (p := ⟨c, 3, none⟩) hne (.bool k)).set_ 3 (.bool false)
  have C := (((H.out.2.far (p := ⟨b, 1, none⟩) hcb (.pointer p2)).set_ 2 (.pointer (some ⟨b, 0, none⟩))).set_ 3 (.bool k)).far (p := ⟨b, 3, none⟩) hcb (.bool false)
  exact ⟨rfl, B, C, ((((Kp.refl [b, c] w).setCell (p := ⟨b, 1, none⟩) (.inl (by simp)) _).setCell (p := ⟨c, 2, none⟩) (.inl (by simp)) _).setCell (p := ⟨c, 3, none⟩) (.inl (by simp)) _).setCell (p := ⟨b, 3, none⟩) (.inl (by simp)) _⟩

/-- What flip comes to. -/
def Flp (b c d : Nat) (x y z : Value) (p1 p2 p3 p4 : Option Addr) (k m n : Bool) (w : World) (e : Ending) (w' : World) : Prop :=
  e = .returned (.tuple #[]) ∧ Blk w' b 100 #[x, .pointer (some ⟨c, 0, none⟩), .pointer (some ⟨d, 0, none⟩), .bool (!k)] ∧ Blk w' c 100 #[y, .pointer p1, .pointer p2, .bool (!m)] ∧ Blk w' d 100 #[z, .pointer p3, .pointer p4, .bool (!n)] ∧ Kp [b, c, d] w w'

set_option maxRecDepth 100000 in
set_option maxHeartbeats 2000000 in
theorem flip_any (b c d : Nat) (x y z : Value) (p1 p2 p3 p4 : Option Addr) (k m n : Bool) (w : World) (hb : Blk w b 100 #[x, .pointer (some ⟨c, 0, none⟩), .pointer (some ⟨d, 0, none⟩), .bool k]) (hc : Blk w c 100 #[y, .pointer p1, .pointer p2, .bool m]) (hd : Blk w d 100 #[z, .pointer p3, .pointer p4, .bool n]) (hbc : b ≠ c) (hbd : b ≠ d) (hcd : c ≠ d) :
    Calls Tryz.prog 103 #[.pointer (some ⟨b, 0, none⟩)] w (Flp b c d x y z p1 p2 p3 p4 k m n w) := by
  have q1 : w.cell? ⟨b, 1, none⟩ = some (.pointer (some ⟨c, 0, none⟩)) := hb.cell 1
  have q2 : w.cell? ⟨b, 2, none⟩ = some (.pointer (some ⟨d, 0, none⟩)) := hb.cell 2
  have q3 : w.cell? ⟨b, 3, none⟩ = some (.bool k) := hb.cell 3
  have u3 : w.cell? ⟨c, 3, none⟩ = some (.bool m) := hc.cell 3
  have v3 : w.cell? ⟨d, 3, none⟩ = some (.bool n) := hd.cell 3
  have f3 := hb.frozen 3
  have g3 := hc.frozen 3
  have h3 := hd.frozen 3
  have hcb : ¬ c = b := fun h => hbc h.symm
  have hdb : ¬ d = b := fun h => hbd h.symm
  have hdc : ¬ d = c := fun h => hcd h.symm
  have B := ((hb.set_ 3 (.bool (!k))).far (p := ⟨c, 3, none⟩) hbc (.bool (!m))).far (p := ⟨d, 3, none⟩) hbd (.bool (!n))
  have C := ((hc.far (p := ⟨b, 3, none⟩) hcb (.bool (!k))).set_ 3 (.bool (!m))).far (p := ⟨d, 3, none⟩) hcd (.bool (!n))
  have D := ((hd.far (p := ⟨b, 3, none⟩) hdb (.bool (!k))).far (p := ⟨c, 3, none⟩) hdc (.bool (!m))).set_ 3 (.bool (!n))
  have K := (((Kp.refl [b, c, d] w).setCell (p := ⟨b, 3, none⟩) (.inl (by simp)) (.bool (!k))).setCell (p := ⟨c, 3, none⟩) (.inl (by simp)) (.bool (!m))).setCell (p := ⟨d, 3, none⟩) (.inl (by simp)) (.bool (!n))
  have H := Lib.hid (And.intro B (And.intro C (And.intro D K)))
  clear hb hc hd B C D K
  go_enter Tryz.func103, Tryz.ntmps103
  go_wp2_with fail
  go_region
  all_goals go_wp2_with fail
  all_goals go_region
  all_goals go_wp2_with fail
  all_goals refine bodyPost_ret (results_none rfl _ _ _) rfl ?_
  all_goals exact ⟨rfl, H.out.1, H.out.2.1, H.out.2.2.1, (H.out.2.2.2.drew).drew⟩
end Go.Proofs.YtcljffldbnoljaaGreatDoor

namespace Go.Proofs.YtcljffldbnoljaaGreatDoor
open Go.RowKit

theorem bytesOf_back (l : List UInt8) : Lib.bytesOf (l.map fun b => (b.toNat : Int)) = l := by
  induction l with
  | nil => rfl
  | cons a t ih =>
    simp only [Lib.bytesOf, List.map_cons] at ih ⊢
    rw [ih]
    simp

theorem run_bytesOf {P : Program} {g o c : Nat} {l : List UInt8} {w : World} (h : Bs w g o l) : (Extern.Bytes.bytesOf (.slice (some ⟨g, o, none⟩) l.length c)).run P w = .ok ⟨l.toArray⟩ w := by
  have hr := Lib.run_loadBytesX (P := P) (w := w) (l.map fun b => (b.toNat : Int)) ⟨g, o, none⟩ .empty (by
    intro j x hx
    rw [List.getElem?_map] at hx
    obtain ⟨y, hy, rfl⟩ := Option.map_eq_some_iff.1 hx
    obtain ⟨hj, rfl⟩ := List.getElem?_eq_some_iff.1 hy
    rw [add_at]
    exact h j hj)
  rw [List.length_map, bytesOf_back] at hr
  have : (⟨ByteArray.empty.data ++ l.toArray⟩ : ByteArray) = ⟨l.toArray⟩ := by
    show (⟨#[] ++ l.toArray⟩ : ByteArray) = _
    rw [Array.empty_append]
  rw [this] at hr
  exact hr

theorem run_compare {P : Program} {g o c g' o' c' : Nat} {l m : List UInt8} {w : World} (h : Bs w g o l) (h' : Bs w g' o' m) :
    (Extern.BytealgCompare.compare #[.slice (some ⟨g, o, none⟩) l.length c, .slice (some ⟨g', o', none⟩) m.length c']).run P w = .ok (.int .i64 (Lib.compareBytes l m)) w := by
  change Sem.run P (do pure (goInt (Extern.BytealgCompare.cmp (← Extern.Bytes.bytesOf (.slice (some ⟨g, o, none⟩) l.length c)) (← Extern.Bytes.bytesOf (.slice (some ⟨g', o', none⟩) m.length c'))))) w = _
  simp only [Sem.run_bind, run_bytesOf h, run_bytesOf h', Result.andThen, Sem.run_pure]
  rw [Lib.cmp_eq]
  rfl

set_option maxRecDepth 100000 in
theorem bytesCompare_any (g o c g' o' c' : Nat) (l m : List UInt8) (w : World) (h : Bs w g o l) (h' : Bs w g' o' m) :
    Calls Tryz.prog 154 #[.slice (some ⟨g, o, none⟩) l.length c, .slice (some ⟨g', o', none⟩) m.length c'] w fun e w' => e = .returned (.int .i64 (Lib.compareBytes l m)) ∧ w = w' := by
  have hr := run_compare (P := Tryz.prog) (c := c) (c' := c') h h'
  have HR := Lib.hid hr
  clear hr h h'
  go_enter Tryz.func154, Tryz.ntmps154
  go_wp2_with fail
  rw [run_callFunc_extern Tryz.func155 (by kernel_rfl) (by kernel_rfl) (by kernel_rfl) (e := Extern.BytealgCompare.compare) (by kernel_rfl), HR.out]
  simp only [Result.andThen]
  rw [Oper.upon_value]
  go_wp2_with fail
  go_ret
  exact ⟨rfl, rfl⟩

/-- One digest ahead of another. -/
def ltB (a b : List UInt8) : Bool := decide (Lib.compareBytes a b < 0)
theorem ltB_cons (a b : UInt8) (x y : List UInt8) : ltB (a :: x) (b :: y) = (decide (a < b) || (decide (a = b) && ltB x y)) := by
  unfold ltB
  have hc : Lib.compareBytes (a :: x) (b :: y) = if a < b then -1 else if b < a then 1 else Lib.compareBytes x y := rfl
  rw [hc]
  by_cases h : a < b
  · simp [h]
  · by_cases h' : b < a
    · have : ¬ a = b := fun e => by subst e; exact h h'
      simp [h, h', this]
    · have : a = b := UInt8.le_antisymm (by simpa using h') (by simpa using h)
      simp [this]
theorem ltB_irrefl (a : List UInt8) : ltB a a = false := by
  induction a with
  | nil => rfl
  | cons a x ih => rw [ltB_cons, ih]; simp
theorem ltB_total : ∀ {a b : List UInt8}, ltB a b = false → ltB b a = false → a = b
  | [], [], _, _ => rfl
  | [], _ :: _, h, _ => by simp [ltB, Lib.compareBytes] at h
  | _ :: _, [], _, h => by simp [ltB, Lib.compareBytes] at h
  | a :: x, b :: y, h, k => by
    rw [ltB_cons] at h k
    simp only [Bool.or_eq_false_iff, Bool.and_eq_false_iff, decide_eq_false_iff_not] at h k
    have e : a = b := UInt8.le_antisymm (by simpa using k.1) (by simpa using h.1)
    subst e
    rw [ltB_total (a := x) (b := y) (by simpa using h.2) (by simpa using k.2)]
theorem ltB_trans : ∀ {a b c : List UInt8}, ltB a b = true → ltB b c = true → ltB a c = true
  | [], [], _, h, _ => by simp [ltB, Lib.compareBytes] at h
  | _ :: _, [], _, h, _ => by simp [ltB, Lib.compareBytes] at h
  | _, _ :: _, [], _, k => by simp [ltB, Lib.compareBytes] at k
  | [], _ :: _, _ :: _, _, _ => by simp [ltB, Lib.compareBytes]
  | a :: x, b :: y, c :: z, h, k => by
    rw [ltB_cons] at h k ⊢
    simp only [Bool.or_eq_true, Bool.and_eq_true, decide_eq_true_eq] at h k ⊢
    rcases h with h | ⟨rfl, h⟩
    · rcases k with k | ⟨rfl, k⟩
      · exact .inl (UInt8.lt_trans h k)
      · exact .inl h
    · rcases k with k | ⟨rfl, k⟩
      · exact .inl k
      · exact .inr ⟨rfl, ltB_trans h k⟩

theorem run_typeAssert_struct {P : Program} {t xT : TypeId} {fs : Array Field} (v : Value) (w : World) (h : P.underlying t = some (.struct fs)) : (Instr.typeAssert (.iface t v) xT t true).run P w = .ok (.tuple #[v, .bool true]) w := by
  simp [Instr.typeAssert, run_underlying h, go_sem, Result.andThen]

set_option maxRecDepth 100000 in
set_option maxHeartbeats 2000000 in
theorem less_any (x y : Rec) (w : World) (hx : It w x) (hy : It w y) :
    Calls Tryz.prog 153 #[x.agg, y.val] w fun e w' => e = .returned (.bool (ltB x.d y.d)) ∧ Below w.heap.size w w' := by
  obtain ⟨g, o, c, d, id, off⟩ := x
  obtain ⟨g', o', c', d', id', off'⟩ := y
  unfold Rec.val Rec.agg
  simp only
  have b1 := Old.alloc (Old.alloc (Below.refl w.heap.size w) (.cells #[.slice (some ⟨g, o, none⟩) d.length c, .string ⟨id.toArray⟩, .int .u64 (off : Nat)] 67)) (.cells #[.slice (some ⟨g', o', none⟩) d'.length c', .string ⟨id'.toArray⟩, .int .u64 (off' : Nat)] 67)
  have hta := fun v W => run_typeAssert_struct (P := Tryz.prog) (t := 67) (xT := 63) v W Tryz.underlying67
  have HX := Lib.hid (And.intro (hx.1.old b1) (hy.1.old b1))
  have HB := Lib.hid b1
  clear hx hy b1
  go_enter Tryz.func153, Tryz.ntmps153
  go_wp2_with fail
  refine (bytesCompare_any _ _ _ _ _ _ _ _ _ HX.out.1 HX.out.2).mono ?_
  rintro e w1 ⟨rfl, rfl⟩
  go_wp2_with fail
  go_ret
  exact ⟨rfl, HB.out⟩

set_option maxRecDepth 100000 in
set_option maxHeartbeats 2000000 in
theorem llrbLess_any (x y : Rec) (w : World) (hx : It w x) (hy : It w y) :
    Calls Tryz.prog 58 #[x.val, y.val] w fun e w' => e = .returned (.bool (ltB x.d y.d)) ∧ Below w.heap.size w w' := by
  have H := Lib.hid (less_any x y w hx hy)
  have he1 : ∀ u v W, (binOp .eql 63 (.iface 67 u) (.iface 165 v)).run Tryz.prog W = .ok (.bool false) W := fun u v W => run_eql_iface_types _ _ u v Tryz.underlying63 (by decide) W
  have he2 : ∀ u v W, (binOp .eql 63 (.iface 67 u) (.iface 166 v)).run Tryz.prog W = .ok (.bool false) W := fun u v W => run_eql_iface_types _ _ u v Tryz.underlying63 (by decide) W
  have hm : ∀ v W, (method 399 67 v "Less").run Tryz.prog W = .ok (153, v) W := fun _ _ => by kernel_rfl
  clear hx hy
  unfold Rec.val
  go_enter Tryz.func58, Tryz.ntmps58
  go_wp2_with fail
  refine H.out.mono ?_
  rintro e w1 ⟨rfl, b1⟩
  go_wp2_with fail
  go_ret
  exact ⟨rfl, b1⟩
end Go.Proofs.YtcljffldbnoljaaGreatDoor

namespace Go.Proofs.YtcljffldbnoljaaGreatDoor
open Go.RowKit Go.Sort

instance : Inhabited EntL := ⟨⟨⟨0, 0, 0, []⟩, 0⟩⟩
/-- An entry's cells. -/
def enC (x : EntL) : List Value := [.int .u64 (x.c.version : Nat), .int .u64 (x.c.codec : Nat), .int .u64 (x.c.code : Nat), .string ⟨x.c.digest.toArray⟩, .int .u64 (x.off : Nat)]
theorem enC_len (x : EntL) : (enC x).length = 5 := rfl
theorem enC_one (x : EntL) : ∀ v ∈ enC x, v.oneCell' = true := by
  intro v hv
  simp [enC] at hv
  rcases hv with rfl | rfl | rfl | rfl | rfl <;> rfl
/-- One entry ahead of another. -/
def entLt (x y : EntL) : Bool := if x.c.digest = y.c.digest then decide (x.off < y.off) else ltB x.c.digest y.c.digest
theorem entLt_swo : SWO entLt where
  irrefl x := by simp [entLt]
  trans x y z h1 h2 := by
    unfold entLt at *
    by_cases a : x.c.digest = y.c.digest
    · by_cases b : y.c.digest = z.c.digest
      · rw [if_pos a] at h1; rw [if_pos b] at h2; rw [if_pos (a.trans b)]
        simp only [decide_eq_true_eq] at *; omega
      · rw [if_neg b] at h2; rw [a, if_neg b]; exact h2
    · rw [if_neg a] at h1
      by_cases b : y.c.digest = z.c.digest
      · rw [← b, if_neg a]; exact h1
      · rw [if_neg b] at h2
        have h3 := ltB_trans h1 h2
        rw [if_neg (fun e => by rw [e, ltB_irrefl] at h3; cases h3)]
        exact h3
  ntrans x y z h1 h2 := by
    unfold entLt at *
    by_cases a : x.c.digest = y.c.digest
    · by_cases b : y.c.digest = z.c.digest
      · rw [if_pos a] at h1; rw [if_pos b] at h2; rw [if_pos (a.trans b)]
        simp only [decide_eq_false_iff_not] at *; omega
      · rw [if_neg b] at h2; rw [a, if_neg b]; exact h2
    · rw [if_neg a] at h1
      by_cases b : y.c.digest = z.c.digest
      · rw [← b, if_neg a]; exact h1
      · rw [if_neg b] at h2
        have hyx : ltB y.c.digest x.c.digest = true := by
          cases h : ltB y.c.digest x.c.digest with
          | true => rfl
          | false => exact absurd (ltB_total h1 h) a
        have hzy : ltB z.c.digest y.c.digest = true := by
          cases h : ltB z.c.digest y.c.digest with
          | true => rfl
          | false => exact absurd (ltB_total h2 h) b
        have h3 := ltB_trans hzy hyx
        have hne : ¬ x.c.digest = z.c.digest := fun e => by rw [e, ltB_irrefl] at h3; cases h3
        rw [if_neg hne]
        cases h : ltB x.c.digest z.c.digest with
        | false => rfl
        | true => have := ltB_trans h h3; rw [ltB_irrefl] at this; cases this
theorem bytesLess_ltB : ∀ (a b : List UInt8), Op.bytesLess a b = ltB a b
  | [], [] => by simp [Op.bytesLess, ltB_irrefl]
  | _ :: _, [] => by simp [Op.bytesLess]; rfl
  | [], _ :: _ => by simp [Op.bytesLess]; rfl
  | x :: a, y :: b => by
    rw [ltB_cons, ← bytesLess_ltB a b, Op.bytesLess]
    congr 1
/-- The entries that are spoken of. -/
def EnG (x : EntL) : Prop := x.c.digest.length ≤ 200 ∧ x.c.code < 9223372036854775808 ∧ x.off < 18446744073709551616

theorem enK_cells {w : World} {g : Nat} {d : Array EntL} (h : HoldsK enC 5 w g 0 d) (i : Nat) (hi : i < d.size) : w.cell? ⟨g, i * 5, none⟩ = some (.int .u64 (d[i]!.c.version : Nat)) ∧ w.cell? ⟨g, i * 5 + 1, none⟩ = some (.int .u64 (d[i]!.c.codec : Nat)) ∧ w.cell? ⟨g, i * 5 + 2, none⟩ = some (.int .u64 (d[i]!.c.code : Nat)) ∧
    w.cell? ⟨g, i * 5 + 3, none⟩ = some (.string ⟨d[i]!.c.digest.toArray⟩) ∧ w.cell? ⟨g, i * 5 + 4, none⟩ = some (.int .u64 (d[i]!.off : Nat)) := by
  have c := fun c hc => (h.cell hi (c := c) hc).1
  simp only [Nat.zero_add] at c
  exact ⟨c 0 (by omega), c 1 (by omega), c 2 (by omega), c 3 (by omega), c 4 (by omega)⟩

set_option maxRecDepth 100000 in
set_option maxHeartbeats 4000000 in
theorem byLess_eq (lb g c i j n : Nat) (d : Array EntL) (w : World) (h : HoldsK enC 5 w g 0 d) (hd : d.size = n) (hl : w.cell? ⟨lb, 0, none⟩ = some (.slice (some ⟨g, 0, none⟩) n c)) (hi : i < n) (hj : j < n) (_hn : n ≤ 1000) (_hnc : n ≤ c) :
    Calls Tryz.prog 62 #[.int .i64 i, .int .i64 j, .pointer (some ⟨lb, 0, none⟩)] w fun e w' => e = .returned (.bool (entLt d[i]! d[j]!)) ∧ Below w.heap.size w w' := by
  obtain ⟨x0, x1, x2, x3, x4⟩ := enK_cells h i (by omega)
  obtain ⟨y0, y1, y2, y3, y4⟩ := enK_cells h j (by omega)
  obtain ⟨x, hx⟩ : ∃ x, d[i]! = x := ⟨_, rfl⟩
  obtain ⟨y, hy⟩ : ∃ y, d[j]! = y := ⟨_, rfl⟩
  rw [hx] at x0 x1 x2 x3 x4 ⊢
  rw [hy] at y0 y1 y2 y3 y4 ⊢
  have hgl := World.block_lt_of_cell? w _ x0
  have hll := World.block_lt_of_cell? w _ hl
  have hiI : (i : Int) < (n : Int) := by omega
  have hjI : (j : Int) < (n : Int) := by omega
  clear h hi hj hx hy hd
  by_cases hxy : x.c.digest = y.c.digest
  · have hb : (!x.c.digest == y.c.digest) = false := by simp [hxy]
    have hb2 : (x.c.digest == y.c.digest) = true := by simp [hxy]
    have HE : Hid (decide (x.off < y.off) = entLt x y) := Lib.hid (by rw [entLt, if_pos hxy])
    clear hxy
    go_enter Tryz.func62, Tryz.ntmps62
    go_wp2_with fail
    go_region
    all_goals go_wp2_with fail
    all_goals
      refine bodyPost_ret (v := .bool (decide (x.off < y.off))) (by simp [results, Tryz.results62, go_sem]) rfl ⟨by rw [HE.out], ?_⟩
      exact (((Below.refl _ _).alloc (Nat.le_refl _) _).alloc (by simp) _).drew
  · have hb : (!x.c.digest == y.c.digest) = true := by simp [hxy]
    have hb2 : (x.c.digest == y.c.digest) = false := by simp [hxy]
    have HE : Hid (Op.bytesLess x.c.digest y.c.digest = entLt x y) := Lib.hid (by rw [entLt, if_neg hxy, bytesLess_ltB])
    clear hxy
    go_enter Tryz.func62, Tryz.ntmps62
    go_wp2_with fail
    go_region
    all_goals go_wp2_with fail
    all_goals
      refine bodyPost_ret (v := .bool (Op.bytesLess x.c.digest y.c.digest)) (by simp [results, Tryz.results62, go_sem]) rfl ⟨by rw [HE.out], ?_⟩
      exact (((Below.refl _ _).alloc (Nat.le_refl _) _).alloc (by simp) _).drew
end Go.Proofs.YtcljffldbnoljaaGreatDoor
