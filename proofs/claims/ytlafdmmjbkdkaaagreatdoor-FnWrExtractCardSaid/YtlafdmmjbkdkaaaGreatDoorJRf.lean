/-
  bytes.Reader: the walks of NewReader, ReadByte, Len, Read; errors by their addresses; io.ReadAtLeast and io.ReadFull over one. Conditions: as each contract says.
  io.ReadAtLeast and io.ReadFull over three readers, where one reading gives all bytes that are asked for (or, of an io.SectionReader, fewer and the end). Conditions: as each contract says.
  shared.readerToScanner over a bytes.Reader (Read of one byte into itself, of seven bytes into another row; ReadByte), shared.SlickReaderStream over it (Readn1, Readnzc of seven). Conditions: as each contract says.
-/
import Derived.Test.YtlafdmmjbkdkaaaGreatDoorShelf
import Derived.Test.YtlafdmmjbkdkaaaGreatDoorJBase
import Derived.LaidEql
import Derived.StillTailTactics
import Derived.Deep.QuietTactic
import Derived.BigQuiet
import Derived.Deep.RegionWith
import Derived.Deep.RegionHeld3
namespace Go.Proofs.YtlafdmmjbkdkaaaGreatDoor
open Go.RowKit

/-- In block r lies a reader of the n bytes at g, o, read up to number i. -/
def Rdr (w : World) (r g o n c i : Nat) : Prop := ∃ p : Int, Blk w r 85 #[.slice (some ⟨g, o, none⟩) n c, .int .i64 i, .int .i64 p]
theorem Rdr.drewN {w : World} {r g o n c i : Nat} (h : Rdr w r g o n c i) (k : Nat) : Rdr (w.drewN k) r g o n c i := h
theorem Rdr.lt {w : World} {r g o n c i : Nat} (h : Rdr w r g o n c i) : r < w.heap.size := by obtain ⟨p, h⟩ := h; exact h.lt
theorem Rdr.old {w w' : World} {r g o n c i : Nat} (h : Rdr w r g o n c i) (hb : Below w.heap.size w w') : Rdr w' r g o n c i := by obtain ⟨p, h⟩ := h; exact ⟨p, h.old hb⟩

set_option maxRecDepth 100000 in
theorem newReader_any (g o n c : Nat) (w : World) :
    Calls Tryz.prog 15 #[.slice (some ⟨g, o, none⟩) n c] w fun e w' => e = .returned (.pointer (some ⟨w.heap.size, 0, none⟩)) ∧ Rdr w' w.heap.size g o n c 0 ∧ Below w.heap.size w w' := by
  go_enter Tryz.func15, Tryz.ntmps15
  go_wp2_with fail
  go_ret
  exact ⟨rfl, ⟨-1, Blk.new _ _ _⟩, (Below.refl _ _).alloc (Nat.le_refl _) _⟩

set_option maxRecDepth 100000 in
theorem readByte_any (r g o n c i : Nat) (l : List UInt8) (w : World) (h : Rdr w r g o n c i) (hc : Bs w g o l) (hn : n = l.length) (hi : i < l.length) (hl : l.length ≤ 4611686018427387904) (hgr : g ≠ r) :
    Calls Tryz.prog 205 #[.pointer (some ⟨r, 0, none⟩)] w fun e w' => e = .returned (.tuple #[.int .u8 ((l[i].toNat : Nat) : Int), .nilIface]) ∧ Rdr w' r g o n c (i + 1) ∧ Kp [r] w w' := by
  obtain ⟨p, h⟩ := h
  have q2 : w.cell? ⟨r, 2, none⟩ = some (.int .i64 p) := h.cell 2
  have f2 := h.frozen 2
  have hcell : w.cell? ⟨g, o + i, none⟩ = some (.int .u8 ((l[i].toNat : Nat) : Int)) := hc i hi
  have hin : i < n := by omega
  have hln : n ≤ 4611686018427387904 := by omega
  have hb1 : decide (n ≤ i) = false := by simp; omega
  have hb2 : decide ((n : Int) ≤ (i : Int)) = false := by simp; omega
  have hglt := World.block_lt_of_cell? w _ hcell
  obtain ⟨b, hb⟩ : ∃ b, l[i].toNat = b := ⟨_, rfl⟩
  rw [hb] at hcell ⊢
  clear hn hi hl hb hc
  go_enter Tryz.func205, Tryz.ntmps205
  go_wp2_with fail
  have B1 := h.set_ 2 (.int .i64 (-1))
  have k1 : Kp [r] w (w.setCell ⟨r, 2, none⟩ (.int .i64 (-1))) := (Kp.refl _ _).setCell (p := ⟨r, 2, none⟩) (.inl (by simp)) _
  clear q2 f2 h
  generalize w.setCell ⟨r, 2, none⟩ (.int .i64 (-1)) = W at *
  have hcW : W.cell? ⟨g, o + i, none⟩ = some (.int .u8 b) := (k1.cell (p := ⟨g, o + i, none⟩) hglt (by simpa using hgr)).trans hcell
  have q0 : W.cell? ⟨r, 0, none⟩ = some (.slice (some ⟨g, o, none⟩) n c) := B1.cell 0
  have q1 : W.cell? ⟨r, 1, none⟩ = some (.int .i64 i) := B1.cell 1
  have f1 := B1.frozen 1
  go_quiet (fail)
  go_wp2_with fail
  go_quiet (fail)
  go_wp2_with fail
  go_ret2
  refine ⟨rfl, ⟨-1, ?_⟩, ?_⟩
  · exact (B1.drewN _).set_ 1 (.int .i64 (i + 1))
  · exact (k1.drewN _).setCell (p := ⟨r, 1, none⟩) (.inl (by simp)) _

set_option maxRecDepth 100000 in
theorem readByte_end (r g o n c : Nat) (vE : Value) (w : World) (h : Rdr w r g o n c n) (_hn : n ≤ 4611686018427387904) (hE : w.cell? ⟨2, 0, none⟩ = some vE) (hr : r ≠ 2) :
    Calls Tryz.prog 205 #[.pointer (some ⟨r, 0, none⟩)] w fun e w' => e = .returned (.tuple #[.int .u8 0, vE]) ∧ Rdr w' r g o n c n ∧ Kp [r] w w' := by
  obtain ⟨p, h⟩ := h
  have q2 : w.cell? ⟨r, 2, none⟩ = some (.int .i64 p) := h.cell 2
  have f2 := h.frozen 2
  have hglt := World.block_lt_of_cell? w _ hE
  go_enter Tryz.func205, Tryz.ntmps205
  go_wp2_with fail
  have B1 := h.set_ 2 (.int .i64 (-1))
  have k1 : Kp [r] w (w.setCell ⟨r, 2, none⟩ (.int .i64 (-1))) := (Kp.refl _ _).setCell (p := ⟨r, 2, none⟩) (.inl (by simp)) _
  clear q2 f2 h
  generalize w.setCell ⟨r, 2, none⟩ (.int .i64 (-1)) = W at *
  have hEW : W.cell? ⟨2, 0, none⟩ = some vE := (k1.cell (p := ⟨2, 0, none⟩) hglt (by simp; omega)).trans hE
  have q0 : W.cell? ⟨r, 0, none⟩ = some (.slice (some ⟨g, o, none⟩) n c) := B1.cell 0
  have q1 : W.cell? ⟨r, 1, none⟩ = some (.int .i64 n) := B1.cell 1
  go_quiet (fail)
  go_wp2_with fail
  go_quiet (fail)
  go_wp2_with fail
  go_ret2
  exact ⟨rfl, ⟨-1, (B1.drewN _).drewN _⟩, (k1.drewN _).drewN _⟩

/-! ### Errors by their addresses -/
/-- Variable number g holds the error that lies at a. -/
def Ee (w : World) (g : Nat) (a : Addr) : Prop := w.cell? ⟨g, 0, none⟩ = some (.iface 110 (.pointer (some a)))
/-- What '==' wants of the block where an error lies. -/
def Eh (w : World) (a : Addr) : Prop := ∃ c t, w.heap[a.block]? = some (.cells c t (0, 0))
theorem Eh.lt {w : World} {a : Addr} (h : Eh w a) : a.block < w.heap.size := by
  obtain ⟨c, t, h⟩ := h
  rcases Nat.lt_or_ge a.block w.heap.size with hlt | hge
  · exact hlt
  · rw [Array.getElem?_eq_none hge] at h; cases h
theorem Eh.old {w w' : World} {a : Addr} (h : Eh w a) (hb : Below w.heap.size w w') : Eh w' a := by
  have hlt := h.lt
  obtain ⟨c, t, h⟩ := h
  exact ⟨c, t, (hb.block a.block hlt).trans h⟩
theorem Ee.er {w : World} {g : Nat} {a : Addr} (h : Ee w g a) : Er w g := ⟨_, _, h⟩
theorem Ee.old {w w' : World} {g : Nat} {a : Addr} (h : Ee w g a) (hb : Below w.heap.size w w') : Ee w' g a := (hb.cell (p := ⟨g, 0, none⟩) (World.block_lt_of_cell? w _ h)).trans h
theorem Ee.kp {w w' : World} {L : List Nat} {g : Nat} {a : Addr} (h : Ee w g a) (hb : Kp L w w') (hg : g ∉ L) : Ee w' g a := (hb.cell (p := ⟨g, 0, none⟩) (World.block_lt_of_cell? w _ h) hg).trans h

theorem isComp : (Tryz.prog.info? 110).map (·.comparable) = some true := by kernel_rfl
theorem isSize : (Tryz.prog.info? 112).map (·.size) = some 1 := by kernel_rfl
theorem eql_same (a : Addr) (W : World) : (binOp .eql 49 (.iface 110 (.pointer (some a))) (.iface 110 (.pointer (some a)))).run Tryz.prog W = .ok (.bool true) W := by
  obtain ⟨i, hi, hcmp⟩ := Option.map_eq_some_iff.1 isComp
  obtain ⟨j, hj, hjs⟩ := Option.map_eq_some_iff.1 isSize
  exact run_eql_iface_ptr_same (P := Tryz.prog) W a Tryz.underlying49 Tryz.underlying110 hi hcmp hj
theorem eql_other {a b : Addr} {W : World} (h : a ≠ b) (ha : Eh W a) (hb : Eh W b) : (binOp .eql 49 (.iface 110 (.pointer (some a))) (.iface 110 (.pointer (some b)))).run Tryz.prog W = .ok (.bool false) W := by
  obtain ⟨i, hi, hcmp⟩ := Option.map_eq_some_iff.1 isComp
  obtain ⟨j, hj, hjs⟩ := Option.map_eq_some_iff.1 isSize
  obtain ⟨_, _, ha⟩ := ha
  obtain ⟨_, _, hb⟩ := hb
  exact run_eql_iface_ptr_other (P := Tryz.prog) W Tryz.underlying49 Tryz.underlying110 hi hcmp hj (by rw [hjs]; decide) h ha hb

/-- Below block number B, but for the blocks of L, all is as it was. -/
structure Kb (B : Nat) (L : List Nat) (w w' : World) : Prop where
  os : w'.os = w.os
  tape : w'.tape = w.tape
  output : w'.output = w.output
  size : w.heap.size ≤ w'.heap.size
  block : ∀ k, k < B → k ∉ L → w'.heap[k]? = w.heap[k]?
section
variable {B : Nat} {L : List Nat} {a b c : World}
theorem Kb.refl : Kb B L a a := ⟨rfl, rfl, rfl, Nat.le_refl _, fun _ _ _ => rfl⟩
theorem Kb.trans (h : Kb B L a b) (k : Kb B L b c) : Kb B L a c :=
  ⟨k.os.trans h.os, k.tape.trans h.tape, k.output.trans h.output, Nat.le_trans h.size k.size, fun i hi hn => (k.block i hi hn).trans (h.block i hi hn)⟩
theorem Kb.drewN (h : Kb B L a b) (n : Nat) : Kb B L a (b.drewN n) := ⟨h.os, h.tape, h.output, h.size, h.block⟩
theorem Kb.cell {p : Addr} (h : Kb B L a b) (hp : p.block < B) (hn : p.block ∉ L) : b.cell? p = a.cell? p := World.cell?_of_block (h.block p.block hp hn)
theorem Kb.of_below (h : Below B a b) (L : List Nat) : Kb B L a b := ⟨h.os, h.tape, h.output, h.size, fun k hk _ => h.block k hk⟩
theorem Kb.below (h : Kb B [] a b) : Below B a b := ⟨h.os, h.tape, h.output, h.size, fun k hk => h.block k hk (by simp)⟩
theorem Kb.alloc (h : Kb B L a b) (hB : B ≤ b.heap.size) (o : Obj) : Kb B L a (b.alloc o) := h.trans ⟨rfl, rfl, rfl, by simp, fun k hk _ => Below.heap_alloc _ _ _ (Nat.lt_of_lt_of_le hk hB)⟩
theorem Kb.setCell (h : Kb B L a b) {p : Addr} (hp : p.block ∈ L ∨ B ≤ p.block) (u : Value) : Kb B L a (b.setCell p u) :=
  h.trans ⟨rfl, rfl, rfl, by simp [World.setCell], fun k hk hn => Below.heap_setCell _ _ _ _ (by
    rcases hp with h | h
    · rintro rfl; exact hn h
    · rintro rfl; omega)⟩
theorem Kb.setCells {g : Nat} (hg : g ∈ L ∨ B ≤ g) : ∀ (vs : List Value) (o : Nat) (b : World), Kb B L a b → Kb B L a (b.setCells g o vs)
  | [], _, _, h => h
  | v :: vs, o, _, h => Kb.setCells hg vs (o + 1) _ (h.setCell (p := ⟨g, o, none⟩) hg v)
theorem Ee.kb {g : Nat} {x : Addr} (h : Ee a g x) (k : Kb B L a b) (hB : g < B) (hg : g ∉ L) : Ee b g x := (k.cell (p := ⟨g, 0, none⟩) hB hg).trans h
end


theorem below_kp {B : Nat} {a b c : World} {L : List Nat} (h : Below B a b) (k : Kp L b c) (hB : B ≤ b.heap.size) (hL : ∀ i ∈ L, B ≤ i) : Below B a c :=
  ⟨k.os.trans h.os, k.tape.trans h.tape, k.output.trans h.output, Nat.le_trans h.size k.size, fun i hi => (k.block i (by omega) (fun hm => by have := hL i hm; omega)).trans (h.block i hi)⟩
theorem Ee.lt {w : World} {g : Nat} {a : Addr} (h : Ee w g a) : g < w.heap.size := World.block_lt_of_cell? w _ h
theorem Kb.kp {L l : List Nat} {a b : World} (h : Kb a.heap.size L a b) (hl : ∀ i ∈ L, i ∈ l) : Kp l a b := ⟨h.os, h.tape, h.output, h.size, fun k hk hn => h.block k hk (fun hm => hn (hl k hm))⟩
theorem Kp.of_setCells {l : List Nat} {a : World} {g : Nat} (hg : g ∈ l ∨ a.heap.size ≤ g) : ∀ (vs : List Value) (o : Nat) (b : World), Kp l a b → Kp l a (b.setCells g o vs)
  | [], _, _, h => h
  | v :: vs, o, _, h => Kp.of_setCells hg vs (o + 1) _ (h.setCell (p := ⟨g, o, none⟩) hg v)
theorem add_at (g o j : Nat) : (⟨g, o, none⟩ : Addr).add j = ⟨g, o + j, none⟩ := by unfold Addr.add; split <;> simp_all
theorem bytes_one (l : List UInt8) : ∀ v ∈ Lib.byteCells l, v.oneCell' = true := by
  intro v hv
  obtain ⟨x, _, rfl⟩ := List.mem_map.1 hv
  rfl
theorem bs_src {w : World} {g o : Nat} {l : List UInt8} (h : Bs w g o l) : ∀ j v, (Lib.byteCells l)[j]? = some v → w.cell? ((⟨g, o, none⟩ : Addr).add j) = some v := by
  intro j v hj
  obtain ⟨hlt, rfl⟩ := List.getElem?_eq_some_iff.1 hj
  rw [Lib.byteCells_length] at hlt
  have := h j hlt
  rw [add_at, this]
  simp [Lib.byteCells]

set_option maxRecDepth 100000 in
set_option maxHeartbeats 2000000 in
theorem rdRead_end (r g o n c : Nat) (vE b : Value) (w : World) (h : Rdr w r g o n c n) (_hn : n ≤ 4611686018427387904) (hE : w.cell? ⟨2, 0, none⟩ = some vE) :
    Calls Tryz.prog 204 #[.pointer (some ⟨r, 0, none⟩), b] w fun e w' => e = .returned (.tuple #[.int .i64 0, vE]) ∧ w'.heap = w.heap ∧ ∀ B L, Kb B L w w' := by
  obtain ⟨p, h⟩ := h
  have q0 : w.cell? ⟨r, 0, none⟩ = some (.slice (some ⟨g, o, none⟩) n c) := h.cell 0
  have q1 : w.cell? ⟨r, 1, none⟩ = some (.int .i64 n) := h.cell 1
  clear h
  go_enter Tryz.func204, Tryz.ntmps204
  go_wp2_with fail
  go_quiet (fail)
  go_wp2_with fail
  go_quiet (fail)
  go_wp2_with fail
  go_ret2
  exact ⟨rfl, rfl, fun B L => (Kb.refl.drewN _).drewN _⟩

set_option maxRecDepth 100000 in
set_option maxHeartbeats 2000000 in
theorem rdRead_some (r g o n c i gd od m cd k : Nat) (l : List UInt8) (A zs : List Value) (t : TypeId) (w : World) (h : Rdr w r g o n c i) (hc : Bs w g o l) (hn : n = l.length) (hi : i < n) (hnc : n ≤ c) (hl : l.length ≤ 2147483647)
    (hd : Blk w gd t (A ++ zs).toArray) (hA : A.length = od) (hz : m ≤ zs.length) (hk : k = min m (n - i)) (hgr : gd ≠ r) (hgg : g ≠ gd) (hg : g ≠ r) :
    Calls Tryz.prog 204 #[.pointer (some ⟨r, 0, none⟩), .slice (some ⟨gd, od, none⟩) m cd] w fun e w' => e = .returned (.tuple #[.int .i64 k, .nilIface]) ∧ Rdr w' r g o n c (i + k) ∧
      Blk w' gd t ((A ++ Lib.byteCells ((l.drop i).take k)) ++ zs.drop k).toArray ∧ (∀ B L, (r ∈ L ∨ B ≤ r) → (gd ∈ L ∨ B ≤ gd) → Kb B L w w') := by
  obtain ⟨i0, hi0, hz0, hz1, hz2⟩ := info_parts info5
  obtain ⟨p, h⟩ := h
  have q0 : w.cell? ⟨r, 0, none⟩ = some (.slice (some ⟨g, o, none⟩) n c) := h.cell 0
  have q1 : w.cell? ⟨r, 1, none⟩ = some (.int .i64 i) := h.cell 1
  have q2 : w.cell? ⟨r, 2, none⟩ = some (.int .i64 p) := h.cell 2
  have f2 := h.frozen 2
  have hdec : decide (n ≤ i) = false := by simp; omega
  have hci : ¬ c = i := by omega
  have hin : i ≤ n := by omega
  have hnl : n ≤ 2147483647 := by omega
  have hlen : (Lib.byteCells ((l.drop i).take k)).length = k := by rw [Lib.byteCells_length, List.length_take, List.length_drop]; omega
  have hil : i < l.length := by omega
  clear hn
  have HN := Lib.hid hlen
  clear hlen
  go_enter Tryz.func204, Tryz.ntmps204
  go_wp2_with fail
  go_quiet (fail)
  have hk0 : ∀ j B L, Kb B L w (w.drewN j) := fun j B L => Kb.refl.drewN j
  have hh := fun j => h.drewN j
  have hhc := fun j => hc.drewN j
  have hhd := fun j => hd.drewN j
  clear q0 q1 q2 f2
  generalize hw0 : w.drewN _ = w0
  replace h := hh nq
  replace hc := hhc nq
  replace hd := hhd nq
  replace hk0 := hk0 nq
  rw [hw0] at h hc hd hk0
  clear hh hhc hhd hw0
  have q2 : w0.cell? ⟨r, 2, none⟩ = some (.int .i64 p) := h.cell 2
  have f2 := h.frozen 2
  go_wp2_with fail
  obtain ⟨V, hV⟩ : ∃ V, w0.setCell ⟨r, 2, none⟩ (.int .i64 (-1)) = V := ⟨_, rfl⟩
  rw [hV]
  obtain ⟨W, hW⟩ : ∃ W, V.drew = W := ⟨_, rfl⟩
  have BW : Blk W r 85 #[.slice (some ⟨g, o, none⟩) n c, .int .i64 i, .int .i64 (-1)] := by rw [← hW, ← hV]; exact (h.set_ 2 (.int .i64 (-1))).drew
  have DW : Blk W gd t (A ++ zs).toArray := by rw [← hW, ← hV]; exact (hd.far hgr _).drew
  have hcW : Bs W g o l := by rw [← hW, ← hV]; exact (hc.far hg _).drewN 1
  have hcs : Bs W g (o + i) ((l.drop i).take k) := by
    refine Bs.take ?_ k
    intro j hj
    simp only [List.length_drop] at hj
    rw [List.getElem_drop, show o + i + j = o + (i + j) from by omega]
    exact hcW (i + j) (by omega)
  have kW : ∀ B L, (r ∈ L ∨ B ≤ r) → Kb B L w W := fun B L hB => by rw [← hW, ← hV]; exact ((hk0 B L).setCell (p := ⟨r, 2, none⟩) hB _).drewN 1
  have hcp := run_copy_cells (P := Tryz.prog) W 45 45 3 5 gd od m cd ⟨g, o + i, none⟩ (n - i) (c - i) (Lib.byteCells ((l.drop i).take k)) Tryz.underlying45 (by rw [hi0]; exact congrArg some hz1)
    (by rw [HN.out, hk]; exact Nat.min_comm _ _) (bs_src hcs) (by
      intro j hj
      rw [HN.out] at hj
      exact (blk_some DW (by rw [List.length_append]; omega)).1) (by
      intro j hj
      exact DW.frozen _) (bytes_one _)
  rw [HN.out] at hcp
  have DX := blk_mid DW od hA (Lib.byteCells ((l.drop i).take k)) (by rw [HN.out]; omega)
  rw [HN.out] at DX
  have BX : Blk (W.setCells gd od (Lib.byteCells ((l.drop i).take k))) r 85 #[.slice (some ⟨g, o, none⟩) n c, .int .i64 i, .int .i64 (-1)] :=
    BW.kp (Kp.of_setCells (l := [gd]) (by simp) _ _ _ (Kp.refl _ _)) (by simpa using fun h => hgr h.symm)
  have kX : ∀ B L, (r ∈ L ∨ B ≤ r) → (gd ∈ L ∨ B ≤ gd) → Kb B L w (W.setCells gd od (Lib.byteCells ((l.drop i).take k))) := fun B L h1 h2 => Kb.setCells h2 _ _ _ (kW B L h1)
  have w0c : W.cell? ⟨r, 0, none⟩ = some (.slice (some ⟨g, o, none⟩) n c) := BW.cell 0
  have w1c : W.cell? ⟨r, 1, none⟩ = some (.int .i64 i) := BW.cell 1
  obtain ⟨X, hX⟩ : ∃ X, W.setCells gd od (Lib.byteCells ((l.drop i).take k)) = X := ⟨_, rfl⟩
  rw [hX] at hcp DX BX kX
  have x1 : X.cell? ⟨r, 1, none⟩ = some (.int .i64 i) := BX.cell 1
  have g1 := BX.frozen 1
  have hik : i + k ≤ n := by omega
  have hkn : (k : Int) + (i : Int) ≤ 2147483647 := by omega
  have v0 : V.cell? ⟨r, 0, none⟩ = some (.slice (some ⟨g, o, none⟩) n c) := by rw [← w0c, ← hW]; rfl
  have v1 : V.cell? ⟨r, 1, none⟩ = some (.int .i64 i) := by rw [← w1c, ← hW]; rfl
  have hXe := Lib.hid hX
  have hWe := Lib.hid hW
  clear hX hW hV kW BW DW hcW hcs hc hd hi hk h hk0 q2 f2 w0c w1c
  go_still_tail 10, (by kernel_rfl)
  change wpList _ _ _ _ _ V.drew
  rw [hWe.out]
  go_wp2_with fail
  go_ret2
  refine ⟨rfl, ⟨-1, ?_⟩, DX.far hgr _, fun B L h1 h2 => (kX B L h1 h2).setCell (p := ⟨r, 1, none⟩) h1 _⟩
  have e : ((i + k : Nat) : Int) = (i : Int) + (k : Int) := by omega
  rw [e]
  exact BX.set_ 1 _

theorem rdr_heap {w w' : World} {r g o n c i : Nat} (hh : w'.heap = w.heap) (h : Rdr w r g o n c i) : Rdr w' r g o n c i := by
  obtain ⟨p, h⟩ := h
  exact ⟨p, by unfold Blk; rw [hh]; exact h⟩

/-- What ReadFull comes to, of a reader that stands at number i of the bytes l, into the m cells behind A. -/
def RfPost (r g o n c i gd m : Nat) (l : List UInt8) (A zs : List Value) (t : TypeId) (aE aU : Addr) (w : World) (e : Ending) (w' : World) : Prop :=
  (∀ B L, (r ∈ L ∨ B ≤ r) → (gd ∈ L ∨ B ≤ gd) → Kb B L w w') ∧
    (m ≤ n - i → e = .returned (.tuple #[.int .i64 m, .nilIface]) ∧ Rdr w' r g o n c (i + m) ∧ Blk w' gd t ((A ++ Lib.byteCells ((l.drop i).take m)) ++ zs.drop m).toArray) ∧
    (n - i < m → e = .returned (.tuple #[.int .i64 (n - i : Nat), .iface 110 (.pointer (some (if i = n then aE else aU)))]))

set_option maxRecDepth 100000 in
set_option maxHeartbeats 2000000 in
theorem readAtLeast_any (r g o n c i gd od m cd : Nat) (l : List UInt8) (A zs : List Value) (t : TypeId) (aE aU : Addr) (w : World) (h : Rdr w r g o n c i) (hc : Bs w g o l) (hn : n = l.length) (hi : i ≤ n) (hnc : n ≤ c) (hl : l.length ≤ 2147483647)
    (hd : Blk w gd t (A ++ zs).toArray) (hA : A.length = od) (hz : m ≤ zs.length) (hm : m ≤ 2147483647) (hcd : m ≤ cd) (hgr : gd ≠ r) (hgg : g ≠ gd) (hg : g ≠ r)
    (hE : Ee w 2 aE) (hU : Ee w 7 aU) (gE : 2 ≠ r ∧ 2 ≠ gd) (gU : 7 ≠ r ∧ 7 ≠ gd) :
    Calls Tryz.prog 74 #[.iface 51 (.pointer (some ⟨r, 0, none⟩)), .slice (some ⟨gd, od, none⟩) m cd, .int .i64 m] w (RfPost r g o n c i gd m l A zs t aE aU w) := by
  have hmr : ∀ W, (method 424 51 (.pointer (some ⟨r, 0, none⟩)) "Read").run Tryz.prog W = .ok (204, .pointer (some ⟨r, 0, none⟩)) W := fun _ => by kernel_rfl
  have hna : ∀ W, (nilAhead 424 51 (.pointer (some ⟨r, 0, none⟩)) "Read").run Tryz.prog W = .ok (some false) W := fun _ => by kernel_rfl
  have HN := Lib.hid (And.intro hn (And.intro hi (And.intro hnc hl)))
  have HG := Lib.hid (And.intro gE (And.intro gU (And.intro hgr (And.intro hgg hg))))
  clear hn hi hnc hl gE gU hgr hgg hg
  by_cases hfit : m ≤ n - i
  · have HF := Lib.hid hfit
    clear hfit
    go_enter Tryz.func74, Tryz.ntmps74
    go_wp2_with fail
    go_loopw [6, 7] (fun x e wr => e = .nilIface ∧ ((x = .int .i64 0 ∧ wr = w ∧ 0 < m) ∨ (x = .int .i64 m ∧ Rdr wr r g o n c (i + m) ∧ Blk wr gd t ((A ++ Lib.byteCells ((l.drop i).take m)) ++ zs.drop m).toArray ∧ ∀ B L, (r ∈ L ∨ B ≤ r) → (gd ∈ L ∨ B ≤ gd) → Kb B L w wr)))
      (fun x _ _ => m - (intOf x).toNat)
    case atStart =>
      refine ⟨rfl, ?_⟩
      by_cases h0 : m = 0
      · subst h0
        exact .inr ⟨rfl, h, by simpa [Lib.byteCells] using hd, fun B L _ _ => Kb.refl⟩
      · exact .inl ⟨rfl, rfl, by omega⟩
    case round =>
      obtain ⟨rfl, ⟨rfl, rfl, h0⟩ | ⟨rfl, hR, hB, hK⟩⟩ := hrel
      · have hf := HF.out
        have hrd := rdRead_some r g o n c i gd od m cd m l A zs t wr.drew (h.drewN 1) (hc.drewN 1) HN.out.1 (by omega) HN.out.2.2.1 HN.out.2.2.2 hd.drew hA hz (by omega) HG.out.2.2.1 HG.out.2.2.2.1 HG.out.2.2.2.2
        have HR := Lib.hid hrd
        clear hrd hf
        go_wp2_with fail
        go_region_with (go_at_call 204; refine HR.out.mono ?_; rintro _ w1 ⟨rfl, hR1, hB1, hK1⟩)
        all_goals go_wp2_with fail
        exact ⟨⟨rfl, .inr ⟨rfl, hR1, hB1, fun B L h1 h2 => (Kb.refl.drewN 1).trans (hK1 B L h1 h2)⟩⟩, by simp [intOf]; omega⟩
      · go_wp2_with fail
        go_ret2
        have hf := HF.out
        exact ⟨hK, fun _ => ⟨rfl, hR, hB⟩, fun h => absurd h (by omega)⟩
  · have HF := Lib.hid hfit
    obtain ⟨k, hk⟩ : ∃ k, n - i = k := ⟨_, rfl⟩
    have hkm : k < m := by omega
    have hkz : k ≤ zs.length := by omega
    have hik : i + k = n := by have := HN.out.2.1; omega
    have HK := Lib.hid (And.intro hk hik)
    clear hfit hk hik
    go_enter Tryz.func74, Tryz.ntmps74
    go_wp2_with fail
    go_loopw [6, 7] (fun x e wr => (e = .nilIface ∧ x = .int .i64 0 ∧ wr = w ∧ 0 < k) ∨ (e = .nilIface ∧ x = .int .i64 k ∧ Rdr wr r g o n c n ∧ ∀ B L, (r ∈ L ∨ B ≤ r) → (gd ∈ L ∨ B ≤ gd) → Kb B L w wr) ∨
        (e = .iface 110 (.pointer (some aE)) ∧ x = .int .i64 k ∧ Rdr wr r g o n c n ∧ ∀ B L, (r ∈ L ∨ B ≤ r) → (gd ∈ L ∨ B ≤ gd) → Kb B L w wr))
      (fun x e _ => 2 * (m - (intOf x).toNat) + (match e with | .nilIface => 1 | _ => 0))
    case atStart =>
      by_cases h0 : k = 0
      · subst h0
        have hin : i = n := by simpa using HK.out.2
        rw [hin] at h
        exact .inr (.inl ⟨rfl, rfl, h, fun B L _ _ => Kb.refl⟩)
      · exact .inl ⟨rfl, rfl, rfl, by omega⟩
    case round =>
      obtain ⟨rfl, rfl, rfl, h0⟩ | ⟨rfl, rfl, hR, hK⟩ | ⟨rfl, rfl, hR, hK⟩ := hrel
      · have hk := HK.out
        have hrd := rdRead_some r g o n c i gd od m cd k l A zs t wr.drew (h.drewN 1) (hc.drewN 1) HN.out.1 (by omega) HN.out.2.2.1 HN.out.2.2.2 hd.drew hA hz (by omega) HG.out.2.2.1 HG.out.2.2.2.1 HG.out.2.2.2.2
        rw [hk.2] at hrd
        have HR := Lib.hid hrd
        clear hrd hk
        go_wp2_with fail
        go_region_with (go_at_call 204; refine HR.out.mono ?_; rintro _ w1 ⟨rfl, hR1, hB1, hK1⟩)
        all_goals go_wp2_with fail
        exact ⟨.inr (.inl ⟨rfl, rfl, hR1, fun B L h1 h2 => (Kb.refl.drewN 1).trans (hK1 B L h1 h2)⟩), by simp [intOf]; omega⟩
      · have hEr : Ee wr 2 aE := hE.kb (hK (wr.heap.size + w.heap.size + r + gd + 2 + 1) [r, gd] (.inl (by simp)) (.inl (by simp))) (by omega) (by simpa using HG.out.1)
        have hrd := fun cd' b => rdRead_end r g o n c (.iface 110 (.pointer (some aE))) (.slice (some ⟨gd, b, none⟩) (m - k) cd') wr.drew (hR.drewN 1) (by have := HN.out; omega) hEr
        have HR := Lib.hid hrd
        clear hrd
        have hkmI : (k : Int) ≤ (m : Int) := by omega
        have hcdk : ¬ cd = k := by omega
        go_wp2_with fail
        go_region_with (go_at_call 204; refine (HR.out _ _).mono ?_; rintro _ w1 ⟨rfl, hh, hK1⟩)
        all_goals go_wp2_with fail
        exact ⟨.inr (.inr ⟨rfl, rfl, rdr_heap hh hR, fun B L h1 h2 => (hK B L h1 h2).trans ((Kb.refl.drewN 1).trans (hK1 B L))⟩), by simp [intOf]⟩
      · have hEr : Ee wr 2 aE := hE.kb (hK (wr.heap.size + w.heap.size + r + gd + 2 + 1) [r, gd] (.inl (by simp)) (.inl (by simp))) (by omega) (by simpa using HG.out.1)
        have hUr : Ee wr 7 aU := hU.kb (hK (wr.heap.size + w.heap.size + r + gd + 7 + 1) [r, gd] (.inl (by simp)) (.inl (by simp))) (by omega) (by simpa using HG.out.2.1)
        unfold Ee at hEr hUr
        have heq := fun W => eql_same aE W
        by_cases h0 : k = 0
        · subst h0
          go_wp2_with fail
          go_ret2
          exact ⟨hK, fun h => absurd h HF.out, fun _ => by rw [HK.out.1, if_pos (by simpa using HK.out.2)]; rfl⟩
        · have hk0 : 0 < k := by omega
          go_wp2_with fail
          go_ret2
          exact ⟨hK, fun h => absurd h HF.out, fun _ => by rw [HK.out.1, if_neg (by have := HK.out.2; omega)]; rfl⟩

set_option maxRecDepth 100000 in
set_option maxHeartbeats 2000000 in
theorem readFull_any (r g o n c i gd od m cd : Nat) (l : List UInt8) (A zs : List Value) (t : TypeId) (aE aU : Addr) (w : World) (h : Rdr w r g o n c i) (hc : Bs w g o l) (hn : n = l.length) (hi : i ≤ n) (hnc : n ≤ c) (hl : l.length ≤ 2147483647)
    (hd : Blk w gd t (A ++ zs).toArray) (hA : A.length = od) (hz : m ≤ zs.length) (hm : m ≤ 2147483647) (hcd : m ≤ cd) (hgr : gd ≠ r) (hgg : g ≠ gd) (hg : g ≠ r)
    (hE : Ee w 2 aE) (hU : Ee w 7 aU) (gE : 2 ≠ r ∧ 2 ≠ gd) (gU : 7 ≠ r ∧ 7 ≠ gd) :
    Calls Tryz.prog 51 #[.iface 51 (.pointer (some ⟨r, 0, none⟩)), .slice (some ⟨gd, od, none⟩) m cd] w (RfPost r g o n c i gd m l A zs t aE aU w) := by
  have H := Lib.hid (readAtLeast_any r g o n c i gd od m cd l A zs t aE aU w h hc hn hi hnc hl hd hA hz hm hcd hgr hgg hg hE hU gE gU)
  have HI := Lib.hid hi
  clear hi hn
  go_enter Tryz.func51, Tryz.ntmps51
  go_wp2_with fail
  refine H.out.mono ?_
  rintro e w1 ⟨hK, h1, h2⟩
  by_cases hf : m ≤ n - i
  · obtain ⟨rfl, hR, hB⟩ := h1 hf
    have HF := Lib.hid (And.intro h1 (And.intro h2 hf))
    clear hf h1 h2
    go_wp2_with fail
    go_ret2
    exact ⟨hK, fun _ => ⟨rfl, hR, hB⟩, fun h => absurd h (by have := HF.out.2.2; omega)⟩
  · have he := h2 (by omega)
    have HF := Lib.hid hf
    clear hf h1 h2
    obtain ⟨K, hKK⟩ : ∃ K, n - i = K := ⟨_, rfl⟩
    obtain ⟨aX, hX⟩ : ∃ aX, (if i = n then aE else aU) = aX := ⟨_, rfl⟩
    rw [hKK, hX] at he
    have HX := Lib.hid (And.intro hKK hX)
    clear hKK hX
    subst he
    go_wp2_with fail
    go_ret2
    exact ⟨hK, fun h => absurd h HF.out, fun _ => by rw [HX.out.1, HX.out.2]; rfl⟩
end Go.Proofs.YtlafdmmjbkdkaaaGreatDoor

namespace Go.Proofs.YtlafdmmjbkdkaaaGreatDoor
open Go.RowKit

theorem rts_m (p : Nat) (W : World) : (method 424 219 (.pointer (some ⟨p, 0, none⟩)) "Read").run Tryz.prog W = .ok (237, .pointer (some ⟨p, 0, none⟩)) W := by kernel_rfl
theorem rts_na (p : Nat) (W : World) : (nilAhead 424 219 (.pointer (some ⟨p, 0, none⟩)) "Read").run Tryz.prog W = .ok (some false) W := by kernel_rfl

set_option maxRecDepth 100000 in
set_option maxHeartbeats 2000000 in
theorem rts_ral (p gd od m cd : Nat) (w : World) (Post : World → Prop) (hm : 0 < m) (hm2 : m ≤ 2147483647) (_hcd : m ≤ cd)
    (HR : Calls Tryz.prog 237 #[.pointer (some ⟨p, 0, none⟩), .slice (some ⟨gd, od, none⟩) m cd] w.drew fun e w' => e = .returned (.tuple #[.int .i64 m, .nilIface]) ∧ Post w') :
    Calls Tryz.prog 74 #[.iface 219 (.pointer (some ⟨p, 0, none⟩)), .slice (some ⟨gd, od, none⟩) m cd, .int .i64 m] w fun e w' => e = .returned (.tuple #[.int .i64 m, .nilIface]) ∧ Post w' := by
  have hmr := rts_m p
  have hna := rts_na p
  have H := Lib.hid HR
  clear HR
  go_enter Tryz.func74, Tryz.ntmps74
  go_wp2_with fail
  go_loopw [6, 7] (fun x e wr => e = .nilIface ∧ ((x = .int .i64 0 ∧ wr = w) ∨ (x = .int .i64 m ∧ Post wr))) (fun x _ _ => m - (intOf x).toNat)
  case atStart => exact ⟨rfl, .inl ⟨rfl, rfl⟩⟩
  case round =>
    obtain ⟨rfl, ⟨rfl, rfl⟩ | ⟨rfl, hP⟩⟩ := hrel
    · go_wp2_with fail
      go_region_with (go_at_call 237; refine H.out.mono ?_; rintro _ w1 ⟨rfl, hP1⟩)
      all_goals go_wp2_with fail
      all_goals exact ⟨⟨rfl, .inr ⟨rfl, hP1⟩⟩, by simp [intOf]; omega⟩
    · have HP := Lib.hid hP
      clear hP
      go_wp2_with fail
      go_ret2
      exact ⟨rfl, HP.out⟩

set_option maxRecDepth 100000 in
theorem rts_full (p gd od m cd : Nat) (w : World) (Post : World → Prop) (hm : 0 < m) (hm2 : m ≤ 2147483647) (hcd : m ≤ cd)
    (HR : Calls Tryz.prog 237 #[.pointer (some ⟨p, 0, none⟩), .slice (some ⟨gd, od, none⟩) m cd] w.drew fun e w' => e = .returned (.tuple #[.int .i64 m, .nilIface]) ∧ Post w') :
    Calls Tryz.prog 51 #[.iface 219 (.pointer (some ⟨p, 0, none⟩)), .slice (some ⟨gd, od, none⟩) m cd] w fun e w' => e = .returned (.tuple #[.int .i64 m, .nilIface]) ∧ Post w' := by
  have H := Lib.hid (rts_ral p gd od m cd w Post hm hm2 hcd HR)
  clear HR
  go_enter Tryz.func51, Tryz.ntmps51
  go_wp2_with fail
  refine H.out.mono ?_
  rintro e w1 ⟨rfl, hP⟩
  have HP := Lib.hid hP
  clear hP
  go_wp2_with fail
  go_ret2
  exact ⟨rfl, HP.out⟩

end Go.Proofs.YtlafdmmjbkdkaaaGreatDoor

namespace Go.Proofs.YtlafdmmjbkdkaaaGreatDoor
open Go.RowKit

/-- The cells of a readerToScanner over the bytes.Reader in block r. -/
def rtsC (r : Nat) (l ls b : Int) : Array Value := #[.iface 51 (.pointer (some ⟨r, 0, none⟩)), .int .u8 l, .int .u8 ls, .int .u8 b]

theorem rtsR_m (r : Nat) (W : World) : (method 424 51 (.pointer (some ⟨r, 0, none⟩)) "Read").run Tryz.prog W = .ok (204, .pointer (some ⟨r, 0, none⟩)) W := by kernel_rfl

set_option maxRecDepth 100000 in
set_option maxHeartbeats 2000000 in
theorem rtsRead1 (q r : Nat) (l ls b z : Int) (aE : Addr) (w : World) (Post : World → Prop) (h : Blk w q 221 (rtsC r l ls b)) (hls : (ls == 1) = false)
    (HR : Calls Tryz.prog 204 #[.pointer (some ⟨r, 0, none⟩), .slice (some ⟨q, 3, none⟩) 1 1] w fun e w' => e = .returned (.tuple #[.int .i64 1, .nilIface]) ∧ Blk w' q 221 (rtsC r l ls z) ∧ Ee w' 2 aE ∧ Post w') :
    Calls Tryz.prog 237 #[.pointer (some ⟨q, 0, none⟩), .slice (some ⟨q, 3, none⟩) 1 1] w fun e w' => e = .returned (.tuple #[.int .i64 1, .nilIface]) ∧
      Blk w' q 221 (rtsC r z 2 z) ∧ ∃ w1, Post w1 ∧ w' = (w1.setCell ⟨q, 1, none⟩ (.int .u8 z)).setCell ⟨q, 2, none⟩ (.int .u8 2) := by
  have hmr := rtsR_m r
  have heqn := fun W => run_eql_iface_nil_left (P := Tryz.prog) W 110 (.pointer (some aE)) Tryz.underlying49
  have q0 : w.cell? ⟨q, 0, none⟩ = some (.iface 51 (.pointer (some ⟨r, 0, none⟩))) := h.cell 0
  have q2 : w.cell? ⟨q, 2, none⟩ = some (.int .u8 ls) := h.cell 2
  have H := Lib.hid HR
  clear HR h
  go_enter Tryz.func237, Tryz.ntmps237
  go_wp2_with fail
  refine H.out.mono ?_
  rintro e w1 ⟨rfl, hB, hE, hP⟩
  have p1 : w1.cell? ⟨q, 1, none⟩ = some (.int .u8 l) := hB.cell 1
  have p2 : w1.cell? ⟨q, 2, none⟩ = some (.int .u8 ls) := hB.cell 2
  have p3 : w1.cell? ⟨q, 3, none⟩ = some (.int .u8 z) := hB.cell 3
  have f1 := hB.frozen 1
  have f2 := hB.frozen 2
  have HB := Lib.hid (And.intro hB hP)
  unfold Ee at hE
  clear hB hP q0 q2
  go_wp2_with fail
  go_ret2
  exact ⟨rfl, (HB.out.1.set_ 1 _).set_ 2 _, w1, HB.out.2, rfl⟩

set_option maxRecDepth 100000 in
set_option maxHeartbeats 2000000 in
theorem rtsRead7 (q r s : Nat) (l ls b z : Int) (aE : Addr) (w : World) (Post : World → Prop) (h : Blk w q 221 (rtsC r l ls b)) (hls : (ls == 1) = false)
    (HR : Calls Tryz.prog 204 #[.pointer (some ⟨r, 0, none⟩), .slice (some ⟨s, 1, none⟩) 7 32] w fun e w' => e = .returned (.tuple #[.int .i64 7, .nilIface]) ∧ Blk w' q 221 (rtsC r l ls b) ∧ w'.cell? ⟨s, 7, none⟩ = some (.int .u8 z) ∧ Ee w' 2 aE ∧ Post w') :
    Calls Tryz.prog 237 #[.pointer (some ⟨q, 0, none⟩), .slice (some ⟨s, 1, none⟩) 7 32] w fun e w' => e = .returned (.tuple #[.int .i64 7, .nilIface]) ∧
      Blk w' q 221 (rtsC r z 2 b) ∧ ∃ w1, Post w1 ∧ w' = (w1.setCell ⟨q, 1, none⟩ (.int .u8 z)).setCell ⟨q, 2, none⟩ (.int .u8 2) := by
  have hmr := rtsR_m r
  have heqn := fun W => run_eql_iface_nil_left (P := Tryz.prog) W 110 (.pointer (some aE)) Tryz.underlying49
  have q0 : w.cell? ⟨q, 0, none⟩ = some (.iface 51 (.pointer (some ⟨r, 0, none⟩))) := h.cell 0
  have q2 : w.cell? ⟨q, 2, none⟩ = some (.int .u8 ls) := h.cell 2
  have H := Lib.hid HR
  clear HR h
  go_enter Tryz.func237, Tryz.ntmps237
  go_wp2_with fail
  refine H.out.mono ?_
  rintro e w1 ⟨rfl, hB, p7, hE, hP⟩
  have p1 : w1.cell? ⟨q, 1, none⟩ = some (.int .u8 l) := hB.cell 1
  have p2 : w1.cell? ⟨q, 2, none⟩ = some (.int .u8 ls) := hB.cell 2
  have f1 := hB.frozen 1
  have f2 := hB.frozen 2
  have HB := Lib.hid (And.intro hB hP)
  unfold Ee at hE
  clear hB hP q0 q2
  go_wp2_with fail
  go_ret2
  exact ⟨rfl, (HB.out.1.set_ 1 _).set_ 2 _, w1, HB.out.2, rfl⟩

set_option maxRecDepth 100000 in
set_option maxHeartbeats 2000000 in
theorem rtsByte (q r g o n c i : Nat) (l ls b : Int) (t : List UInt8) (aE : Addr) (w : World) (h : Blk w q 221 (rtsC r l ls b)) (hls : (ls == 1) = false) (hr : Rdr w r g o n c i) (hc : Bs w g o t) (hn : n = t.length) (hi : i < t.length) (hnc : n ≤ c) (hl : t.length ≤ 2147483647)
    (hqr : q ≠ r) (hgq : g ≠ q) (hgr : g ≠ r) (hE : Ee w 2 aE) (gE : 2 ≠ q ∧ 2 ≠ r) :
    Calls Tryz.prog 238 #[.pointer (some ⟨q, 0, none⟩)] w fun e w' => e = .returned (.tuple #[.int .u8 ((t[i].toNat : Nat) : Int), .nilIface]) ∧
      Blk w' q 221 (rtsC r ((t[i].toNat : Nat) : Int) 2 ((t[i].toNat : Nat) : Int)) ∧ Rdr w' r g o n c (i + 1) ∧ Kp [q, r] w w' := by
  obtain ⟨z, hz⟩ : ∃ z : Nat, t[i].toNat = z := ⟨_, rfl⟩
  have ht : Lib.byteCells ((t.drop i).take 1) = [.int .u8 (z : Int)] := by
    rw [List.drop_eq_getElem_cons hi, ← hz]
    rfl
  have hql := h.lt
  have hrl := hr.lt
  have hrd := rdRead_some r g o n c i q 3 1 1 1 t [.iface 51 (.pointer (some ⟨r, 0, none⟩)), .int .u8 l, .int .u8 ls] [.int .u8 b] 221 w hr hc hn (by omega) hnc hl h rfl (by simp) (by omega) hqr hgq hgr
  rw [ht] at hrd
  have hre := rtsRead1 q r l ls b z aE w (fun w' => Rdr w' r g o n c (i + 1) ∧ Kp [q, r] w w') h hls (hrd.mono (by
    rintro e w' ⟨rfl, hR, hB, hK⟩
    have k1 : Kp [q, r] w w' := (hK w.heap.size [q, r] (.inl (by simp)) (.inl (by simp))).kp (fun _ h => h)
    exact ⟨rfl, hB, hE.kp k1 (by simp; omega), hR, k1⟩))
  have H := Lib.hid hre
  have HE := Lib.hid hE
  have heqn := fun W => run_eql_iface_nil_left (P := Tryz.prog) W 110 (.pointer (some aE)) Tryz.underlying49
  rw [hz]
  clear hrd hre hr hc hn hi hnc hl hz ht h hE
  go_enter Tryz.func238, Tryz.ntmps238
  go_wp2_with fail
  refine H.out.mono ?_
  rintro e w1 ⟨rfl, hB, w2, ⟨hR, hK⟩, hw⟩
  have p3 : w1.cell? ⟨q, 3, none⟩ = some (.int .u8 z) := hB.cell 3
  have k1 : Kp [q, r] w w1 := by
    rw [hw]
    exact (hK.setCell (p := ⟨q, 1, none⟩) (.inl (by simp)) _).setCell (p := ⟨q, 2, none⟩) (.inl (by simp)) _
  have hE1 := HE.out.kp k1 (by simp; omega)
  have hR1 : Rdr w1 r g o n c (i + 1) := by
    rw [hw]
    obtain ⟨x, R⟩ := hR
    exact ⟨x, (R.far (p := ⟨q, 1, none⟩) (fun h => hqr h.symm) _).far (p := ⟨q, 2, none⟩) (fun h => hqr h.symm) _⟩
  have HB := Lib.hid (And.intro hB (And.intro hR1 k1))
  unfold Ee at hE1
  clear hB hR hK hw hR1 k1
  go_wp2_with fail
  go_ret2
  exact ⟨rfl, HB.out.1, HB.out.2.1, HB.out.2.2⟩

/-- In block s lies a SlickReaderStream over the readerToScanner in block q; m bytes have been read. -/
def SlB (w : World) (s q : Nat) (m : Int) : Prop := ∃ sc : List Value, sc.length = 32 ∧ Blk w s 226 (.iface 219 (.pointer (some ⟨q, 0, none⟩)) :: (sc ++ [.int .i64 m, .slice none 0 0, .bool false])).toArray
theorem sl_set (x : Value) (sc : List Value) (h : sc.length = 32) (a b c v : Value) : (x :: (sc ++ [a, b, c])).set 33 v = x :: (sc ++ [v, b, c]) := by
  show x :: ((sc ++ [a, b, c]).set 32 v) = _
  rw [List.set_append_right _ _ (by omega), h]
  rfl
theorem sl_get (x : Value) (sc : List Value) (h : sc.length = 32) (a b c : Value) : (x :: (sc ++ [a, b, c]))[33]? = some a ∧ (x :: (sc ++ [a, b, c]))[35]? = some c := by
  constructor
  · show (sc ++ [a, b, c])[32]? = _
    rw [List.getElem?_append_right (by omega), h]
    rfl
  · show (sc ++ [a, b, c])[34]? = _
    rw [List.getElem?_append_right (by omega), h]
    rfl
theorem SlB.cells {w : World} {s q : Nat} {m : Int} (h : SlB w s q m) : w.cell? ⟨s, 0, none⟩ = some (.iface 219 (.pointer (some ⟨q, 0, none⟩))) ∧ w.cell? ⟨s, 33, none⟩ = some (.int .i64 m) ∧ w.cell? ⟨s, 35, none⟩ = some (.bool false) ∧ (∀ i, w.frozen? ⟨s, i, none⟩ = false) ∧ s < w.heap.size := by
  obtain ⟨sc, hs, h⟩ := h
  have := sl_get (.iface 219 (.pointer (some ⟨q, 0, none⟩))) sc hs (.int .i64 m) (.slice none 0 0) (.bool false)
  exact ⟨h.cell 0, (h.cell 33).trans (by rw [List.getElem?_toArray]; exact this.1), (h.cell 35).trans (by rw [List.getElem?_toArray]; exact this.2), h.frozen, h.lt⟩
theorem SlB.count {w : World} {s q : Nat} {m : Int} (h : SlB w s q m) (k : Int) : SlB (w.setCell ⟨s, 33, none⟩ (.int .i64 k)) s q k := by
  obtain ⟨sc, hs, h⟩ := h
  refine ⟨sc, hs, ?_⟩
  have := h.set_ 33 (.int .i64 k)
  rw [List.setIfInBounds_toArray, sl_set _ _ hs] at this
  exact this
theorem SlB.kp {w w' : World} {s q : Nat} {m : Int} {L : List Nat} (h : SlB w s q m) (k : Kp L w w') (hs : s ∉ L) : SlB w' s q m := by
  obtain ⟨sc, hl, h⟩ := h
  exact ⟨sc, hl, h.kp k hs⟩

set_option maxRecDepth 100000 in
set_option maxHeartbeats 2000000 in
theorem readn1_any (s q r g o n c i : Nat) (m l ls b : Int) (t : List UInt8) (aE : Addr) (w : World) (hS : SlB w s q m) (hm : 0 ≤ m ∧ m ≤ 1000000) (h : Blk w q 221 (rtsC r l ls b)) (hls : (ls == 1) = false) (hr : Rdr w r g o n c i) (hc : Bs w g o t) (hn : n = t.length) (hi : i < t.length) (hnc : n ≤ c) (hl : t.length ≤ 2147483647)
    (hqr : q ≠ r) (hgq : g ≠ q) (hgr : g ≠ r) (hsq : s ≠ q ∧ s ≠ r) (hE : Ee w 2 aE) (gE : 2 ≠ q ∧ 2 ≠ r) :
    Calls Tryz.prog 231 #[.pointer (some ⟨s, 0, none⟩)] w fun e w' => e = .returned (.tuple #[.int .u8 ((t[i].toNat : Nat) : Int), .nilIface]) ∧
      SlB w' s q (m + 1) ∧ Blk w' q 221 (rtsC r ((t[i].toNat : Nat) : Int) 2 ((t[i].toNat : Nat) : Int)) ∧ Rdr w' r g o n c (i + 1) ∧ Kp [s, q, r] w w' := by
  have hmr : ∀ W, (method 424 219 (.pointer (some ⟨q, 0, none⟩)) "ReadByte").run Tryz.prog W = .ok (238, .pointer (some ⟨q, 0, none⟩)) W := fun _ => by kernel_rfl
  have hby := rtsByte q r g o n c i l ls b t aE w h hls hr hc hn hi hnc hl hqr hgq hgr hE gE
  obtain ⟨z, hz⟩ : ∃ z : Nat, t[i].toNat = z := ⟨_, rfl⟩
  rw [hz] at hby ⊢
  obtain ⟨q0, _, _, _, hsl⟩ := hS.cells
  have hw : IntKind.i64.wrap (m + 1) = m + 1 := by rw [IntKind.wrap_i64]; omega
  have H := Lib.hid (And.intro hby hS)
  clear hby h hls hr hc hn hi hnc hl hE gE hz hS
  go_enter Tryz.func231, Tryz.ntmps231
  go_wp2_with fail
  refine H.out.1.mono ?_
  rintro e w1 ⟨rfl, hB, hR, hK⟩
  have S1 := H.out.2.kp hK (by simp; omega)
  obtain ⟨c0, c33, c35, cf, _⟩ := S1.cells
  have f33 := cf 33
  have HB := Lib.hid (And.intro hB (And.intro hR (And.intro hK S1)))
  clear hB hR hK S1 cf q0
  go_wp2_with fail
  go_ret2
  refine ⟨rfl, HB.out.2.2.2.count _, HB.out.1.far (p := ⟨s, 33, none⟩) (fun h => hsq.1 h.symm) _, ?_, ?_⟩
  · obtain ⟨x, R⟩ := HB.out.2.1
    exact ⟨x, R.far (p := ⟨s, 33, none⟩) (fun h => hsq.2 h.symm) _⟩
  · exact (HB.out.2.2.1.weaken (l' := [s, q, r]) (by intro j hj; left; simp at hj ⊢; omega)).setCell (p := ⟨s, 33, none⟩) (.inl (by simp)) _

set_option maxRecDepth 100000 in
set_option maxHeartbeats 2000000 in
theorem readn7_any (s q r g o n c i : Nat) (m l ls b : Int) (t : List UInt8) (aE : Addr) (w : World) (hS : SlB w s q m) (hm : 0 ≤ m ∧ m ≤ 1000000) (h : Blk w q 221 (rtsC r l ls b)) (hls : (ls == 1) = false) (hr : Rdr w r g o n c i) (hc : Bs w g o t) (hn : n = t.length) (hi : i + 7 ≤ t.length) (hnc : n ≤ c) (hl : t.length ≤ 2147483647)
    (hqr : q ≠ r) (hgq : g ≠ q) (hgr : g ≠ r) (hgs : g ≠ s) (hsq : s ≠ q ∧ s ≠ r) (hE : Ee w 2 aE) (gE : 2 ≠ q ∧ 2 ≠ r ∧ 2 ≠ s) :
    Calls Tryz.prog 232 #[.pointer (some ⟨s, 0, none⟩), .int .i64 7] w fun e w' => e = .returned (.tuple #[.slice (some ⟨s, 1, none⟩) 7 32, .nilIface]) ∧ Bs w' s 1 ((t.drop i).take 7) ∧
      SlB w' s q (m + 7) ∧ (∃ l' b', Blk w' q 221 (rtsC r l' 2 b')) ∧ Rdr w' r g o n c (i + 7) ∧ Kp [s, q, r] w w' := by
  obtain ⟨d, hd⟩ : ∃ d, (t.drop i).take 7 = d := ⟨_, rfl⟩
  have hdl : d.length = 7 := by rw [← hd, List.length_take, List.length_drop]; omega
  obtain ⟨sc, hsc, hSB⟩ := id hS
  obtain ⟨z, hz⟩ : ∃ z : Nat, (d[6]'(by omega)).toNat = z := ⟨_, rfl⟩
  have hql := h.lt
  have hrl := hr.lt
  have hsl := hSB.lt
  have hrd := rdRead_some r g o n c i s 1 7 32 7 t [.iface 219 (.pointer (some ⟨q, 0, none⟩))] (sc ++ [.int .i64 m, .slice none 0 0, .bool false]) 226 w.drew (hr.drewN 1) (hc.drewN 1) hn (by omega) hnc hl hSB.drew rfl (by simp; omega) (by omega) hsq.2 hgs hgr
  rw [hd, List.drop_append_of_le_length (by omega)] at hrd
  have hre := rtsRead7 q r s l ls b z aE w.drew (fun w' => Rdr w' r g o n c (i + 7) ∧ Kp [s, q, r] w w' ∧ Blk w' s 226 ((([.iface 219 (.pointer (some ⟨q, 0, none⟩))] : List Value) ++ Lib.byteCells d) ++ (sc.drop 7 ++ ([.int .i64 m, .slice none 0 0, .bool false] : List Value))).toArray) h.drew hls (hrd.mono (by
    rintro e w' ⟨rfl, hR, hB, hK⟩
    have k1 : Kp [s, q, r] w w' := Kb.kp (((Kb.refl (B := w.heap.size) (L := [s, q, r])).drewN 1).trans (hK w.heap.size [s, q, r] (.inl (by simp)) (.inl (by simp)))) (fun _ h => h)
    have k2 : Kb w.heap.size [s, r] w w' := ((Kb.refl (B := w.heap.size) (L := [s, r])).drewN 1).trans (hK w.heap.size [s, r] (.inl (by simp)) (.inl (by simp)))
    refine ⟨rfl, (k2.block q hql (by simp; omega)).trans h, ?_, hE.kp k1 (by simp; omega), hR, k1, hB⟩
    rw [hB.cell, List.getElem?_toArray, List.getElem?_append_left (by simp [Lib.byteCells_length]; omega), List.getElem?_append_right (by simp)]
    have h6 : (Lib.byteCells d)[6]? = some (.int .u8 ((d[6]'(by omega)).toNat : Nat)) := by
      simp only [Lib.byteCells, List.getElem?_map, List.getElem?_eq_getElem (show 6 < d.length by omega), Option.map_some]
    rw [← hz]
    exact h6))
  have hra := rts_ral q s 1 7 32 w _ (by omega) (by omega) (by omega) hre
  obtain ⟨q0, _, _, _, _⟩ := hS.cells
  have hw : IntKind.i64.wrap (m + 7) = m + 7 := by rw [IntKind.wrap_i64]; omega
  have H := Lib.hid hra
  have HD := Lib.hid (And.intro hdl (And.intro hsc hd))
  rw [hd]
  clear hrd hre hra h hls hr hc hn hi hnc hl hE gE hz hS hSB hdl hsc hd
  have HP : Calls Tryz.prog 236 #[.pointer (some ⟨s, 0, none⟩), .int .i64 7] w fun e w' => e = .returned (.tuple #[.slice (some ⟨s, 1, none⟩) 7 32, .nilIface]) ∧ Bs w' s 1 d ∧
      SlB w' s q (m + 7) ∧ (∃ l' b', Blk w' q 221 (rtsC r l' 2 b')) ∧ Rdr w' r g o n c (i + 7) ∧ Kp [s, q, r] w w' := by
    go_enter Tryz.func236, Tryz.ntmps236
    go_wp2_with fail
    refine H.out.mono ?_
    rintro e w1 ⟨rfl, hB, w2, ⟨hR, hK, hT⟩, hw12⟩
    have k1 : Kp [s, q, r] w w1 := by
      rw [hw12]
      exact (hK.setCell (p := ⟨q, 1, none⟩) (.inl (by simp)) _).setCell (p := ⟨q, 2, none⟩) (.inl (by simp)) _
    have R1 : Rdr w1 r g o n c (i + 7) := by
      rw [hw12]
      obtain ⟨x, R⟩ := hR
      exact ⟨x, (R.far (p := ⟨q, 1, none⟩) (fun h => hqr h.symm) _).far (p := ⟨q, 2, none⟩) (fun h => hqr h.symm) _⟩
    have T1 : Blk w1 s 226 (.iface 219 (.pointer (some ⟨q, 0, none⟩)) :: ((Lib.byteCells d ++ sc.drop 7) ++ [.int .i64 m, .slice none 0 0, .bool false])).toArray := by
      rw [hw12]
      have := (hT.far (p := ⟨q, 1, none⟩) hsq.1 (.int .u8 z)).far (p := ⟨q, 2, none⟩) hsq.1 (.int .u8 2)
      simpa using this
    have S1 : SlB w1 s q m := ⟨_, by rw [List.length_append, Lib.byteCells_length, HD.out.1, List.length_drop, HD.out.2.1], T1⟩
    have B1 : Bs w1 s 1 d := by
      intro j hj
      rw [T1.cell, List.getElem?_toArray, Nat.add_comm 1 j, List.getElem?_cons_succ, List.append_assoc, List.getElem?_append_left (by rw [Lib.byteCells_length]; exact hj)]
      simp only [Lib.byteCells, List.getElem?_map, List.getElem?_eq_getElem hj, Option.map_some]
    obtain ⟨_, c33, c35, cf, _⟩ := S1.cells
    have f33 := cf 33
    have HB := Lib.hid (And.intro hB (And.intro R1 (And.intro k1 (And.intro S1 (And.intro B1 T1)))))
    clear hB hR hK hT hw12 k1 R1 S1 cf q0 B1 T1
    go_wp2_with fail
    go_ret2
    refine ⟨rfl, ?_, HB.out.2.2.2.1.count _, ⟨_, _, HB.out.1.far (p := ⟨s, 33, none⟩) (fun h => hsq.1 h.symm) _⟩, ?_, ?_⟩
    · intro j hj
      rw [World.cell?_setCell_other (h := by intro e; have := congrArg Addr.off e; simp at this; have := HD.out.1; omega)]
      exact HB.out.2.2.2.2.1 j hj
    · obtain ⟨x, R⟩ := HB.out.2.1
      exact ⟨x, R.far (p := ⟨s, 33, none⟩) (fun h => hsq.2 h.symm) _⟩
    · exact HB.out.2.2.1.setCell (p := ⟨s, 33, none⟩) (.inl (by simp)) _
  have HPP := Lib.hid HP
  clear HP H q0
  go_enter Tryz.func232, Tryz.ntmps232
  go_wp2_with fail
  refine HPP.out.mono ?_
  rintro e w1 ⟨rfl, hx⟩
  have HX := Lib.hid hx
  clear hx
  go_wp2_with fail
  go_ret2
  exact ⟨rfl, HX.out⟩
end Go.Proofs.YtlafdmmjbkdkaaaGreatDoor
