/-
  Frames of calls ('Stay', 'Kp') and the last step of a law's row, of whatever parameters. Conditions: none; plain lemmas over any program.
  What the table says of a byte. Conditions: none.
-/
import Derived.WalkKit
import Derived.WalkLawsBesides
import Derived.WalkSpells
import Derived.ProofKit
import Derived.OpenShut
import Derived.Lib.Hide
import Derived.Lib.SmallJoins
import Derived.Lib.ConvBytes
import Derived.Laws.BytesArg
import Derived.Lib.UnsafeStr
import Derived.Test.YtcljffldbnoljaaGreatDoorProg
namespace Go.Proofs.YtcljffldbnoljaaGreatDoor
open Go.ChangeShapes Go.WideShapes Go.ChangeAt Go.RowKit

/-! ### What a region needs of the world that calls leave -/
/-- W': nothing below W's size has turned, said twice. -/
theorem stay_drew (W : World) : Below W.heap.size W W.drew ∧ ∀ b o, b < W.heap.size → W.drew.cell? ⟨b, o, none⟩ = W.cell? ⟨b, o, none⟩ :=
  ⟨(Below.refl _ _).drew, fun _ _ _ => rfl⟩
theorem stay_below {W w0 w1 : World} (h : Below W.heap.size W w0 ∧ ∀ b o, b < W.heap.size → w0.cell? ⟨b, o, none⟩ = W.cell? ⟨b, o, none⟩) (h1 : Below w0.heap.size w0 w1) :
    Below W.heap.size W w1 ∧ ∀ b o, b < W.heap.size → w1.cell? ⟨b, o, none⟩ = W.cell? ⟨b, o, none⟩ :=
  have h2 := h.1.trans (h1.mono h.1.size)
  ⟨h2, fun b o hb => h2.cell (p := ⟨b, o, none⟩) hb⟩
theorem stay_alloc {W w0 : World} (h : Below W.heap.size W w0 ∧ ∀ b o, b < W.heap.size → w0.cell? ⟨b, o, none⟩ = W.cell? ⟨b, o, none⟩) (o : Obj) :
    Below W.heap.size W (w0.alloc o) ∧ ∀ b o', b < W.heap.size → (w0.alloc o).cell? ⟨b, o', none⟩ = W.cell? ⟨b, o', none⟩ :=
  have h2 := h.1.alloc h.1.size o
  ⟨h2, fun b o hb => h2.cell (p := ⟨b, o, none⟩) hb⟩

/-- What the walk wants behind a contract: all old cells and marks read as before. -/
theorem bcell {W w1 : World} (hb : Below W.heap.size W w1) : (∀ b o, b < W.heap.size → w1.cell? ⟨b, o, none⟩ = W.cell? ⟨b, o, none⟩) ∧ (∀ b o, b < W.heap.size → w1.frozen? ⟨b, o, none⟩ = W.frozen? ⟨b, o, none⟩) :=
  ⟨fun b o h => hb.cell (p := ⟨b, o, none⟩) h, fun b o h => hb.frozen (p := ⟨b, o, none⟩) h⟩
/-- 'Below' at the old size, twice. -/
theorem Old.trans {a b c : World} (h : Below a.heap.size a b) (k : Below b.heap.size b c) : Below a.heap.size a c := h.trans (k.mono h.size)
theorem Old.alloc {a b : World} (h : Below a.heap.size a b) (o : Obj) : Below a.heap.size a (b.alloc o) := RowKit.Below.alloc h h.size o

theorem results_tmp4 {fn : Func} {t u v x : Tmp} (h : fn.results = #[.tmp t, .tmp u, .tmp v, .tmp x]) (tmps : Array Value) (P : Program) (w : World) :
    (results fn tmps).run P w = .ok (.tuple #[tmps.getD t undef, tmps.getD u undef, tmps.getD v undef, tmps.getD x undef]) w := by simp [results, h]
theorem results_tmp5 {fn : Func} {t u v x y : Tmp} (h : fn.results = #[.tmp t, .tmp u, .tmp v, .tmp x, .tmp y]) (tmps : Array Value) (P : Program) (w : World) :
    (results fn tmps).run P w = .ok (.tuple #[tmps.getD t undef, tmps.getD u undef, tmps.getD v undef, tmps.getD x undef, tmps.getD y undef]) w := by simp [results, h]


/-! ### Only the blocks of a list have turned -/
/-- Of what was there only the blocks of l may have turned; no block has gone. -/
structure Kp (l : List Nat) (w w' : World) : Prop where
  os : w'.os = w.os
  tape : w'.tape = w.tape
  output : w'.output = w.output
  size : w.heap.size ≤ w'.heap.size
  block : ∀ k, k < w.heap.size → k ∉ l → w'.heap[k]? = w.heap[k]?

theorem Kp.refl (l : List Nat) (w : World) : Kp l w w := ⟨rfl, rfl, rfl, Nat.le_refl _, fun _ _ _ => rfl⟩
theorem Kp.of_below {w w' : World} (h : Below w.heap.size w w') (l : List Nat) : Kp l w w' := ⟨h.os, h.tape, h.output, h.size, fun k hk _ => h.block k hk⟩
theorem Kp.below {w w' : World} (h : Kp [] w w') : Below w.heap.size w w' := ⟨h.os, h.tape, h.output, h.size, fun k hk => h.block k hk (by simp)⟩
theorem Kp.trans {l : List Nat} {a b c : World} (h : Kp l a b) (k : Kp l b c) : Kp l a c :=
  ⟨k.os.trans h.os, k.tape.trans h.tape, k.output.trans h.output, Nat.le_trans h.size k.size, fun i hi hn => (k.block i (Nat.lt_of_lt_of_le hi h.size) hn).trans (h.block i hi hn)⟩
/-- The second step may turn, besides what l lists, whatever the first step made. -/
theorem Kp.step {l l' : List Nat} {a b c : World} (h : Kp l a b) (k : Kp l' b c) (hl : ∀ i ∈ l', i ∈ l ∨ a.heap.size ≤ i) : Kp l a c :=
  ⟨k.os.trans h.os, k.tape.trans h.tape, k.output.trans h.output, Nat.le_trans h.size k.size, fun i hi hn => (k.block i (Nat.lt_of_lt_of_le hi h.size) (fun hm => by
    rcases hl i hm with h1 | h1
    · exact hn h1
    · omega)).trans (h.block i hi hn)⟩
theorem Kp.weaken {l l' : List Nat} {a b : World} (h : Kp l a b) (hl : ∀ i ∈ l, i ∈ l' ∨ a.heap.size ≤ i) : Kp l' a b :=
  (Kp.refl l' a).step h hl
theorem Kp.old {l : List Nat} {a b c : World} (h : Kp l a b) (k : Below b.heap.size b c) : Kp l a c := h.trans (Kp.of_below k l)
theorem Kp.drew {l : List Nat} {a b : World} (h : Kp l a b) : Kp l a b.drew := ⟨h.os, h.tape, h.output, h.size, h.block⟩
theorem Kp.drewN {l : List Nat} {a b : World} (h : Kp l a b) (n : Nat) : Kp l a (b.drewN n) := ⟨h.os, h.tape, h.output, h.size, h.block⟩
theorem Kp.alloc {l : List Nat} {a b : World} (h : Kp l a b) (o : Obj) : Kp l a (b.alloc o) :=
  h.trans ⟨rfl, rfl, rfl, by simp, fun k hk _ => Below.heap_alloc _ _ _ hk⟩
theorem Kp.setCell {l : List Nat} {a b : World} (h : Kp l a b) {p : Addr} (hp : p.block ∈ l ∨ a.heap.size ≤ p.block) (u : Value) : Kp l a (b.setCell p u) :=
  h.step (l' := [p.block]) ⟨rfl, rfl, rfl, by simp [World.setCell], fun k _ hn => Below.heap_setCell _ _ _ _ (by simpa using hn)⟩ (by simpa using hp)
theorem Kp.grown {l : List Nat} {a w w' : World} {row : Option Nat} (h : Kp l a w) (hg : w.grownBy w' row) (hr : ∀ k, row = some k → k ∈ l ∨ a.heap.size ≤ k) : Kp l a w' :=
  h.step (l' := row.toList) ⟨hg.os, hg.tape, hg.output, hg.size, fun k hk hn => hg.block k hk (fun e => hn (by rw [← e]; simp))⟩ (fun i hi => hr i (by simpa using hi))
theorem grown_old {a w w' : World} {v : Value} {e : TypeId} {size n : Nat} {xs : List Value} (h : Below a.heap.size a w) (hown : w.ownsRow a.heap.size e size v n xs) (hg : w.grownBy w' v.ownBlock) : Below a.heap.size a w' :=
  h.grown hg h.size (fun k hk => (hown.lt k hk).1)
theorem Kp.cell {l : List Nat} {w w' : World} (h : Kp l w w') {p : Addr} (hp : p.block < w.heap.size) (hn : p.block ∉ l) : w'.cell? p = w.cell? p := World.cell?_of_block (h.block p.block hp hn)
theorem Kp.frozen {l : List Nat} {w w' : World} (h : Kp l w w') {p : Addr} (hp : p.block < w.heap.size) (hn : p.block ∉ l) : w'.frozen? p = w.frozen? p := World.frozen?_of_block (h.block p.block hp hn)

/-! ### A block that is known whole -/
def Blk (w : World) (g : Nat) (t : TypeId) (cs : Array Value) : Prop := w.heap[g]? = some (.cells cs t (0, 0))
section
variable {w w' : World} {g : Nat} {t : TypeId} {cs : Array Value}
theorem Blk.lt (h : Blk w g t cs) : g < w.heap.size := by
  rcases Nat.lt_or_ge g w.heap.size with hlt | hge
  · exact hlt
  · unfold Blk at h; rw [Array.getElem?_eq_none hge] at h; cases h
theorem Blk.cell (h : Blk w g t cs) (i : Nat) : w.cell? ⟨g, i, none⟩ = cs[i]? := by
  unfold Blk at h; simp [World.cell?, h]
theorem Blk.frozen (h : Blk w g t cs) (i : Nat) : w.frozen? ⟨g, i, none⟩ = false := by
  unfold Blk at h
  simp [World.frozen?, h]
theorem Blk.new (w : World) (t : TypeId) (cs : Array Value) : Blk (w.alloc (.cells cs t)) w.heap.size t cs := heap_alloc_new w _
theorem Blk.drew (h : Blk w g t cs) : Blk w.drew g t cs := h
theorem Blk.drewN (h : Blk w g t cs) (n : Nat) : Blk (w.drewN n) g t cs := h
theorem Blk.alloc (h : Blk w g t cs) (o : Obj) : Blk (w.alloc o) g t cs := (Below.heap_alloc w o g h.lt).trans h
theorem Blk.set_ (h : Blk w g t cs) (i : Nat) (u : Value) : Blk (w.setCell ⟨g, i, none⟩ u) g t (cs.setIfInBounds i u) := by
  unfold Blk at h ⊢
  simp [World.setCell, Array.getElem?_modify, h]
theorem Blk.far (h : Blk w g t cs) {p : Addr} (hp : g ≠ p.block) (u : Value) : Blk (w.setCell p u) g t cs := (Below.heap_setCell w p u g hp).trans h
theorem Blk.below {B : Nat} (h : Blk w g t cs) (hb : Below B w w') (hg : g < B) : Blk w' g t cs := (hb.block g hg).trans h
theorem Blk.old (h : Blk w g t cs) (hb : Below w.heap.size w w') : Blk w' g t cs := (hb.block g h.lt).trans h
theorem Blk.kp {l : List Nat} (h : Blk w g t cs) (hb : Kp l w w') (hg : g ∉ l) : Blk w' g t cs := (hb.block g h.lt hg).trans h
theorem Blk.grown {row : Option Nat} (h : Blk w g t cs) (hb : w.grownBy w' row) (hg : some g ≠ row) : Blk w' g t cs := (hb.block g h.lt hg).trans h
end

/-- A block whose cells have all been written, one behind the other. -/
theorem blk_setCells {g : Nat} {t : TypeId} : ∀ (vs : List Value) (o : Nat) (cs : List Value) (w : World), o + vs.length ≤ cs.length → Blk w g t cs.toArray → Blk (w.setCells g o vs) g t (cs.take o ++ (vs ++ cs.drop (o + vs.length))).toArray
  | [], o, cs, w, _, hw => by simpa [World.setCells] using hw
  | v :: vs, o, cs, w, h, hw => by
    have hlt : o < cs.length := by simp only [List.length_cons] at h; omega
    have h1 := hw.set_ o v
    rw [List.setIfInBounds_toArray] at h1
    have h2 := blk_setCells vs (o + 1) (cs.set o v) _ (by simp only [List.length_cons, List.length_set] at h ⊢; omega) h1
    have e : (cs.set o v).take (o + 1) ++ (vs ++ (cs.set o v).drop (o + 1 + vs.length)) = cs.take o ++ (v :: vs ++ cs.drop (o + (v :: vs).length)) := by
      rw [List.drop_set_of_lt (by omega), List.take_succ_eq_append_getElem (by simpa using hlt), List.take_set_of_le (Nat.le_refl _), List.getElem_set_self, List.length_cons, show o + (vs.length + 1) = o + 1 + vs.length from by omega]
      simp
    rw [e] at h2
    exact h2
theorem Blk.row {w : World} {g : Nat} {t : TypeId} {cs : Array Value} (h : Blk w g t cs) (vs : List Value) (hl : cs.size = vs.length) : Blk (w.setCells g 0 vs) g t vs.toArray := by
  obtain ⟨l⟩ := cs
  have := blk_setCells vs 0 l w (by simpa using Nat.le_of_eq hl.symm) h
  simp only [Nat.zero_add, List.take_zero, List.nil_append] at this
  rwa [List.drop_of_length_le (by simpa using Nat.le_of_eq hl), List.append_nil] at this
/-- Results: a struct in a block that is known whole, alone or ahead of a temporary. -/
theorem ret_cell {P : Program} {fn : Func} {p : Tmp} {ty t : TypeId} {fs : Array Field} {g : Nat} {cs : Array Value} {tmps : Array Value} {w : World} (h : fn.results = #[.cell p ty]) (hp : tmps.getD p undef = .pointer (some ⟨g, 0, none⟩))
    (hb : Blk w g t cs) (hu : P.underlying ty = some (.struct fs)) (hi : (P.info? ty).map (·.size) = some cs.size) : (results fn tmps).run P w = .ok (.agg cs) w := by
  have hl := run_loadVar_row (P := P) w g t ty cs (0, 0) _ hb hu rfl hi
  have hp2 : tmps[p]?.getD undef = .pointer (some ⟨g, 0, none⟩) := by simpa using hp
  simp only [results, h]
  simp [hp2, hl, asAddr]
theorem ret_cell_tmp {P : Program} {fn : Func} {p u : Tmp} {ty t : TypeId} {fs : Array Field} {g : Nat} {cs : Array Value} {tmps : Array Value} {w : World} (h : fn.results = #[.cell p ty, .tmp u]) (hp : tmps.getD p undef = .pointer (some ⟨g, 0, none⟩))
    (hb : Blk w g t cs) (hu : P.underlying ty = some (.struct fs)) (hi : (P.info? ty).map (·.size) = some cs.size) : (results fn tmps).run P w = .ok (.tuple #[.agg cs, tmps.getD u undef]) w := by
  have hl := run_loadVar_row (P := P) w g t ty cs (0, 0) _ hb hu rfl hi
  rw [results_cell_tmp h, hp]
  simp [Result.andThen, hl, asAddr]

/-! ### Cells laid into a block that is new -/
theorem setCells_alloc (w : World) (t : TypeId) : ∀ (vs : List Value) (o : Nat) (cs : List Value), o + vs.length ≤ cs.length →
    (w.alloc (.cells cs.toArray t)).setCells w.heap.size o vs = w.alloc (.cells (cs.take o ++ (vs ++ cs.drop (o + vs.length))).toArray t)
  | [], o, cs, h => by simp [World.setCells]
  | v :: vs, o, cs, h => by
    have hlt : o < cs.length := by simp only [List.length_cons] at h; omega
    have h1 := World.setCell_alloc_at (w := w) cs.toArray t w.heap.size o v rfl
    rw [World.setCells, h1, List.setIfInBounds_toArray, setCells_alloc w t vs (o + 1) (cs.set o v) (by simp only [List.length_cons, List.length_set] at h ⊢; omega)]
    have e : (cs.set o v).take (o + 1) ++ (vs ++ (cs.set o v).drop (o + 1 + vs.length)) = cs.take o ++ (v :: vs ++ cs.drop (o + (v :: vs).length)) := by
      rw [List.drop_set_of_lt (by omega), List.take_succ_eq_append_getElem (by simpa using hlt), List.take_set_of_le (Nat.le_refl _), List.getElem_set_self, List.length_cons, show o + (vs.length + 1) = o + 1 + vs.length from by omega]
      simp
    rw [e]
theorem setCells_new (w : World) (t : TypeId) (vs : List Value) (cs : Array Value) (h : cs.size = vs.length) :
    (w.alloc (.cells cs t)).setCells w.heap.size 0 vs = w.alloc (.cells vs.toArray t) := by
  obtain ⟨l⟩ := cs
  have := setCells_alloc w t vs 0 l (by simpa using Nat.le_of_eq h.symm)
  simp only [Nat.zero_add, List.take_zero, List.nil_append] at this
  rw [this, List.drop_of_length_le (by simpa using Nat.le_of_eq h), List.append_nil]

/-! ### Bytes in memory -/
/-- From cell o of block g on lie the bytes l. -/
def Bs (w : World) (g o : Nat) (l : List UInt8) : Prop := ∀ (j : Nat) (h : j < l.length), w.cell? ⟨g, o + j, none⟩ = some (.int .u8 ((l[j].toNat : Nat) : Int))
theorem Bs.lt {w : World} {g o : Nat} {l : List UInt8} (h : Bs w g o l) (hl : l ≠ []) : g < w.heap.size := by
  have := h 0 (List.length_pos_iff.2 hl)
  exact World.block_lt_of_cell? w _ this
theorem Bs.below {w w' : World} {B g o : Nat} {l : List UInt8} (h : Bs w g o l) (hb : Below B w w') (hg : g < B) : Bs w' g o l := fun j hj => (hb.cell (p := ⟨g, o + j, none⟩) hg).trans (h j hj)
theorem Bs.old {w w' : World} {g o : Nat} {l : List UInt8} (h : Bs w g o l) (hb : Below w.heap.size w w') : Bs w' g o l := fun j hj =>
  (hb.cell (p := ⟨g, o + j, none⟩) (World.block_lt_of_cell? w _ (h j hj))).trans (h j hj)
theorem Bs.kp {w w' : World} {L : List Nat} {g o : Nat} {l : List UInt8} (h : Bs w g o l) (hb : Kp L w w') (hg : g ∉ L) : Bs w' g o l := fun j hj =>
  (hb.cell (p := ⟨g, o + j, none⟩) (World.block_lt_of_cell? w _ (h j hj)) hg).trans (h j hj)
theorem Bs.drewN {w : World} {g o : Nat} {l : List UInt8} (h : Bs w g o l) (n : Nat) : Bs (w.drewN n) g o l := h
theorem Bs.alloc {w : World} {g o : Nat} {l : List UInt8} (h : Bs w g o l) (x : Obj) : Bs (w.alloc x) g o l := h.old ((Below.refl _ _).alloc (Nat.le_refl _) _)
theorem Bs.far {w : World} {g o : Nat} {l : List UInt8} (h : Bs w g o l) {p : Addr} (hp : g ≠ p.block) (u : Value) : Bs (w.setCell p u) g o l := fun j hj =>
  (World.cell?_of_block (a := ⟨g, o + j, none⟩) (Below.heap_setCell w p u g hp)).trans (h j hj)
/-- Cut: the address that the model gives to 's[k:]'. -/
theorem Bs.cut {w : World} {g o : Nat} {l : List UInt8} (h : Bs w g o l) {k cap : Nat} (hc : l.length ≤ cap) : Bs w g (if cap = k then o else o + k) (l.drop k) := by
  intro j hj
  simp only [List.length_drop] at hj
  rw [if_neg (by omega), List.getElem_drop, show o + k + j = o + (k + j) from by omega]
  exact h (k + j) (by omega)
theorem Bs.take {w : World} {g o : Nat} {l : List UInt8} (h : Bs w g o l) (k : Nat) : Bs w g o (l.take k) := by
  intro j hj
  simp only [List.length_take] at hj
  rw [List.getElem_take]
  exact h j (by omega)
theorem bs_new (w : World) (t : TypeId) (l : List UInt8) : Bs (w.alloc (.cells (Lib.byteCells l).toArray t)) w.heap.size 0 l := by
  intro j hj
  rw [World.cell?_alloc_at _ _ _ _ rfl]
  simp [Lib.byteCells, hj]
theorem bs_own {w : World} {base : Nat} {e : TypeId} {l : List UInt8} {g cap : Nat} (h : w.ownsRow base e 1 (.slice (some ⟨g, 0, none⟩) l.length cap) l.length (Lib.byteCells l)) : Bs w g 0 l := by
  intro j hj
  rw [Nat.zero_add, h.cellAt j (by omega)]
  simp [Lib.byteCells, hj]
/-- A row of bytes that the call owns and that is not empty: its block. -/
theorem own_form {w : World} {base : Nat} {e : TypeId} {l : List UInt8} {v : Value} (h : w.ownsRow base e 1 v l.length (Lib.byteCells l)) (hl : l ≠ []) :
    ∃ g cap, v = .slice (some ⟨g, 0, none⟩) l.length cap ∧ base ≤ g ∧ g < w.heap.size ∧ l.length ≤ cap ∧ Bs w g 0 l := by
  have hp : 0 < l.length := List.length_pos_iff.2 hl
  have h' := h
  rcases h.2 with ⟨_, h0⟩ | ⟨g, cap, cur, rfl, hg, hh, hc, _⟩
  · omega
  · exact ⟨g, cap, rfl, hg, lt_of_block hh, hc, bs_own h'⟩
/-- string(b). -/
theorem conv_str {P : Program} {src e dst : TypeId} (hs : P.underlying src = some (.slice e)) (he : P.underlying e = some (.int .u8)) (hd : P.underlying dst = some .string) {w : World} {g o n c : Nat} {l : List UInt8} (h : Bs w g o l) (hn : n = l.length) :
    (convert src dst (.slice (some ⟨g, o, none⟩) n c)).run P w = .ok (.string ⟨l.toArray⟩) w := by
  subst hn
  have := run_convert_bytes_arg (P := P) w src e hs he g o l.length c (l.map fun b => (b.toNat : Int)) (by simp) (fun i hi => by
    rw [h i hi]; simp [List.getElem?_eq_getElem hi]) dst hd
  rw [this]
  simp [strOfNums, Function.comp_def]
/-- []byte(s): the world behind it. -/
theorem bw_below (w : World) (e : TypeId) (s : ByteArray) : Below w.heap.size w (Lib.bytesWorld w e s) :=
  ⟨rfl, rfl, rfl, by rw [Lib.bytesWorld_size]; omega, fun k hk => Lib.bytesWorld_at_old w e s k hk⟩
theorem bw_bs (w : World) (e : TypeId) (s : ByteArray) : Bs (Lib.bytesWorld w e s) w.heap.size 0 s.data.toList := by
  intro j hj
  have hj' : j < s.size := by simpa using hj
  rw [Nat.zero_add, Lib.bytesWorld_cell w e s j hj']
  simp [List.getD, List.getElem?_eq_getElem hj]
theorem bw_size (w : World) (e : TypeId) (s : ByteArray) : (Lib.bytesWorld w e s).heap.size = w.heap.size + 1 := Lib.bytesWorld_size w e s

/-- append(out, c): out is nil or the call's own; the new byte has just been laid in a block of its own. -/
theorem wpList_append_byte {P : Program} (w0 : World) {ops : Array Oper} {rest : List Oper} {o : Oper} {a : Act} {Q : Exit → Act → World → Prop} (hgd : o.guard = none) (s x : Operand) (t : TypeId)
    (ho : o.op = .call { callee := .builtin .append, args := #[s, x], argTypes := #[t, t] })
    (base : Nat) (e : TypeId) (i : TypeInfo) (ht : P.underlying t = some (.slice e)) (hi : P.info? e = some i) (hz : i.zero = some (.int .u8 0)) (hsize : i.size = 1) (hby : i.bytes = 1)
    (v : Value) (l : List UInt8) (hs : a.eval s = v) (hown : w0.ownsRow base e 1 v l.length (Lib.byteCells l)) (c : Int) (b : UInt8) (hb : c = (b.toNat : Int)) (hx : a.eval x = .slice (some ⟨w0.heap.size, 0, none⟩) 1 1)
    (hlim : l.length + 1 ≤ 140737488355328) (hbase : base ≤ w0.heap.size)
    (h : ∀ v' w', w'.ownsRow base e 1 v' (l ++ [b]).length (Lib.byteCells (l ++ [b])) → w0.grownBy w' v.ownBlock → wpList P ops Q rest (a.put o.dst v') w') :
    wpList P ops Q (o :: rest) a (w0.alloc (.cells #[.int .u8 c] e)) := by
  subst hb
  refine wpList_append_own _ hgd s x t ho base e i (.int .u8 0) 1 1 ht hi hz hsize hby rfl (by decide) v l.length (Lib.byteCells l) hs (hown.alloc _) ⟨w0.heap.size, 0, none⟩ 1 1 [.int .u8 (b.toNat : Int)] hx rfl ?_ ?_ (by unfold maxLen; omega) (by omega) (by simp; omega) ?_
  · intro j u hj
    match j, hj with
    | 0, hj => simp at hj; subst hj; simp [Addr.add, go_sem]
  · intro u hu
    simp at hu; subst hu; rfl
  · intro v' w' h1 h2 _
    refine h v' w' (by simpa [Lib.byteCells] using h1) ⟨h2.os, h2.tape, h2.output, Nat.le_trans (by simp) h2.size, fun k hk hne => (h2.block k (by simp; omega) hne).trans (Below.heap_alloc _ _ _ hk)⟩

theorem str_app (x y : List UInt8) : (⟨x.toArray⟩ : ByteArray) ++ ⟨y.toArray⟩ = ⟨(x ++ y).toArray⟩ := by
  apply ByteArray.ext
  simp

theorem str_from (l : List UInt8) {k n : Nat} (h : n = l.length) : (⟨l.toArray⟩ : ByteArray).extract k n = ⟨(l.drop k).toArray⟩ := by
  subst h
  rw [ByteArray.extract_mk, List.take_of_length_le (by simp)]
theorem str_to (l : List UInt8) (n : Nat) : (⟨l.toArray⟩ : ByteArray).extract 0 n = ⟨(l.take n).toArray⟩ := by
  rw [ByteArray.extract_mk]; simp

/-! ### Package-level errors -/
/-- Variable number g holds an error that is not nil. -/
def Er (w : World) (g : Nat) : Prop := ∃ t p, w.cell? ⟨g, 0, none⟩ = some (.iface t p)
theorem Er.old {w w' : World} {g : Nat} (h : Er w g) (hb : Below w.heap.size w w') : Er w' g := by
  obtain ⟨t, p, h⟩ := h
  exact ⟨t, p, (hb.cell (p := ⟨g, 0, none⟩) (World.block_lt_of_cell? w _ h)).trans h⟩
theorem Er.kp {w w' : World} {L : List Nat} {g : Nat} (h : Er w g) (hb : Kp L w w') (hg : g ∉ L) : Er w' g := by
  obtain ⟨t, p, h⟩ := h
  exact ⟨t, p, (hb.cell (p := ⟨g, 0, none⟩) (World.block_lt_of_cell? w _ h) hg).trans h⟩
theorem below_drewN {B : Nat} {a w : World} (h : Below B a w) (n : Nat) : Below B a (w.drewN n) := ⟨h.os, h.tape, h.output, h.size, h.block⟩

/-! ### A struct of five one-cell fields by value, opened -/
section
open Go.Joins Go.Deep
variable {H : Type} {enc : TypeId × Value → H} {P : Program} {w : World} {base : Nat} {spare : Nat → Bool} {held : Bool}
theorem array5 {α : Type} {cs : Array α} (h : cs.size = 5) : ∃ c0 c1 c2 c3 c4, cs = #[c0, c1, c2, c3, c4] := by
  obtain ⟨l⟩ := cs
  match l, h with
  | [c0, c1, c2, c3, c4], _ => exact ⟨c0, c1, c2, c3, c4, rfl⟩
theorem list5 {α : Type} {cs : List α} (h : cs.length = 5) : ∃ c0 c1 c2 c3 c4, cs = [c0, c1, c2, c3, c4] := by
  match cs, h with
  | [c0, c1, c2, c3, c4], _ => exact ⟨c0, c1, c2, c3, c4, rfl⟩
theorem open_agg5 {r : Reach} {b0 : Nat} {t : TypeId} {f0 f1 f2 f3 f4 : Field} {v : Value} {d : DataW H} {p : List MemPlace} (hs : P.underlying t = some (.struct #[f0, f1, f2, f3, f4]))
    (hone : oneCellFields P #[f0, f1, f2, f3, f4] = true) (hC : P.cellsOf t = 5) (hv : Value.okWide P w r b0 t v) (h : DataW.Trod enc P w base spare held t v d p) :
    ∃ (v0 v1 v2 v3 v4 : Value) (y0 y1 y2 y3 y4 : DataW H × List MemPlace) (n : Nat), v = .agg #[v0, v1, v2, v3, v4] ∧ d = .agg [y0.1, y1.1, y2.1, y3.1, y4.1] ∧
      DataW.trod enc P w base spare held n f0.type [v0] = some y0 ∧ DataW.trod enc P w base spare held n f1.type [v1] = some y1 ∧ DataW.trod enc P w base spare held n f2.type [v2] = some y2 ∧ DataW.trod enc P w base spare held n f3.type [v3] = some y3 ∧
      DataW.trod enc P w base spare held n f4.type [v4] = some y4 := by
  obtain ⟨cs, rfl, hsz⟩ := okWide_struct hs hv
  obtain ⟨c0, c1, c2, c3, c4, rfl⟩ := array5 (hsz.trans hC)
  obtain ⟨fuel, hf⟩ := h
  obtain ⟨xs, n, _, hx, hl, hlen, hg⟩ := DataW.trod_struct hs hf
  obtain ⟨y0, y1, y2, y3, y4, rfl⟩ := list5 (cs := xs) (by simpa using hlen)
  obtain ⟨o0, k0⟩ := hone_of hone 0 f0 rfl
  obtain ⟨o1, k1⟩ := hone_of hone 1 f1 rfl
  obtain ⟨o2, k2⟩ := hone_of hone 2 f2 rfl
  obtain ⟨o3, k3⟩ := hone_of hone 3 f3 rfl
  obtain ⟨o4, k4⟩ := hone_of hone 4 f4 rfl
  simp only [Prod.mk.injEq] at hx
  exact ⟨c0, c1, c2, c3, c4, y0, y1, y2, y3, y4, n, rfl, hx.1, by simpa [Value.cells, o0, k0] using hg 0 f0 rfl, by simpa [Value.cells, o1, k1] using hg 1 f1 rfl, by simpa [Value.cells, o2, k2] using hg 2 f2 rfl,
    by simpa [Value.cells, o3, k3] using hg 3 f3 rfl, by simpa [Value.cells, o4, k4] using hg 4 f4 rfl⟩
end

/-! ### The last step of a law's row -/
section
variable {H : Type} {enc : TypeId × Value → H} {P : Program}
/-- All arguments read as they did. -/
theorem below_trodAll (hl : laidOutB P = true) {W W' : World} (hb : Below W.heap.size W W') : ∀ {ts : List TypeId} {vs : List Value} {ds : List (DataW H)} {ps : List MemPlace},
    DataW.TrodAll enc P W 0 (fun _ => true) true ts vs ds ps → (∀ t ∈ ts, P.readableRec t = true ∧ t < P.types.size) →
    DataW.TrodAll enc P W' 0 (fun b => decide (b < W.heap.size)) true ts vs ds ps
  | [], vs, ds, ps, h, _ => by
    obtain ⟨rfl, rfl, rfl⟩ := trodAll_nil h
    exact trodAll_mk0
  | t :: ts, vs, ds, ps, h, hr => by
    obtain ⟨v, vs', d, ds', p, q, rfl, rfl, rfl, h0, r0⟩ := trodAll_cons h
    have lt0 : ∀ x ∈ p, x.block < W.heap.size := by obtain ⟨m, hm⟩ := h0; exact DataW.trod_lt m _ _ _ hm
    exact trodAll_cons_mk (Below.trod hl (hr t (by simp)).1 (hr t (by simp)).2 h0 hb lt0) (below_trodAll hl hb r0 (fun t ht => hr t (by simp [ht])))

/-- THE ROW's post, out of the walk's: it returned true, and nothing that was there has turned. -/
theorem law_post {f : Func} {s : ChangeSpec} {W W' : World} {args : Array Value} {ds gs : List (DataW H)} {before : List MemPlace} {tb : TypeId}
    (hl : laidOutB P = true) (hr : ∀ t ∈ f.params.toList, P.readableRec t = true ∧ t < P.types.size)
    (hres : f.resultTypes = #[tb]) (hbool : P.underlying tb = some .bool)
    (hvars : s.vars = []) (hfn : (s.fn H (ds ++ gs)).results = [.lit (.bool true)]) (hargs : (s.fn H (ds ++ gs)).args = ds) (hv : (s.fn H (ds ++ gs)).vars = [])
    (hW : DataW.Whole enc P f.params.toList s.vars false W args.toList ds gs before) (hb : Below W.heap.size W W') :
    s.post enc P f false true false false W args (.bool true) W' := by
  have hW' := hW
  obtain ⟨p, q, hA, _⟩ := hW'
  refine ⟨ds, gs, before, [], p, [], hW, ?_, ?_, ?_, hb.frame _, fun h => by cases h⟩
  · rw [hfn, hres]
    exact trodAll_mk1 (shut_bool hbool _)
  · rw [hargs]
    exact below_trodAll hl hb hA hr
  · rw [hv, hvars]
    rfl
end
/-! ### Rows written in steps -/
theorem below_setCells {B g : Nat} {a : World} (hg : B ≤ g) : ∀ (vs : List Value) (o : Nat) (b : World), Below B a b → Below B a (b.setCells g o vs)
  | [], _, _, h => h
  | v :: vs, o, _, h => below_setCells hg vs (o + 1) _ (h.setCell (p := ⟨g, o, none⟩) hg v)
theorem blk_mid {w : World} {g : Nat} {t : TypeId} {A zs : List Value} (h : Blk w g t (A ++ zs).toArray) (o : Nat) (ho : A.length = o) (B : List Value) (hB : B.length ≤ zs.length) :
    Blk (w.setCells g o B) g t ((A ++ B) ++ zs.drop B.length).toArray := by
  have := blk_setCells B o (A ++ zs) w (by simp; omega) h
  rw [List.take_append_of_le_length (by omega), List.take_of_length_le (by omega), List.drop_append, List.drop_of_length_le (by omega), List.nil_append, show o + B.length - A.length = B.length from by omega, ← List.append_assoc] at this
  exact this
theorem bs_blk {w : World} {g : Nat} {t : TypeId} {l : List UInt8} (h : Blk w g t (Lib.byteCells l).toArray) : Bs w g 0 l := by
  intro j hj
  rw [h.cell]
  simp [Lib.byteCells, hj]
theorem blk_some {w : World} {g : Nat} {t : TypeId} {cs : List Value} (h : Blk w g t cs.toArray) {i : Nat} (hi : i < cs.length) : (w.cell? ⟨g, i, none⟩).isSome = true ∧ w.frozen? ⟨g, i, none⟩ = false := by
  refine ⟨?_, h.frozen i⟩
  rw [h.cell]
  simp [hi]
theorem ret_tmp_cell_tmp {P : Program} {fn : Func} {a p u : Tmp} {ty t : TypeId} {fs : Array Field} {g : Nat} {cs : Array Value} {tmps : Array Value} {w : World} (h : fn.results = #[.tmp a, .cell p ty, .tmp u]) (hp : tmps.getD p undef = .pointer (some ⟨g, 0, none⟩))
    (hb : Blk w g t cs) (hu : P.underlying ty = some (.struct fs)) (hi : (P.info? ty).map (·.size) = some cs.size) : (results fn tmps).run P w = .ok (.tuple #[tmps.getD a undef, .agg cs, tmps.getD u undef]) w := by
  have hl := run_loadVar_row (P := P) w g t ty cs (0, 0) _ hb hu rfl hi
  have hr : (results fn tmps).run P w = ((asAddr (tmps.getD p undef)).run P w).andThen fun a0 w₁ => ((loadVar ty a0).run P w₁).andThen fun v w₂ => .ok (.tuple #[tmps.getD a undef, v, tmps.getD u undef]) w₂ := by
    simp only [results, h]
    simp [Sem.run_bind, Result.andThen]
  rw [hr, hp]
  simp [Result.andThen, hl, asAddr]
theorem ret_cell_tmp_tmp {P : Program} {fn : Func} {p a u : Tmp} {ty t : TypeId} {fs : Array Field} {g : Nat} {cs : Array Value} {tmps : Array Value} {w : World} (h : fn.results = #[.cell p ty, .tmp a, .tmp u]) (hp : tmps.getD p undef = .pointer (some ⟨g, 0, none⟩))
    (hb : Blk w g t cs) (hu : P.underlying ty = some (.struct fs)) (hi : (P.info? ty).map (·.size) = some cs.size) : (results fn tmps).run P w = .ok (.tuple #[.agg cs, tmps.getD a undef, tmps.getD u undef]) w := by
  have hl := run_loadVar_row (P := P) w g t ty cs (0, 0) _ hb hu rfl hi
  have hr : (results fn tmps).run P w = ((asAddr (tmps.getD p undef)).run P w).andThen fun a0 w₁ => ((loadVar ty a0).run P w₁).andThen fun v w₂ => .ok (.tuple #[v, tmps.getD a undef, tmps.getD u undef]) w₂ := by
    simp only [results, h]
    simp [Sem.run_bind, Result.andThen]
  rw [hr, hp]
  simp [Result.andThen, hl, asAddr]
end Go.Proofs.YtcljffldbnoljaaGreatDoor

namespace Go.Proofs.YtcljffldbnoljaaGreatDoor
theorem info5 : (Tryz.prog.info? 5).map (fun i => (i.zero, i.size, i.bytes)) = some (some (.int .u8 0), 1, 1) := by kernel_rfl
end Go.Proofs.YtcljffldbnoljaaGreatDoor
