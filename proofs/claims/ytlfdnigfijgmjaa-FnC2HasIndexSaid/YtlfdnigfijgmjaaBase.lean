/-
  Frames of calls ('Stay', 'Kp') and the last step of a law's row, of whatever parameters. Conditions: none; plain lemmas over any program.
-/
import Derived.WalkKit
import Derived.WalkLawsBesides
import Derived.WalkSpells
import Derived.ProofKit
import Derived.OpenShut
import Derived.Lib.Hide
import Derived.Lib.SmallJoins
namespace Go.Proofs.Ytlfdnigfijgmjaa
open Go.ChangeShapes Go.WideShapes Go.ChangeAt Go.RowKit

/-! ### What a region needs of the world that calls leave -/
/-- W': nothing below W's size has turned, said twice. -/
theorem stay_drew (W : World) : Below W.heap.size W W.drew ∧ ∀ b o, b < W.heap.size → W.drew.cell? ⟨b, o, none⟩ = W.cell? ⟨b, o, none⟩ :=
  ⟨(Below.refl _ _).drew, fun _ _ _ => rfl⟩
theorem stay_below {W w0 w1 : World} (h : Below W.heap.size W w0 ∧ ∀ b o, b < W.heap.size → w0.cell? ⟨b, o, none⟩ = W.cell? ⟨b, o, none⟩) (h1 : Below w0.heap.size w0 w1) :
    Below W.heap.size W w1 ∧ ∀ b o, b < W.heap.size → w1.cell? ⟨b, o, none⟩ = W.cell? ⟨b, o, none⟩ :=
  have h2 := h.1.trans (h1.mono h.1.size)
  ⟨h2, fun b o hb => h2.cell (p := ⟨b, o, none⟩) hb⟩
theorem stay_alloc {W w0 : World} (h : Below W.heap.size W w0 ∧ ∀ b o, b < W.heap.size → w0.cell? ⟨b, o, none⟩ = W.cell? ⟨b, o, none⟩) (o : Obj) :
    Below W.heap.size W (w0.alloc o) ∧ ∀ b o', b < W.heap.size → (w0.alloc o).cell? ⟨b, o', none⟩ = W.cell? ⟨b, o', none⟩ :=
  have h2 := h.1.alloc h.1.size o
  ⟨h2, fun b o hb => h2.cell (p := ⟨b, o, none⟩) hb⟩

/-- What the walk wants behind a contract: all old cells and marks read as before. -/
theorem bcell {W w1 : World} (hb : Below W.heap.size W w1) : (∀ b o, b < W.heap.size → w1.cell? ⟨b, o, none⟩ = W.cell? ⟨b, o, none⟩) ∧ (∀ b o, b < W.heap.size → w1.frozen? ⟨b, o, none⟩ = W.frozen? ⟨b, o, none⟩) :=
  ⟨fun b o h => hb.cell (p := ⟨b, o, none⟩) h, fun b o h => hb.frozen (p := ⟨b, o, none⟩) h⟩
/-- 'Below' at the old size, twice. -/
theorem Old.trans {a b c : World} (h : Below a.heap.size a b) (k : Below b.heap.size b c) : Below a.heap.size a c := h.trans (k.mono h.size)
theorem Old.alloc {a b : World} (h : Below a.heap.size a b) (o : Obj) : Below a.heap.size a (b.alloc o) := RowKit.Below.alloc h h.size o

/-! ### Only the blocks of a list have turned -/
/-- Of what was there only the blocks of l may have turned; no block has gone. -/
structure Kp (l : List Nat) (w w' : World) : Prop where
  os : w'.os = w.os
  tape : w'.tape = w.tape
  output : w'.output = w.output
  size : w.heap.size ≤ w'.heap.size
  block : ∀ k, k < w.heap.size → k ∉ l → w'.heap[k]? = w.heap[k]?

theorem Kp.refl (l : List Nat) (w : World) : Kp l w w := ⟨rfl, rfl, rfl, Nat.le_refl _, fun _ _ _ => rfl⟩
theorem Kp.of_below {w w' : World} (h : Below w.heap.size w w') (l : List Nat) : Kp l w w' := ⟨h.os, h.tape, h.output, h.size, fun k hk _ => h.block k hk⟩
theorem Kp.below {w w' : World} (h : Kp [] w w') : Below w.heap.size w w' := ⟨h.os, h.tape, h.output, h.size, fun k hk => h.block k hk (by simp)⟩
theorem Kp.trans {l : List Nat} {a b c : World} (h : Kp l a b) (k : Kp l b c) : Kp l a c :=
  ⟨k.os.trans h.os, k.tape.trans h.tape, k.output.trans h.output, Nat.le_trans h.size k.size, fun i hi hn => (k.block i (Nat.lt_of_lt_of_le hi h.size) hn).trans (h.block i hi hn)⟩
/-- The second step may turn, besides what l lists, whatever the first step made. -/
theorem Kp.step {l l' : List Nat} {a b c : World} (h : Kp l a b) (k : Kp l' b c) (hl : ∀ i ∈ l', i ∈ l ∨ a.heap.size ≤ i) : Kp l a c :=
  ⟨k.os.trans h.os, k.tape.trans h.tape, k.output.trans h.output, Nat.le_trans h.size k.size, fun i hi hn => (k.block i (Nat.lt_of_lt_of_le hi h.size) (fun hm => by
    rcases hl i hm with h1 | h1
    · exact hn h1
    · omega)).trans (h.block i hi hn)⟩
theorem Kp.weaken {l l' : List Nat} {a b : World} (h : Kp l a b) (hl : ∀ i ∈ l, i ∈ l' ∨ a.heap.size ≤ i) : Kp l' a b :=
  (Kp.refl l' a).step h hl
theorem Kp.old {l : List Nat} {a b c : World} (h : Kp l a b) (k : Below b.heap.size b c) : Kp l a c := h.trans (Kp.of_below k l)
theorem Kp.drew {l : List Nat} {a b : World} (h : Kp l a b) : Kp l a b.drew := ⟨h.os, h.tape, h.output, h.size, h.block⟩
theorem Kp.drewN {l : List Nat} {a b : World} (h : Kp l a b) (n : Nat) : Kp l a (b.drewN n) := ⟨h.os, h.tape, h.output, h.size, h.block⟩
theorem Kp.alloc {l : List Nat} {a b : World} (h : Kp l a b) (o : Obj) : Kp l a (b.alloc o) :=
  h.trans ⟨rfl, rfl, rfl, by simp, fun k hk _ => Below.heap_alloc _ _ _ hk⟩
theorem Kp.setCell {l : List Nat} {a b : World} (h : Kp l a b) {p : Addr} (hp : p.block ∈ l ∨ a.heap.size ≤ p.block) (u : Value) : Kp l a (b.setCell p u) :=
  h.step (l' := [p.block]) ⟨rfl, rfl, rfl, by simp [World.setCell], fun k _ hn => Below.heap_setCell _ _ _ _ (by simpa using hn)⟩ (by simpa using hp)
theorem Kp.grown {l : List Nat} {a w w' : World} {row : Option Nat} (h : Kp l a w) (hg : w.grownBy w' row) (hr : ∀ k, row = some k → k ∈ l ∨ a.heap.size ≤ k) : Kp l a w' :=
  h.step (l' := row.toList) ⟨hg.os, hg.tape, hg.output, hg.size, fun k hk hn => hg.block k hk (fun e => hn (by rw [← e]; simp))⟩ (fun i hi => hr i (by simpa using hi))
theorem Kp.cell {l : List Nat} {w w' : World} (h : Kp l w w') {p : Addr} (hp : p.block < w.heap.size) (hn : p.block ∉ l) : w'.cell? p = w.cell? p := World.cell?_of_block (h.block p.block hp hn)
theorem Kp.frozen {l : List Nat} {w w' : World} (h : Kp l w w') {p : Addr} (hp : p.block < w.heap.size) (hn : p.block ∉ l) : w'.frozen? p = w.frozen? p := World.frozen?_of_block (h.block p.block hp hn)

/-! ### A block that is known whole -/
def Blk (w : World) (g : Nat) (t : TypeId) (cs : Array Value) : Prop := w.heap[g]? = some (.cells cs t (0, 0))
section
variable {w w' : World} {g : Nat} {t : TypeId} {cs : Array Value}
theorem Blk.lt (h : Blk w g t cs) : g < w.heap.size := by
  rcases Nat.lt_or_ge g w.heap.size with hlt | hge
  · exact hlt
  · unfold Blk at h; rw [Array.getElem?_eq_none hge] at h; cases h
theorem Blk.cell (h : Blk w g t cs) (i : Nat) : w.cell? ⟨g, i, none⟩ = cs[i]? := by
  unfold Blk at h; simp [World.cell?, h]
theorem Blk.frozen (h : Blk w g t cs) (i : Nat) : w.frozen? ⟨g, i, none⟩ = false := by
  unfold Blk at h
  simp [World.frozen?, h]
theorem Blk.new (w : World) (t : TypeId) (cs : Array Value) : Blk (w.alloc (.cells cs t)) w.heap.size t cs := heap_alloc_new w _
theorem Blk.drew (h : Blk w g t cs) : Blk w.drew g t cs := h
theorem Blk.drewN (h : Blk w g t cs) (n : Nat) : Blk (w.drewN n) g t cs := h
theorem Blk.alloc (h : Blk w g t cs) (o : Obj) : Blk (w.alloc o) g t cs := (Below.heap_alloc w o g h.lt).trans h
theorem Blk.set_ (h : Blk w g t cs) (i : Nat) (u : Value) : Blk (w.setCell ⟨g, i, none⟩ u) g t (cs.setIfInBounds i u) := by
  unfold Blk at h ⊢
  simp [World.setCell, Array.getElem?_modify, h]
theorem Blk.far (h : Blk w g t cs) {p : Addr} (hp : g ≠ p.block) (u : Value) : Blk (w.setCell p u) g t cs := (Below.heap_setCell w p u g hp).trans h
theorem Blk.below {B : Nat} (h : Blk w g t cs) (hb : Below B w w') (hg : g < B) : Blk w' g t cs := (hb.block g hg).trans h
theorem Blk.old (h : Blk w g t cs) (hb : Below w.heap.size w w') : Blk w' g t cs := (hb.block g h.lt).trans h
theorem Blk.kp {l : List Nat} (h : Blk w g t cs) (hb : Kp l w w') (hg : g ∉ l) : Blk w' g t cs := (hb.block g h.lt hg).trans h
theorem Blk.grown {row : Option Nat} (h : Blk w g t cs) (hb : w.grownBy w' row) (hg : some g ≠ row) : Blk w' g t cs := (hb.block g h.lt hg).trans h
end

/-! ### A struct of five one-cell fields by value, opened -/
section
open Go.Joins Go.Deep
variable {H : Type} {enc : TypeId × Value → H} {P : Program} {w : World} {base : Nat} {spare : Nat → Bool} {held : Bool}
theorem array5 {α : Type} {cs : Array α} (h : cs.size = 5) : ∃ c0 c1 c2 c3 c4, cs = #[c0, c1, c2, c3, c4] := by
  obtain ⟨l⟩ := cs
  match l, h with
  | [c0, c1, c2, c3, c4], _ => exact ⟨c0, c1, c2, c3, c4, rfl⟩
theorem list5 {α : Type} {cs : List α} (h : cs.length = 5) : ∃ c0 c1 c2 c3 c4, cs = [c0, c1, c2, c3, c4] := by
  match cs, h with
  | [c0, c1, c2, c3, c4], _ => exact ⟨c0, c1, c2, c3, c4, rfl⟩
theorem open_agg5 {r : Reach} {b0 : Nat} {t : TypeId} {f0 f1 f2 f3 f4 : Field} {v : Value} {d : DataW H} {p : List MemPlace} (hs : P.underlying t = some (.struct #[f0, f1, f2, f3, f4]))
    (hone : oneCellFields P #[f0, f1, f2, f3, f4] = true) (hC : P.cellsOf t = 5) (hv : Value.okWide P w r b0 t v) (h : DataW.Trod enc P w base spare held t v d p) :
    ∃ (v0 v1 v2 v3 v4 : Value) (y0 y1 y2 y3 y4 : DataW H × List MemPlace) (n : Nat), v = .agg #[v0, v1, v2, v3, v4] ∧ d = .agg [y0.1, y1.1, y2.1, y3.1, y4.1] ∧
      DataW.trod enc P w base spare held n f0.type [v0] = some y0 ∧ DataW.trod enc P w base spare held n f1.type [v1] = some y1 ∧ DataW.trod enc P w base spare held n f2.type [v2] = some y2 ∧ DataW.trod enc P w base spare held n f3.type [v3] = some y3 ∧
      DataW.trod enc P w base spare held n f4.type [v4] = some y4 := by
  obtain ⟨cs, rfl, hsz⟩ := okWide_struct hs hv
  obtain ⟨c0, c1, c2, c3, c4, rfl⟩ := array5 (hsz.trans hC)
  obtain ⟨fuel, hf⟩ := h
  obtain ⟨xs, n, _, hx, hl, hlen, hg⟩ := DataW.trod_struct hs hf
  obtain ⟨y0, y1, y2, y3, y4, rfl⟩ := list5 (cs := xs) (by simpa using hlen)
  obtain ⟨o0, k0⟩ := hone_of hone 0 f0 rfl
  obtain ⟨o1, k1⟩ := hone_of hone 1 f1 rfl
  obtain ⟨o2, k2⟩ := hone_of hone 2 f2 rfl
  obtain ⟨o3, k3⟩ := hone_of hone 3 f3 rfl
  obtain ⟨o4, k4⟩ := hone_of hone 4 f4 rfl
  simp only [Prod.mk.injEq] at hx
  exact ⟨c0, c1, c2, c3, c4, y0, y1, y2, y3, y4, n, rfl, hx.1, by simpa [Value.cells, o0, k0] using hg 0 f0 rfl, by simpa [Value.cells, o1, k1] using hg 1 f1 rfl, by simpa [Value.cells, o2, k2] using hg 2 f2 rfl,
    by simpa [Value.cells, o3, k3] using hg 3 f3 rfl, by simpa [Value.cells, o4, k4] using hg 4 f4 rfl⟩
end

/-! ### The last step of a law's row -/
section
variable {H : Type} {enc : TypeId × Value → H} {P : Program}
/-- All arguments read as they did. -/
theorem below_trodAll (hl : laidOutB P = true) {W W' : World} (hb : Below W.heap.size W W') : ∀ {ts : List TypeId} {vs : List Value} {ds : List (DataW H)} {ps : List MemPlace},
    DataW.TrodAll enc P W 0 (fun _ => true) true ts vs ds ps → (∀ t ∈ ts, P.readableRec t = true ∧ t < P.types.size) →
    DataW.TrodAll enc P W' 0 (fun b => decide (b < W.heap.size)) true ts vs ds ps
  | [], vs, ds, ps, h, _ => by
    obtain ⟨rfl, rfl, rfl⟩ := trodAll_nil h
    exact trodAll_mk0
  | t :: ts, vs, ds, ps, h, hr => by
    obtain ⟨v, vs', d, ds', p, q, rfl, rfl, rfl, h0, r0⟩ := trodAll_cons h
    have lt0 : ∀ x ∈ p, x.block < W.heap.size := by obtain ⟨m, hm⟩ := h0; exact DataW.trod_lt m _ _ _ hm
    exact trodAll_cons_mk (Below.trod hl (hr t (by simp)).1 (hr t (by simp)).2 h0 hb lt0) (below_trodAll hl hb r0 (fun t ht => hr t (by simp [ht])))

/-- THE ROW's post, out of the walk's: it returned true, and nothing that was there has turned. -/
theorem law_post {f : Func} {s : ChangeSpec} {W W' : World} {args : Array Value} {ds gs : List (DataW H)} {before : List MemPlace} {tb : TypeId}
    (hl : laidOutB P = true) (hr : ∀ t ∈ f.params.toList, P.readableRec t = true ∧ t < P.types.size)
    (hres : f.resultTypes = #[tb]) (hbool : P.underlying tb = some .bool)
    (hvars : s.vars = []) (hfn : (s.fn H (ds ++ gs)).results = [.lit (.bool true)]) (hargs : (s.fn H (ds ++ gs)).args = ds) (hv : (s.fn H (ds ++ gs)).vars = [])
    (hW : DataW.Whole enc P f.params.toList s.vars false W args.toList ds gs before) (hb : Below W.heap.size W W') :
    s.post enc P f false true false false W args (.bool true) W' := by
  have hW' := hW
  obtain ⟨p, q, hA, _⟩ := hW'
  refine ⟨ds, gs, before, [], p, [], hW, ?_, ?_, ?_, hb.frame _, fun h => by cases h⟩
  · rw [hfn, hres]
    exact trodAll_mk1 (shut_bool hbool _)
  · rw [hargs]
    exact below_trodAll hl hb hA hr
  · rw [hv, hvars]
    rfl
end
end Go.Proofs.Ytlfdnigfijgmjaa
