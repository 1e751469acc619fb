/-
  Rows of numbers that the code makes; sort.Ints and sort.Slice over them: the numbers, in order. Conditions: as each law says.
  A map from numbers to values that the code has made: what it holds, exactly; looked up, written, walked over. Conditions: as each law says.
  A map from numbers to values that the code has made: its keys, how many they are, 'range' over them. Conditions: as each law says.
-/
import Derived.Test.YtcljffldbnoljaaGreatDoorJQs
import Derived.Shelf.GgSortFunc.Whole
import Derived.Deep.QuietTactic
import Derived.Maps.Own
import Derived.Maps.OwnSet
import Derived.Maps.Views
import Derived.Maps.Range
import Derived.Maps.RangeWalk
namespace Go.Proofs.YtcljffldbnoljaaGreatDoor
open Go.RowKit Go.Sort Go.Lib

/-- A row of numbers. -/
def OwnN (K : IntKind) (w : World) (v : Value) (l : List Int) : Prop := RowV w 1 v l.length (l.map (Value.int K))
theorem OwnN.old {K : IntKind} {w w' : World} {v : Value} {l : List Int} (h : OwnN K w v l) (b : RowKit.Below w.heap.size w w') : OwnN K w' v l := RowV.old h b
theorem ownN_nil (K : IntKind) (w : World) : OwnN K w (.slice none 0 0) [] := rowV_nil w 1

theorem ownN_form {K : IntKind} {w : World} {v : Value} {l : List Int} (h : OwnN K w v l) : ∃ b c, v = .slice b l.length c ∧ ∀ (i : Nat) (hi : i < l.length), ∃ g, b = some ⟨g, 0, none⟩ ∧ l.length ≤ c ∧ g < w.heap.size ∧ w.cell? ⟨g, i, none⟩ = some (.int K l[i]) := by
  obtain ⟨h0, ⟨rfl, h1⟩ | ⟨g, cap, rfl, h2, h3, h4, h5, h6⟩⟩ := h
  · exact ⟨none, 0, by rw [h1], fun i hi => by omega⟩
  · exact ⟨_, cap, rfl, fun i hi => ⟨g, rfl, h3, h2, h5 i _ (by simp [hi])⟩⟩

theorem intT : ∃ i0, Tryz.prog.info? 3 = some i0 ∧ i0.zero = some (.int .i64 0) ∧ i0.size = 1 ∧ i0.bytes = 8 := ⟨(Tryz.prog.info? 3).get (by kernel_rfl), by kernel_rfl, by kernel_rfl, by kernel_rfl, by kernel_rfl⟩
theorem u64T : ∃ i0, Tryz.prog.info? 25 = some i0 ∧ i0.zero = some (.int .u64 0) ∧ i0.size = 1 ∧ i0.bytes = 8 := ⟨(Tryz.prog.info? 25).get (by kernel_rfl), by kernel_rfl, by kernel_rfl, by kernel_rfl, by kernel_rfl⟩

theorem wpList_int1 {ops : Array Oper} {rest : List Oper} {o : Oper} {a : Act} {Q : Exit → Act → World → Prop} (w : World) (hgd : o.guard = none) (s x : Operand)
    (ho : o.op = .call { callee := .builtin .append, args := #[s, x], argTypes := #[108, 108] }) (hot : o.type = 108)
    (v : Value) (l : List Int) (hs : a.eval s = v) (X : Int) (k : Nat) (hx : a.eval x = .slice (some ⟨k, 0, none⟩) 1 1) (hk : k = w.heap.size) (h : OwnN .i64 w v l) (hn : l.length + 1 ≤ 1000000000)
    (K : ∀ v' w', OwnN .i64 w' v' (l ++ [X]) → AppT w w' v v' → wpList Tryz.prog ops Q rest (a.put o.dst v') w') : wpList Tryz.prog ops Q (o :: rest) a (w.alloc (.cells #[.int .i64 X] 3)) := by
  subst hk
  obtain ⟨i0, h1, h2, h3, h4⟩ := intT
  exact wpList_lit w hgd s x 108 3 (l.map (Value.int .i64)) [.int .i64 X] ho hot i0 _ 1 8 Tryz.underlying108 h1 h2 h3 h4 rfl (by decide) v l.length hs h hx rfl (by simp [Value.oneCell']) hn (by decide)
    (fun v' w' hR' hT => K v' w' (by unfold OwnN; simpa using hR') hT)

theorem wpList_u641 {ops : Array Oper} {rest : List Oper} {o : Oper} {a : Act} {Q : Exit → Act → World → Prop} (w : World) (hgd : o.guard = none) (s x : Operand)
    (ho : o.op = .call { callee := .builtin .append, args := #[s, x], argTypes := #[82, 82] }) (hot : o.type = 82)
    (v : Value) (l : List Int) (hs : a.eval s = v) (X : Int) (k : Nat) (hx : a.eval x = .slice (some ⟨k, 0, none⟩) 1 1) (hk : k = w.heap.size) (h : OwnN .u64 w v l) (hn : l.length + 1 ≤ 1000000000)
    (K : ∀ v' w', OwnN .u64 w' v' (l ++ [X]) → AppT w w' v v' → wpList Tryz.prog ops Q rest (a.put o.dst v') w') : wpList Tryz.prog ops Q (o :: rest) a (w.alloc (.cells #[.int .u64 X] 25)) := by
  subst hk
  obtain ⟨i0, h1, h2, h3, h4⟩ := u64T
  exact wpList_lit w hgd s x 82 25 (l.map (Value.int .u64)) [.int .u64 X] ho hot i0 _ 1 8 Tryz.underlying82 h1 h2 h3 h4 rfl (by decide) v l.length hs h hx rfl (by simp [Value.oneCell']) hn (by decide)
    (fun v' w' hR' hT => K v' w' (by unfold OwnN; simpa using hR') hT)

theorem ownN_made (K : IntKind) (w : World) (e : TypeId) (X : Int) : OwnN K (w.alloc (.cells #[.int K X] e)) (.slice (some ⟨w.heap.size, 0, none⟩) 1 1) [X] := by
  have hN := Blk.new w e #[.int K X]
  refine ⟨rfl, .inr ⟨w.heap.size, 1, rfl, hN.lt, Nat.le_refl _, by decide, fun j u hu => ?_, fun i hi => ⟨?_, hN.frozen i⟩⟩⟩
  · rw [hN.cell]; simpa using hu
  · have : i = 0 := by omega
    subst this
    rw [hN.cell]; rfl

theorem holds_ownN {K : IntKind} {w : World} {g cap : Nat} {l : List Int} (h : OwnN K w (.slice (some ⟨g, 0, none⟩) l.length cap) l) : Holds (Value.int K) w g 0 l.toArray ∧ g < w.heap.size := by
  obtain ⟨h0, ⟨h1, _⟩ | ⟨g', cap', hv, h2, h3, h4, h5, h6⟩⟩ := h
  · cases h1
  · cases hv
    refine ⟨fun j hj => ?_, h2⟩
    have hj' : j < l.length := by simpa using hj
    rw [Nat.zero_add]
    exact ⟨h5 j _ (by simp [hj']), (h6 j (by omega)).2⟩

theorem ownN_sorted {K : IntKind} {w : World} {g cap : Nat} {l l' : List Int} (h : OwnN K w (.slice (some ⟨g, 0, none⟩) l.length cap) l) (hl : l'.length = l.length) (m : Nat) (os : Array Obj) :
    OwnN K (grow (putRow (Value.int K) (Sort.ahead w m) g 0 l'.toArray) os) (.slice (some ⟨g, 0, none⟩) l.length cap) l' ∧ Kp [g] w (grow (putRow (Value.int K) (Sort.ahead w m) g 0 l'.toArray) os) := by
  obtain ⟨hH, hg⟩ := holds_ownN h
  have hH' := holds_ahead (Value.int K) w m g 0 l.toArray hH
  have hs : l'.toArray.size = l.toArray.size := by simpa using hl
  have hgp : g < (putRow (Value.int K) (Sort.ahead w m) g 0 l'.toArray).heap.size := by rw [size_putRow]; exact hg
  obtain ⟨h0, ⟨h1, _⟩ | ⟨g', cap', hv, h2, h3, h4, h5, h6⟩⟩ := h
  · cases h1
  · cases hv
    constructor
    · refine ⟨by simp, .inr ⟨g, cap, by rw [hl], ?_, by omega, h4, fun j u hu => ?_, fun i hi => ⟨?_, ?_⟩⟩⟩
      · rw [size_grow]; omega
      · rw [cell?_grow _ _ _ hgp]
        have hj : j < l'.length := by
          rcases Nat.lt_or_ge j l'.length with h | h
          · exact h
          · rw [List.getElem?_eq_none (by simpa using h)] at hu; cases hu
        have := cell?_putRow (Value.int K) (Sort.ahead w m) g 0 l.toArray l'.toArray hH' hs j (by simpa using hj)
        rw [Nat.zero_add] at this
        rw [this, ← hu]
        simp [hj]
      · rw [cell?_grow _ _ _ hgp]
        by_cases hj : i < l'.length
        · have := cell?_putRow (Value.int K) (Sort.ahead w m) g 0 l.toArray l'.toArray hH' hs i (by simpa using hj)
          rw [Nat.zero_add] at this
          rw [this]; rfl
        · rw [cell?_putRow_other _ _ g 0 _ _ (.inr (.inr (by simp; omega)))]
          exact (h6 i hi).1
      · rw [frozen?_grow _ _ _ hgp, frozen?_putRow]
        exact (h6 i hi).2
    · refine ⟨rfl, rfl, rfl, ?_, fun k hk hn => ?_⟩
      · rw [size_grow, size_putRow]; simp
      · rw [heap_grow_old _ _ (by rw [size_putRow]; exact hk)]
        simp [putRow, mapBlock, Array.getElem?_modify, show ¬ g = k from fun e => hn (by simp [e])]

/-- What a sort leaves: the numbers, in order. -/
def SortP (K : IntKind) (w : World) (v : Value) (l : List Int) (e : Ending) (w' : World) : Prop := e = .returned (.tuple #[]) ∧ ∃ l', (l'.Perm l ∧ l'.Pairwise (· ≤ ·)) ∧ OwnN K w' v l' ∧ Kp v.ownBlock.toList w w'

set_option maxRecDepth 100000 in
theorem sortInts_nil (w : World) : Calls Tryz.prog 60 #[.slice none 0 0] w fun e w' => e = .returned (.tuple #[]) ∧ RowKit.Below w.heap.size w w' := by
  have h1 : Calls Tryz.prog 114 #[.slice none 0 0, .int .i64 0, .int .i64 0] w fun e w' => e = .returned (.tuple #[]) ∧ RowKit.Below w.heap.size w w' := by
    go_enter Tryz.func114, Tryz.ntmps114
    go_wp2_with fail
    refine wp_loop_rounds 1 ?_
    rw [rounds_succ]
    go_wp2_with fail
    go_end0
    exact ⟨rfl, RowKit.Below.refl _ _⟩
  have h2 : Calls Tryz.prog 106 #[.slice none 0 0, .int .i64 0, .int .i64 0, .int .i64 0] w fun e w' => e = .returned (.tuple #[]) ∧ RowKit.Below w.heap.size w w' := by
    go_enter Tryz.func106, Tryz.ntmps106
    go_wp2_with fail
    refine wp_loop_rounds 1 ?_
    rw [rounds_succ]
    go_wp2_with (go_at_call 114; refine h1.mono ?_; rintro _ w1 ⟨rfl, b1⟩)
    refine bodyPost_ret (results_none rfl _ _ _) rfl ?_
    exact ⟨rfl, b1⟩
  have h3 := Tryz.bits_Len 0 w (by omega) (by omega)
  have h4 : Calls Tryz.prog 78 #[.slice none 0 0] w fun e w' => e = .returned (.tuple #[]) ∧ RowKit.Below w.heap.size w w' := by
    go_enter Tryz.func78, Tryz.ntmps78
    go_wp2_with (first | (go_at_call 66; refine h3.mono ?_; rintro _ w1 ⟨rfl, rfl⟩) | (go_at_call 106; refine h2.mono ?_; rintro _ w1 ⟨rfl, b1⟩))
    go_end0
    exact ⟨rfl, b1⟩
  go_enter Tryz.func60, Tryz.ntmps60
  go_wp2_with (go_at_call 78; refine h4.mono ?_; rintro _ w1 ⟨rfl, b1⟩)
  go_end0
  exact ⟨rfl, b1⟩

theorem sortInts_eq (v : Value) (l : List Int) (w : World) (h : OwnN .i64 w v l) (hl : l.length ≤ 1000) : Calls Tryz.prog 60 #[v] w (SortP .i64 w v l) := by
  have h' := h
  obtain ⟨h0, ⟨rfl, h1⟩ | ⟨g, cap, rfl, h2, h3, h4, h5, h6⟩⟩ := h'
  · refine (sortInts_nil w).mono ?_
    rintro e w' ⟨rfl, b⟩
    have : l = [] := List.eq_nil_of_length_eq_zero h1
    subst this
    exact ⟨rfl, [], ⟨List.Perm.refl _, List.Pairwise.nil⟩, h.old b, Kp.of_below b _⟩
  · obtain ⟨hH, hg⟩ := holds_ownN h
    refine (Tryz.sort_Ints g 0 cap l w hH hg (by omega)).mono ?_
    rintro e w' ⟨rfl, m, os, rfl⟩
    have := ownN_sorted h (l' := l.mergeSort fun x y => decide (x ≤ y)) (by simp) m os
    refine ⟨rfl, _, ⟨List.mergeSort_perm _ _, ?_⟩, this.1, by simpa [Value.ownBlock] using this.2⟩
    have hp := List.pairwise_mergeSort (le := fun x y : Int => decide (x ≤ y)) (by intro a b c h1 h2; simp at *; omega) (by intro a b; simp; omega) l
    exact hp.imp (by intro a b h; simpa using h)

noncomputable def cdT : TypeInfo := (Tryz.prog.info? 82).get (by kernel_rfl)
noncomputable def cdE : TypeInfo := (Tryz.prog.info? 25).get (by kernel_rfl)
theorem cd_sw (n : Nat) (h2 : 2 ≤ n) : Lib.swapperK n cdE 11 = 5 := by
  have a : cdE.hasPointers = false := by kernel_rfl
  have b : cdE.bytes = 8 := by kernel_rfl
  have c : (n == 0) = false := by simp; omega
  have d : (n == 1) = false := by simp; omega
  simp [Lib.swapperK, a, b, c, d]

set_option maxHeartbeats 2000000 in
theorem less_codes (blk off c Bs size : Nat) (W : World) (G : Nat → Int) (hs : W.cell? ⟨Bs, 0, none⟩ = some (.slice (some ⟨blk, off, none⟩) size c))
    (hc : ∀ t, t < size → W.cell? ⟨blk, off + t, none⟩ = some (.int .u64 (G t))) (i j : Nat) (hi : i < size) (hj : j < size) (_hsz : size < 4611686018427387904) :
    Calls Tryz.prog 48 #[.int .i64 i, .int .i64 j, .pointer (some ⟨Bs, 0, none⟩)] W fun e w' => e = .returned (.bool (decide (G i < G j))) ∧ ∃ q, w' = W.drewN q := by
  have ci := hc i hi
  have cj := hc j hj
  go_enter Tryz.func48, Tryz.ntmps48
  go_wp2
  go_quiet (fail)
  go_wp2
  go_ret
  exact ⟨rfl, nq, rfl⟩

/-- sort.Slice over the row of codes that cell lb holds. -/
theorem sortCodes_eq (lb : Nat) (v : Value) (l : List Int) (w : World) (h : OwnN .u64 w v l) (hl : l.length ≤ 1000) (hc : w.cell? ⟨lb, 0, none⟩ = some v) (hlb : ∀ i ∈ v.ownBlock.toList, lb ≠ i) :
    Calls Tryz.prog 47 #[.iface 82 v, .func (.func 48) #[] #[.pointer (some ⟨lb, 0, none⟩)]] w (SortP .u64 w v l) := by
  have hlbw := World.block_lt_of_cell? w _ hc
  have tiny : ∀ (p : Option Addr) (n c : Nat), n ≤ 1 → Calls Tryz.prog 47 #[.iface 82 (.slice p n c), .func (.func 48) #[] #[.pointer (some ⟨lb, 0, none⟩)]] w fun e w' => e = .returned (.tuple #[]) ∧ RowKit.Below w.heap.size w w' := by
    intro p n c hn
    have hk : ∃ k f, Lib.swapperK n cdE 11 = k ∧ Tryz.prog.funcs.findIdx? (·.name == "internal/reflectlite" ++ ".Swapper$" ++ toString k) = some f := by
      have : n = 0 ∨ n = 1 := by omega
      rcases this with rfl | rfl
      · exact ⟨1, 80, by simp [Lib.swapperK], by kernel_rfl⟩
      · exact ⟨2, 81, by simp [Lib.swapperK], by kernel_rfl⟩
    obtain ⟨k, f, hk1, hk2⟩ := hk
    refine (Any.sort_Slice_tiny Tryz.laysGg6 82 25 cdT cdE (by kernel_rfl) (by kernel_rfl) (by kernel_rfl) (by kernel_rfl) 11 (fun _ => by kernel_rfl) p n c hn f (by rw [hk1]; exact hk2) (.func 48) #[] #[.pointer (some ⟨lb, 0, none⟩)] w).mono ?_
    rintro e w' ⟨rfl, os, rfl⟩
    exact ⟨rfl, below_grow w os⟩
  have h' := h
  obtain ⟨h0, ⟨rfl, h1⟩ | ⟨g, cap, rfl, h2, h3, h4, h5, h6⟩⟩ := h'
  · refine (tiny none 0 0 (by omega)).mono ?_
    rintro e w' ⟨rfl, b⟩
    have : l = [] := List.eq_nil_of_length_eq_zero h1
    subst this
    exact ⟨rfl, [], ⟨List.Perm.refl _, List.Pairwise.nil⟩, h.old b, Kp.of_below b _⟩
  · obtain ⟨hH, hg⟩ := holds_ownN h
    have hgl : lb ≠ g := hlb g (by simp [Value.ownBlock])
    by_cases hn : l.length ≤ 1
    · refine (tiny (some ⟨g, 0, none⟩) l.length cap hn).mono ?_
      rintro e w' ⟨rfl, b⟩
      refine ⟨rfl, l, ⟨List.Perm.refl _, ?_⟩, h.old b, Kp.of_below b _⟩
      match l, hn with
      | [], _ => exact List.Pairwise.nil
      | [x], _ => exact List.pairwise_singleton _ x
    · have hless : LessReads Tryz.prog 48 #[.pointer (some ⟨lb, 0, none⟩)] (Value.int .u64) ltInt g 0 l.toArray.size w := by
        intro m os dk hs i j hi hj
        have e : sortWorld (Value.int .u64) w g 0 m dk os = putRow (Value.int .u64) (grow (Sort.ahead w m) os) g 0 dk := by
          unfold sortWorld; rw [putRow_grow _ (Sort.ahead w m) _ g 0 _ hg]
        have hHg : Holds (Value.int .u64) (grow (Sort.ahead w m) os) g 0 l.toArray := holds_grow _ _ _ g 0 l.toArray hg (holds_ahead _ _ _ _ _ _ hH)
        refine less_codes g 0 cap lb l.toArray.size _ (fun t => dk[t]!) ?_ (fun t ht => ?_) i j hi hj (by simp; omega)
        · rw [e, cell?_putRow_other _ _ g 0 dk _ (Or.inl hgl), cell?_grow (Sort.ahead w m) os ⟨lb, 0, none⟩ hlbw, cell?_ahead]
          simpa using hc
        · rw [e]; exact cell?_putRow _ _ g 0 l.toArray dk hHg hs t (by omega)
      have hS := Any.sort_Slice_sorted Tryz.laysGg6 82 25 cdT cdE (by kernel_rfl) (by kernel_rfl) (by kernel_rfl) (by kernel_rfl) 11 (fun _ => by kernel_rfl) (by kernel_rfl) (fun _ => by kernel_rfl) (Value.int .u64) (fun _ => rfl) ltInt swo_ltInt 48 _
        (enters_of Tryz.func48 (by kernel_rfl) rfl) g 0 cap l.toArray (by simp; omega) (by simp; omega) 84 (by rw [cd_sw _ (by simp; omega)]; kernel_rfl) true
        (fun args W => run_callFunc_extern Tryz.func84 (by kernel_rfl) (by kernel_rfl) (by kernel_rfl) (e := Extern.ReflectliteSwapper.swap true) (by kernel_rfl) args W) w hless hH hg
      change Calls Tryz.prog 47 _ _ _ at hS
      have hz : l.toArray.size = l.length := by simp
      rw [hz] at hS
      refine hS.mono ?_
      rintro e w' ⟨rfl, D, m, os, hP, hSo, rfl⟩
      have hDs : D.size = l.length := by rw [hP.1]; simp
      have := ownN_sorted h (l' := D.toList) (by simpa using hDs) m os
      have hpl := permIn_list (n := l.length) (by simpa using hP) (by simp)
      have hsl := sortedIn_list (n := l.length) (by simpa using hSo) hDs
      exact ⟨rfl, D.toList, ⟨by simpa using hpl, hsl.imp (by intro a b h; simp only [ltInt, decide_eq_false_iff_not] at h; omega)⟩, by simpa using this.1, by simpa [Value.ownBlock] using this.2⟩
end Go.Proofs.YtcljffldbnoljaaGreatDoor

namespace Go.Proofs.YtcljffldbnoljaaGreatDoor
open Go.RowKit Go.Sort

theorem wf_i64 {x : Int} (h : 0 ≤ x ∧ x < 9223372036854775808) : (Lit.int .i64 x).wf = true := by
  have h1 : IntKind.i64.min = -9223372036854775808 := by decide
  have h2 : IntKind.i64.max = 9223372036854775807 := by decide
  simp [Lit.wf, h1, h2]; omega
theorem wf_u64 {x : Int} (h : 0 ≤ x ∧ x < 9223372036854775808) : (Lit.int .u64 x).wf = true := by
  have h1 : IntKind.u64.min = 0 := by decide
  have h2 : IntKind.u64.max = 18446744073709551615 := by decide
  simp [Lit.wf, h1, h2]; omega

/-- An element is read as itself. -/
def heldR (v : Value) : Option (DataW Value × List MemPlace) := some (.held v, [])
/-- Block m is a map of n entries at most: at number x it holds F x. -/
def MapV (kt : TypeId) (K : IntKind) (w : World) (m n : Nat) (F : Int → Option Value) : Prop :=
  ∃ D : DataW Value, w.ownsMap Tryz.prog kt heldR m n D ∧ ∀ (x : Int) (z : DataW Value), D.atKey (.int K x) z = (match F x with | some v => .held v | none => z)
theorem MapV.lt {kt : TypeId} {K : IntKind} {w : World} {m n : Nat} {F : Int → Option Value} (h : MapV kt K w m n F) : m < w.heap.size := by
  obtain ⟨D, h, _⟩ := h
  exact h.lt
theorem MapV.kp {kt : TypeId} {K : IntKind} {w w' : World} {m n : Nat} {F : Int → Option Value} {L : List Nat} (h : MapV kt K w m n F) (k : Kp L w w') (hm : m ∉ L) : MapV kt K w' m n F := by
  obtain ⟨D, ⟨es, clock, hb, h⟩, hF⟩ := h
  exact ⟨D, ⟨es, clock, (k.block m (Array.getElem?_eq_some_iff.1 hb).1 hm).trans hb, h⟩, hF⟩
theorem MapV.old {kt : TypeId} {K : IntKind} {w w' : World} {m n : Nat} {F : Int → Option Value} (h : MapV kt K w m n F) (b : Below w.heap.size w w') : MapV kt K w' m n F := h.kp (Kp.of_below b []) (by simp)
theorem MapV.mono {kt : TypeId} {K : IntKind} {w : World} {m n n' : Nat} {F : Int → Option Value} (h : MapV kt K w m n F) (hn : n ≤ n') : MapV kt K w m n' F := by
  obtain ⟨D, h, hF⟩ := h
  exact ⟨D, h.mono hn, hF⟩
theorem mapV_made (kt : TypeId) (K : IntKind) (w : World) : MapV kt K (w.alloc (.map #[] 0)) w.heap.size 0 (fun _ => none) := ⟨_, World.ownsMap_made _ _ _ _, fun _ _ => rfl⟩
theorem mapV_look {K : IntKind} {t e kt : TypeId} {w : World} {m n : Nat} {F : Int → Option Value} (h : MapV kt K w m n F) (hk : Tryz.prog.underlying kt = some (.int K)) (ht : Tryz.prog.underlying t = some (.map kt e)) {z : Value} (hz : (zeroValue e).run Tryz.prog w = .ok z w) {x : Int} (hx : (Lit.int K x).wf = true) :
    (Instr.lookup t (.map (some m)) (.int K x) false).run Tryz.prog w = .ok ((F x).getD z) w := by
  obtain ⟨D, h, hF⟩ := h
  obtain ⟨v, ps, hrun, hv⟩ := h.lookup (Maps.int_keyed hk) ht hz (zd := .held z) (zp := []) rfl (Maps.keyOf_int_mk hk hx)
  rw [hrun]
  rw [hF x] at hv
  simp only [heldR, Option.some.injEq, Prod.mk.injEq] at hv
  cases hFx : F x with
  | none => rw [hFx] at hv; simp only [DataW.held.injEq] at hv; rw [hv.1]; rfl
  | some u => rw [hFx] at hv; simp only [DataW.held.injEq] at hv; rw [hv.1]; rfl
theorem mapV_put {K : IntKind} {t e kt : TypeId} {w : World} {m n : Nat} {F : Int → Option Value} (h : MapV kt K w m n F) (hk : Tryz.prog.underlying kt = some (.int K)) (ht : Tryz.prog.underlying t = some (.map kt e)) (hn : n ≤ 1000) {x : Int} (hx : (Lit.int K x).wf = true) (v : Value) :
    ∃ w', (Instr.mapUpdate t (.map (some m)) (.int K x) v).run Tryz.prog w = .ok () w' ∧ MapV kt K w' m (n + 1) (fun y => if y = x then some v else F y) ∧ Kp [m] w w' := by
  obtain ⟨D, h, hF⟩ := h
  have hD := h.isMap
  obtain ⟨w', hrun, hown, hgr⟩ := h.update (Maps.int_keyed hk) ht (by unfold maxLen; omega) (Maps.keyOf_int_mk hk hx) (d := .held v) (ps := []) (val := v) rfl
  refine ⟨w', hrun, ⟨_, hown, fun y z => ?_⟩, (Kp.refl _ _).grown hgr (by intro k hk; simp at hk; subst hk; exact .inl (by simp))⟩
  by_cases hy : y = x
  · subst hy
    rw [Maps.atKey_put_same (k := .int K y) hD (by simp [WideAt.IsKeyLit])]
    simp only [reduceIte]
  · rw [Maps.atKey_put_other (by simp [hy]), hF y]
    simp only [if_neg hy]
end Go.Proofs.YtcljffldbnoljaaGreatDoor

namespace Go.Proofs.YtcljffldbnoljaaGreatDoor
open Go.RowKit Go.Sort

/-- Block m is a map: l are its keys, at number x it holds F x. -/
def MapK (kt : TypeId) (K : IntKind) (w : World) (m : Nat) (l : List Int) (F : Int → Option Value) : Prop :=
  ∃ D : DataW Value, w.ownsMap Tryz.prog kt heldR m l.length D ∧ (∀ (x : Int) (z : DataW Value), D.atKey (.int K x) z = (match F x with | some v => .held v | none => z)) ∧ Maps.size D = l.length ∧ l.Nodup ∧ (∀ x, x ∈ l ↔ ∃ v, F x = some v) ∧ (∀ x, Maps.has D (.int K x) = true ↔ x ∈ l)
theorem MapK.mapV {kt : TypeId} {K : IntKind} {w : World} {m : Nat} {l : List Int} {F : Int → Option Value} (h : MapK kt K w m l F) : MapV kt K w m l.length F := by
  obtain ⟨D, h, hF, _⟩ := h
  exact ⟨D, h, hF⟩
theorem MapK.nodup {kt : TypeId} {K : IntKind} {w : World} {m : Nat} {l : List Int} {F : Int → Option Value} (h : MapK kt K w m l F) : l.Nodup := h.elim fun _ h => h.2.2.2.1
theorem MapK.keys {kt : TypeId} {K : IntKind} {w : World} {m : Nat} {l : List Int} {F : Int → Option Value} (h : MapK kt K w m l F) (x : Int) : x ∈ l ↔ ∃ v, F x = some v := h.elim fun _ h => h.2.2.2.2.1 x
theorem MapK.lt {kt : TypeId} {K : IntKind} {w : World} {m : Nat} {l : List Int} {F : Int → Option Value} (h : MapK kt K w m l F) : m < w.heap.size := h.mapV.lt
theorem MapK.kp {kt : TypeId} {K : IntKind} {w w' : World} {m : Nat} {l : List Int} {F : Int → Option Value} {L : List Nat} (h : MapK kt K w m l F) (k : Kp L w w') (hm : m ∉ L) : MapK kt K w' m l F := by
  obtain ⟨D, ⟨es, clock, hb, h⟩, hF⟩ := h
  exact ⟨D, ⟨es, clock, (k.block m (Array.getElem?_eq_some_iff.1 hb).1 hm).trans hb, h⟩, hF⟩
theorem MapK.old {kt : TypeId} {K : IntKind} {w w' : World} {m : Nat} {l : List Int} {F : Int → Option Value} (h : MapK kt K w m l F) (b : Below w.heap.size w w') : MapK kt K w' m l F := h.kp (Kp.of_below b []) (by simp)
theorem mapK_made (kt : TypeId) (K : IntKind) (w : World) : MapK kt K (w.alloc (.map #[] 0)) w.heap.size [] (fun _ => none) :=
  ⟨_, World.ownsMap_made _ _ _ _, fun _ _ => rfl, rfl, List.nodup_nil, fun x => by simp, fun x => by simp [Maps.has]⟩
/-- The keys behind an entry at x. -/
def keyPut (l : List Int) (x : Int) : List Int := if x ∈ l then l else l ++ [x]
theorem keyPut_len (l : List Int) (x : Int) : (keyPut l x).length ≤ l.length + 1 := by unfold keyPut; split <;> simp
theorem keyPut_mem (l : List Int) (x y : Int) : y ∈ keyPut l x ↔ y = x ∨ y ∈ l := by
  unfold keyPut
  split
  · rename_i h
    constructor
    · exact .inr
    · rintro (rfl | h1)
      · exact h
      · exact h1
  · simp [or_comm]
theorem mapK_put {K : IntKind} {t e kt : TypeId} {w : World} {m : Nat} {l : List Int} {F : Int → Option Value} (h : MapK kt K w m l F) (hk : Tryz.prog.underlying kt = some (.int K)) (ht : Tryz.prog.underlying t = some (.map kt e)) (hn : l.length ≤ 1000) {x : Int} (hx : (Lit.int K x).wf = true) (v : Value) :
    ∃ w', (Instr.mapUpdate t (.map (some m)) (.int K x) v).run Tryz.prog w = .ok () w' ∧ MapK kt K w' m (keyPut l x) (fun y => if y = x then some v else F y) ∧ Kp [m] w w' := by
  obtain ⟨D, h, hF, hsz, hnd, hks, hhs⟩ := h
  have hD := h.isMap
  have hT := h.tidy (Maps.int_keyed hk)
  obtain ⟨w', hrun, hown, hgr⟩ := h.update (Maps.int_keyed hk) ht (by unfold maxLen; omega) (Maps.keyOf_int_mk hk hx) (d := .held v) (ps := []) (val := v) rfl
  have hsz2 : Maps.size (D.put (.int K x) (.held v)) = (keyPut l x).length := by
    rw [Maps.size_put hT]
    unfold keyPut
    by_cases hm : x ∈ l
    · rw [if_pos hm, if_pos ((hhs x).2 hm)]; exact hsz
    · rw [if_neg hm, if_neg (fun e => hm ((hhs x).1 e)), hsz]; simp
  have hown2 : w'.ownsMap Tryz.prog kt heldR m (keyPut l x).length (D.put (.int K x) (.held v)) := by
    obtain ⟨es, clock, hb, hf, hle, hd⟩ := hown
    refine ⟨es, clock, hb, hf, ?_, hd⟩
    rw [← hsz2, hd]
    simp [Maps.size, length_sorted]
  refine ⟨w', hrun, ⟨_, hown2, fun y z => ?_, hsz2, ?_, fun y => ?_, fun y => ?_⟩, (Kp.refl _ _).grown hgr (by intro k hk; simp at hk; subst hk; exact .inl (by simp))⟩
  · by_cases hy : y = x
    · subst hy
      rw [Maps.atKey_put_same (k := .int K y) hD (by simp [WideAt.IsKeyLit])]
      simp only [reduceIte]
    · rw [Maps.atKey_put_other (by simp [hy]), hF y]
      simp only [if_neg hy]
  · unfold keyPut
    split
    · exact hnd
    · rename_i hm
      rw [List.nodup_append]
      refine ⟨hnd, by simp, fun a ha b hb => ?_⟩
      rw [List.mem_singleton.1 hb]
      rintro rfl
      exact hm ha
  · rw [keyPut_mem]
    by_cases hy : y = x
    · subst hy; simp
    · simp only [hy, false_or]; exact hks y
  · rw [keyPut_mem]
    by_cases hy : y = x
    · subst hy
      simp only [true_or, iff_true]
      exact Maps.has_put_same hD (by simp [WideAt.IsKeyLit]) _
    · rw [Maps.has_put_other (by simp [hy])]
      simp only [hy, false_or]
      exact hhs y
theorem mapK_look {K : IntKind} {t e kt : TypeId} {w : World} {m : Nat} {l : List Int} {F : Int → Option Value} (h : MapK kt K w m l F) (hk : Tryz.prog.underlying kt = some (.int K)) (ht : Tryz.prog.underlying t = some (.map kt e)) {z : Value} (hz : (zeroValue e).run Tryz.prog w = .ok z w) {x : Int} (hx : (Lit.int K x).wf = true) :
    (Instr.lookup t (.map (some m)) (.int K x) false).run Tryz.prog w = .ok ((F x).getD z) w := mapV_look h.mapV hk ht hz hx
theorem mapK_lookOk {K : IntKind} {t e kt : TypeId} {w : World} {m : Nat} {l : List Int} {F : Int → Option Value} (h : MapK kt K w m l F) (hk : Tryz.prog.underlying kt = some (.int K)) (ht : Tryz.prog.underlying t = some (.map kt e)) {z : Value} (hz : (zeroValue e).run Tryz.prog w = .ok z w) {x : Int} (hx : (Lit.int K x).wf = true) :
    (Instr.lookup t (.map (some m)) (.int K x) true).run Tryz.prog w = .ok (.tuple #[(F x).getD z, .bool (decide (x ∈ l))]) w := by
  obtain ⟨D, h, hF, hsz, hnd, hks, hhs⟩ := h
  obtain ⟨v, ps, hrun, hv⟩ := h.look_ok (Maps.int_keyed hk) ht hz (zd := .held z) (zp := []) rfl (Maps.keyOf_int_mk hk hx)
  have hb : Maps.has D (.int K x) = decide (x ∈ l) := by
    by_cases hm : x ∈ l
    · rw [(hhs x).2 hm]; simp [hm]
    · have : ¬ Maps.has D (.int K x) = true := fun e => hm ((hhs x).1 e)
      simp [this, hm]
  rw [hrun, hb]
  rw [hF x] at hv
  simp only [heldR, Option.some.injEq, Prod.mk.injEq] at hv
  cases hFx : F x with
  | none => rw [hFx] at hv; simp only [DataW.held.injEq] at hv; rw [hv.1]; rfl
  | some u => rw [hFx] at hv; simp only [DataW.held.injEq] at hv; rw [hv.1]; rfl
theorem mapK_len {K : IntKind} {t e kt : TypeId} {w : World} {m : Nat} {l : List Int} {F : Int → Option Value} (h : MapK kt K w m l F) (ht : Tryz.prog.underlying t = some (.map kt e)) (ty : TypeId) : (Builtin.len_ #[t] ty #[.map (some m)]).run Tryz.prog w = .ok (.int .i64 l.length) w := by
  obtain ⟨D, h, hF, hsz, _⟩ := h
  have := h.len ht ty
  rwa [hsz] at this

/-- 'for k, v := range m' under way: block r is the iterator, todo are the keys still to come. -/
def MapR (kt : TypeId) (K : IntKind) (w : World) (m r : Nat) (F : Int → Option Value) (todo : List Int) : Prop :=
  ∃ (D : DataW Value) (n : Nat) (left : Lit → Bool) (cnt : Nat), w.ranges Tryz.prog kt heldR m r n D left cnt ∧ (∀ (x : Int) (z : DataW Value), D.atKey (.int K x) z = (match F x with | some v => .held v | none => z)) ∧ (∀ x, left (.int K x) = true ↔ x ∈ todo) ∧ (∀ x ∈ todo, ∃ v, F x = some v) ∧ todo.Nodup
theorem MapR.lt {kt : TypeId} {K : IntKind} {w : World} {m r : Nat} {F : Int → Option Value} {todo : List Int} (h : MapR kt K w m r F todo) : r < w.heap.size ∧ m < w.heap.size := by
  obtain ⟨D, n, left, cnt, h, _⟩ := h
  exact ⟨h.lt, h.owns.lt⟩
theorem MapR.kp {kt : TypeId} {K : IntKind} {w w' : World} {m r : Nat} {F : Int → Option Value} {todo : List Int} {L : List Nat} (h : MapR kt K w m r F todo) (k : Kp L w w') (hm : m ∉ L) (hr : r ∉ L) : MapR kt K w' m r F todo := by
  have hlt := h.lt
  obtain ⟨D, n, left, cnt, ⟨es, clock, since, seen, c0, hb, h1, h2, h3, h4, h5⟩, hF⟩ := h
  exact ⟨D, n, left, cnt, ⟨es, clock, since, seen, c0, (k.block m hlt.2 hm).trans hb, h1, h2, h3, (k.block r hlt.1 hr).trans h4, h5⟩, hF⟩
theorem MapR.kp_left {kt : TypeId} {K : IntKind} {w w' : World} {m r : Nat} {F : Int → Option Value} {todo : List Int} {L : List Nat} (h : MapR kt K w m r F todo) (k : Kp L w w') (hm : m ∉ L) (hr : r ∉ L) : w'.rangeLeft m r = w.rangeLeft m r := by
  have hlt := h.lt
  unfold World.rangeLeft
  rw [k.block m hlt.2 hm, k.block r hlt.1 hr]
theorem MapR.old {kt : TypeId} {K : IntKind} {w w' : World} {m r : Nat} {F : Int → Option Value} {todo : List Int} (h : MapR kt K w m r F todo) (b : Below w.heap.size w w') : MapR kt K w' m r F todo := h.kp (Kp.of_below b []) (by simp) (by simp)
theorem mapK_range {K : IntKind} {t e kt : TypeId} {w : World} {m : Nat} {l : List Int} {F : Int → Option Value} (h : MapK kt K w m l F) (hk : Tryz.prog.underlying kt = some (.int K)) (ht : Tryz.prog.underlying t = some (.map kt e)) :
    ∃ w', (Instr.range t (.map (some m))).run Tryz.prog w = .ok (.pointer (some ⟨w.heap.size, 0, none⟩)) w' ∧ MapR kt K w' m w.heap.size F l ∧ Below w.heap.size w w' ∧ w'.heap.size = w.heap.size + 1 := by
  obtain ⟨D, h, hF, hsz, hnd, hks, hhs⟩ := h
  obtain ⟨w', hrun, hrg, hgr, hs⟩ := h.range (Maps.int_keyed hk) ht
  exact ⟨w', hrun, ⟨D, _, _, _, hrg, hF, hhs, fun x hx => (hks x).1 hx, hnd⟩, ((Kp.refl ([] : List Nat) w).grown hgr (by simp)).below, hs⟩
/-- The step. -/
theorem MapR.next {K : IntKind} {kt : TypeId} {w : World} {m r : Nat} {F : Int → Option Value} {todo : List Int} (h : MapR kt K w m r F todo) (hk : Tryz.prog.underlying kt = some (.int K)) (ty : TypeId) :
    (todo = [] ∧ (Instr.next (.pointer (some ⟨r, 0, none⟩)) false ty).run Tryz.prog w = .ok (.tuple #[.bool false]) w) ∨
    ∃ x v w', x ∈ todo ∧ F x = some v ∧ (Lit.int K x).wf = true ∧ (Instr.next (.pointer (some ⟨r, 0, none⟩)) false ty).run Tryz.prog w = .ok (.tuple #[.bool true, .int K x, v]) w' ∧ MapR kt K w' m r F (todo.erase x) ∧ w'.rangeLeft m r < w.rangeLeft m r ∧ Kp [r] w w' ∧ w'.heap.size = w.heap.size ∧ (Instr.entry (.pointer (some ⟨r, 0, none⟩))).run Tryz.prog w' = .ok (.tuple #[.int K x, v]) w' := by
  obtain ⟨D, n, left, cnt, hrg, hF, hl, ht, hnd⟩ := h
  rcases hrg.next (Maps.int_keyed hk) ty with ⟨h0, hno, hrun⟩ | ⟨key, v, kl, y, w', cnt', hkey, hlk, hv, hat, hrun, hrg2, hlt, hgr, hsz, hen⟩
  · refine .inl ⟨?_, hrun⟩
    cases todo with
    | nil => rfl
    | cons a t =>
      have := (hl a).2 (by simp)
      rw [hno] at this; cases this
  · obtain ⟨x, rfl, rfl, hwf⟩ := Maps.keyOf_int_inv hk hkey
    have hx := (hl x).1 hlk
    obtain ⟨u, hu⟩ := ht x hx
    have hvu : v = u := by
      have h1 := hat (.held v)
      rw [hF x, hu] at h1
      simp only [heldR, Option.some.injEq] at hv
      rw [← hv] at h1
      simpa using h1.symm
    refine .inr ⟨x, v, w', hx, by rw [hvu]; exact hu, hwf, hrun, ⟨D, n, _, cnt', hrg2, hF, fun z => ?_, fun z hz => ht z (List.mem_of_mem_erase hz), hnd.erase x⟩, by rw [hrg2.left_eq, hrg.left_eq]; exact hlt, (Kp.refl _ _).grown hgr (by intro k hk; simp at hk; subst hk; exact .inl (by simp)), hsz, hen⟩
    rw [hnd.mem_erase_iff, Bool.and_eq_true, hl z, Bool.not_eq_true']
    constructor
    · rintro ⟨h1, h2⟩
      refine ⟨fun e => ?_, h1⟩
      subst e
      rw [WideAt.sameKey_self (by simp [WideAt.IsKeyLit])] at h2
      cases h2
    · rintro ⟨h1, h2⟩
      exact ⟨h2, Maps.sameKey_ne (by simp [h1])⟩
end Go.Proofs.YtcljffldbnoljaaGreatDoor
