/-
  sort.Ints and sort.Slice over a row of numbers that the code has made: so many numbers as there were. Conditions: as each law says.
  spec.Widths, spec.Codes: what they leave: a row of numbers. Conditions: as each law says.
  spec.Codes: what it leaves: a row of numbers. Conditions: as each law says.
-/
import Derived.Test.YtlafdmmjbkdkaaaGreatDoorPj
import Derived.Test.YtlafdmmjbkdkaaaGreatDoorShelf2
import Derived.Shelf.GgSortFunc.Whole
import Derived.Deep.QuietTactic
import Derived.Maps.Own
namespace Go.Proofs.YtlafdmmjbkdkaaaGreatDoor
open Go.RowKit Go.Sort Go.Lib

theorem holds_ownN {K : IntKind} {w : World} {g cap : Nat} {l : List Int} (h : OwnN K w (.slice (some ⟨g, 0, none⟩) l.length cap) l) : Holds (Value.int K) w g 0 l.toArray ∧ g < w.heap.size := by
  obtain ⟨h0, ⟨h1, _⟩ | ⟨g', cap', hv, h2, h3, h4, h5, h6⟩⟩ := h
  · cases h1
  · cases hv
    refine ⟨fun j hj => ?_, h2⟩
    have hj' : j < l.length := by simpa using hj
    rw [Nat.zero_add]
    exact ⟨h5 j _ (by simp [hj']), (h6 j (by omega)).2⟩

theorem ownN_sorted {K : IntKind} {w : World} {g cap : Nat} {l l' : List Int} (h : OwnN K w (.slice (some ⟨g, 0, none⟩) l.length cap) l) (hl : l'.length = l.length) (m : Nat) (os : Array Obj) :
    OwnN K (grow (putRow (Value.int K) (Sort.ahead w m) g 0 l'.toArray) os) (.slice (some ⟨g, 0, none⟩) l.length cap) l' ∧ Kp [g] w (grow (putRow (Value.int K) (Sort.ahead w m) g 0 l'.toArray) os) := by
  obtain ⟨hH, hg⟩ := holds_ownN h
  have hH' := holds_ahead (Value.int K) w m g 0 l.toArray hH
  have hs : l'.toArray.size = l.toArray.size := by simpa using hl
  have hgp : g < (putRow (Value.int K) (Sort.ahead w m) g 0 l'.toArray).heap.size := by rw [size_putRow]; exact hg
  obtain ⟨h0, ⟨h1, _⟩ | ⟨g', cap', hv, h2, h3, h4, h5, h6⟩⟩ := h
  · cases h1
  · cases hv
    constructor
    · refine ⟨by simp, .inr ⟨g, cap, by rw [hl], ?_, by omega, h4, fun j u hu => ?_, fun i hi => ⟨?_, ?_⟩⟩⟩
      · rw [size_grow]; omega
      · rw [cell?_grow _ _ _ hgp]
        have hj : j < l'.length := by
          rcases Nat.lt_or_ge j l'.length with h | h
          · exact h
          · rw [List.getElem?_eq_none (by simpa using h)] at hu; cases hu
        have := cell?_putRow (Value.int K) (Sort.ahead w m) g 0 l.toArray l'.toArray hH' hs j (by simpa using hj)
        rw [Nat.zero_add] at this
        rw [this, ← hu]
        simp [hj]
      · rw [cell?_grow _ _ _ hgp]
        by_cases hj : i < l'.length
        · have := cell?_putRow (Value.int K) (Sort.ahead w m) g 0 l.toArray l'.toArray hH' hs i (by simpa using hj)
          rw [Nat.zero_add] at this
          rw [this]; rfl
        · rw [cell?_putRow_other _ _ g 0 _ _ (.inr (.inr (by simp; omega)))]
          exact (h6 i hi).1
      · rw [frozen?_grow _ _ _ hgp, frozen?_putRow]
        exact (h6 i hi).2
    · refine ⟨rfl, rfl, rfl, ?_, fun k hk hn => ?_⟩
      · rw [size_grow, size_putRow]; simp
      · rw [heap_grow_old _ _ (by rw [size_putRow]; exact hk)]
        simp [putRow, mapBlock, Array.getElem?_modify, show ¬ g = k from fun e => hn (by simp [e])]

/-- What a sort leaves: the row holds as many numbers. -/
def SortP (K : IntKind) (w : World) (v : Value) (l : List Int) (e : Ending) (w' : World) : Prop := e = .returned (.tuple #[]) ∧ ∃ l', l'.length = l.length ∧ OwnN K w' v l' ∧ Kp v.ownBlock.toList w w'

set_option maxRecDepth 100000 in
theorem sortInts_nil (w : World) : Calls Tryz.prog 84 #[.slice none 0 0] w fun e w' => e = .returned (.tuple #[]) ∧ Below w.heap.size w w' := by
  have h1 : Calls Tryz.prog 145 #[.slice none 0 0, .int .i64 0, .int .i64 0] w fun e w' => e = .returned (.tuple #[]) ∧ Below w.heap.size w w' := by
    go_enter Tryz.func145, Tryz.ntmps145
    go_wp2_with fail
    refine wp_loop_rounds 1 ?_
    rw [rounds_succ]
    go_wp2_with fail
    go_end0
    exact ⟨rfl, Below.refl _ _⟩
  have h2 : Calls Tryz.prog 126 #[.slice none 0 0, .int .i64 0, .int .i64 0, .int .i64 0] w fun e w' => e = .returned (.tuple #[]) ∧ Below w.heap.size w w' := by
    go_enter Tryz.func126, Tryz.ntmps126
    go_wp2_with fail
    refine wp_loop_rounds 1 ?_
    rw [rounds_succ]
    go_wp2_with (go_at_call 145; refine h1.mono ?_; rintro _ w1 ⟨rfl, b1⟩)
    refine bodyPost_ret (results_none rfl _ _ _) rfl ?_
    exact ⟨rfl, b1⟩
  have h3 := Tryz.bits_Len 0 w (by omega) (by omega)
  have h4 : Calls Tryz.prog 103 #[.slice none 0 0] w fun e w' => e = .returned (.tuple #[]) ∧ Below w.heap.size w w' := by
    go_enter Tryz.func103, Tryz.ntmps103
    go_wp2_with (first | (go_at_call 90; refine h3.mono ?_; rintro _ w1 ⟨rfl, rfl⟩) | (go_at_call 126; refine h2.mono ?_; rintro _ w1 ⟨rfl, b1⟩))
    go_end0
    exact ⟨rfl, b1⟩
  go_enter Tryz.func84, Tryz.ntmps84
  go_wp2_with (go_at_call 103; refine h4.mono ?_; rintro _ w1 ⟨rfl, b1⟩)
  go_end0
  exact ⟨rfl, b1⟩

theorem sortInts_any (v : Value) (l : List Int) (w : World) (h : OwnN .i64 w v l) (hl : l.length ≤ 1000) : Calls Tryz.prog 84 #[v] w (SortP .i64 w v l) := by
  have h' := h
  obtain ⟨h0, ⟨rfl, h1⟩ | ⟨g, cap, rfl, h2, h3, h4, h5, h6⟩⟩ := h'
  · refine (sortInts_nil w).mono ?_
    rintro e w' ⟨rfl, b⟩
    exact ⟨rfl, l, rfl, h.old b, Kp.of_below b _⟩
  · obtain ⟨hH, hg⟩ := holds_ownN h
    refine (Tryz.sort_Ints g 0 cap l w hH hg (by omega)).mono ?_
    rintro e w' ⟨rfl, m, os, rfl⟩
    have := ownN_sorted h (l' := l.mergeSort fun x y => decide (x ≤ y)) (by simp) m os
    exact ⟨rfl, _, by simp, this.1, by simpa [Value.ownBlock] using this.2⟩

noncomputable def cdT : TypeInfo := (Tryz.prog.info? 126).get (by kernel_rfl)
noncomputable def cdE : TypeInfo := (Tryz.prog.info? 26).get (by kernel_rfl)
theorem cd_sw (n : Nat) (h2 : 2 ≤ n) : Lib.swapperK n cdE 11 = 5 := by
  have a : cdE.hasPointers = false := by kernel_rfl
  have b : cdE.bytes = 8 := by kernel_rfl
  have c : (n == 0) = false := by simp; omega
  have d : (n == 1) = false := by simp; omega
  simp [Lib.swapperK, a, b, c, d]

set_option maxHeartbeats 2000000 in
theorem less_codes (blk off c Bs size : Nat) (W : World) (G : Nat → Int) (hs : W.cell? ⟨Bs, 0, none⟩ = some (.slice (some ⟨blk, off, none⟩) size c))
    (hc : ∀ t, t < size → W.cell? ⟨blk, off + t, none⟩ = some (.int .u64 (G t))) (i j : Nat) (hi : i < size) (hj : j < size) (_hsz : size < 4611686018427387904) :
    Calls Tryz.prog 79 #[.int .i64 i, .int .i64 j, .pointer (some ⟨Bs, 0, none⟩)] W fun e w' => e = .returned (.bool (decide (G i < G j))) ∧ ∃ q, w' = W.drewN q := by
  have ci := hc i hi
  have cj := hc j hj
  go_enter Tryz.func79, Tryz.ntmps79
  go_wp2
  go_quiet (fail)
  go_wp2
  go_ret
  exact ⟨rfl, nq, rfl⟩

/-- sort.Slice over the row of codes that cell lb holds. -/
theorem sortCodes_any (lb : Nat) (v : Value) (l : List Int) (w : World) (h : OwnN .u64 w v l) (hl : l.length ≤ 1000) (hc : w.cell? ⟨lb, 0, none⟩ = some v) (hlb : ∀ i ∈ v.ownBlock.toList, lb ≠ i) :
    Calls Tryz.prog 78 #[.iface 126 v, .func (.func 79) #[] #[.pointer (some ⟨lb, 0, none⟩)]] w (SortP .u64 w v l) := by
  have hlbw := World.block_lt_of_cell? w _ hc
  have tiny : ∀ (p : Option Addr) (n c : Nat), n ≤ 1 → Calls Tryz.prog 78 #[.iface 126 (.slice p n c), .func (.func 79) #[] #[.pointer (some ⟨lb, 0, none⟩)]] w fun e w' => e = .returned (.tuple #[]) ∧ RowKit.Below w.heap.size w w' := by
    intro p n c hn
    have hk : ∃ k f, Lib.swapperK n cdE 11 = k ∧ Tryz.prog.funcs.findIdx? (·.name == "internal/reflectlite" ++ ".Swapper$" ++ toString k) = some f := by
      have : n = 0 ∨ n = 1 := by omega
      rcases this with rfl | rfl
      · exact ⟨1, 105, by simp [Lib.swapperK], by kernel_rfl⟩
      · exact ⟨2, 106, by simp [Lib.swapperK], by kernel_rfl⟩
    obtain ⟨k, f, hk1, hk2⟩ := hk
    refine (Any.sort_Slice_tiny Tryz.laysGg6 126 26 cdT cdE (by kernel_rfl) (by kernel_rfl) (by kernel_rfl) (by kernel_rfl) 11 (fun _ => by kernel_rfl) p n c hn f (by rw [hk1]; exact hk2) (.func 79) #[] #[.pointer (some ⟨lb, 0, none⟩)] w).mono ?_
    rintro e w' ⟨rfl, os, rfl⟩
    exact ⟨rfl, below_grow w os⟩
  have h' := h
  obtain ⟨h0, ⟨rfl, h1⟩ | ⟨g, cap, rfl, h2, h3, h4, h5, h6⟩⟩ := h'
  · refine (tiny none 0 0 (by omega)).mono ?_
    rintro e w' ⟨rfl, b⟩
    exact ⟨rfl, l, rfl, h.old b, Kp.of_below b _⟩
  · obtain ⟨hH, hg⟩ := holds_ownN h
    have hgl : lb ≠ g := hlb g (by simp [Value.ownBlock])
    by_cases hn : l.length ≤ 1
    · refine (tiny (some ⟨g, 0, none⟩) l.length cap hn).mono ?_
      rintro e w' ⟨rfl, b⟩
      exact ⟨rfl, l, rfl, h.old b, Kp.of_below b _⟩
    · have hless : LessReads Tryz.prog 79 #[.pointer (some ⟨lb, 0, none⟩)] (Value.int .u64) ltInt g 0 l.toArray.size w := by
        intro m os dk hs i j hi hj
        have e : sortWorld (Value.int .u64) w g 0 m dk os = putRow (Value.int .u64) (grow (Sort.ahead w m) os) g 0 dk := by
          unfold sortWorld; rw [putRow_grow _ (Sort.ahead w m) _ g 0 _ hg]
        have hHg : Holds (Value.int .u64) (grow (Sort.ahead w m) os) g 0 l.toArray := holds_grow _ _ _ g 0 l.toArray hg (holds_ahead _ _ _ _ _ _ hH)
        refine less_codes g 0 cap lb l.toArray.size _ (fun t => dk[t]!) ?_ (fun t ht => ?_) i j hi hj (by simp; omega)
        · rw [e, cell?_putRow_other _ _ g 0 dk _ (Or.inl hgl), cell?_grow (Sort.ahead w m) os ⟨lb, 0, none⟩ hlbw, cell?_ahead]
          simpa using hc
        · rw [e]; exact cell?_putRow _ _ g 0 l.toArray dk hHg hs t (by omega)
      have hS := Any.sort_Slice_sorted Tryz.laysGg6 126 26 cdT cdE (by kernel_rfl) (by kernel_rfl) (by kernel_rfl) (by kernel_rfl) 11 (fun _ => by kernel_rfl) (by kernel_rfl) (fun _ => by kernel_rfl) (Value.int .u64) (fun _ => rfl) ltInt swo_ltInt 79 _
        (enters_of Tryz.func79 (by kernel_rfl) rfl) g 0 cap l.toArray (by simp; omega) (by simp; omega) 109 (by rw [cd_sw _ (by simp; omega)]; kernel_rfl) true
        (fun args W => run_callFunc_extern Tryz.func109 (by kernel_rfl) (by kernel_rfl) (by kernel_rfl) (e := Extern.ReflectliteSwapper.swap true) (by kernel_rfl) args W) w hless hH hg
      change Calls Tryz.prog 78 _ _ _ at hS
      have hz : l.toArray.size = l.length := by simp
      rw [hz] at hS
      refine hS.mono ?_
      rintro e w' ⟨rfl, D, m, os, hP, _, rfl⟩
      have hDs : D.size = l.length := by rw [hP.1]; simp
      have := ownN_sorted h (l' := D.toList) (by simpa using hDs) m os
      exact ⟨rfl, D.toList, by simpa using hDs, by simpa using this.1, by simpa [Value.ownBlock] using this.2⟩
end Go.Proofs.YtlafdmmjbkdkaaaGreatDoor

namespace Go.Proofs.YtlafdmmjbkdkaaaGreatDoor
open Go.RowKit Go.Sort

theorem wf_i64 {x : Int} (h : 0 ≤ x ∧ x < 9223372036854775808) : (Lit.int .i64 x).wf = true := by
  have h1 : IntKind.i64.min = -9223372036854775808 := by decide
  have h2 : IntKind.i64.max = 9223372036854775807 := by decide
  simp [Lit.wf, h1, h2]; omega
theorem wf_u64 {x : Int} (h : 0 ≤ x ∧ x < 9223372036854775808) : (Lit.int .u64 x).wf = true := by
  have h1 : IntKind.u64.min = 0 := by decide
  have h2 : IntKind.u64.max = 18446744073709551615 := by decide
  simp [Lit.wf, h1, h2]; omega

/-- Block m is a set of numbers of kind K. -/
def Seen (kt : TypeId) (w : World) (m n : Nat) : Prop := ∃ D : DataW Unit, w.ownsMap Tryz.prog kt (plainElem Tryz.prog 4) m n D
theorem Seen.old {kt : TypeId} {w w' : World} {m n : Nat} (h : Seen kt w m n) (b : Below w.heap.size w w') : Seen kt w' m n := by
  obtain ⟨D, es, clock, hb, h⟩ := h
  exact ⟨D, es, clock, (b.block m (Array.getElem?_eq_some_iff.1 hb).1).trans hb, h⟩
theorem Seen.kp {kt : TypeId} {w w' : World} {m n : Nat} {L : List Nat} (h : Seen kt w m n) (k : Kp L w w') (hm : m ∉ L) : Seen kt w' m n := by
  obtain ⟨D, es, clock, hb, h⟩ := h
  exact ⟨D, es, clock, (k.block m (Array.getElem?_eq_some_iff.1 hb).1 hm).trans hb, h⟩
theorem Seen.mono {kt : TypeId} {w : World} {m n n' : Nat} (h : Seen kt w m n) (hn : n ≤ n') : Seen kt w m n' := by
  obtain ⟨D, h⟩ := h
  exact ⟨D, h.mono hn⟩
set_option maxRecDepth 100000 in
theorem boolZ (w : World) : (zeroValue 4).run Tryz.prog w = .ok (.bool false) w := by kernel_rfl
set_option maxRecDepth 100000 in
theorem seen_look {K : IntKind} {t kt : TypeId} {w : World} {m n : Nat} (h : Seen kt w m n) (hk : Tryz.prog.underlying kt = some (.int K)) (ht : Tryz.prog.underlying t = some (.map kt 4)) {x : Int} (hx : (Lit.int K x).wf = true) :
    ∃ b, (Instr.lookup t (.map (some m)) (.int K x) false).run Tryz.prog w = .ok (.bool b) w := by
  obtain ⟨D, h⟩ := h
  obtain ⟨v, ps, hrun, hv⟩ := h.lookup (Maps.int_keyed hk) ht (boolZ w) (plainElem_bool Tryz.underlying4 false) (Maps.keyOf_int_mk hk hx)
  unfold plainElem at hv
  rw [Tryz.underlying4] at hv
  cases v <;> simp at hv
  exact ⟨_, hrun⟩
theorem seen_put {K : IntKind} {t kt : TypeId} {w : World} {m n : Nat} (h : Seen kt w m n) (hk : Tryz.prog.underlying kt = some (.int K)) (ht : Tryz.prog.underlying t = some (.map kt 4)) (hn : n ≤ 1000) {x : Int} (hx : (Lit.int K x).wf = true) :
    ∃ w', (Instr.mapUpdate t (.map (some m)) (.int K x) (.bool true)).run Tryz.prog w = .ok () w' ∧ Seen kt w' m (n + 1) ∧ Kp [m] w w' := by
  obtain ⟨D, h⟩ := h
  obtain ⟨w', hrun, hown, hgr⟩ := h.update (Maps.int_keyed hk) ht (by unfold maxLen; omega) (Maps.keyOf_int_mk hk hx) (plainElem_bool Tryz.underlying4 true)
  exact ⟨w', hrun, ⟨_, hown⟩, (Kp.refl _ _).grown hgr (by intro k hk; simp at hk; subst hk; exact .inl (by simp))⟩

/-- What it answers: n numbers at most. -/
def NPost (K : IntKind) (w : World) (n : Nat) (e : Ending) (w' : World) : Prop := (∃ v' l, e = .returned v' ∧ OwnN K w' v' l ∧ l.length ≤ n ∧ ∀ i ∈ v'.ownBlock.toList, w.heap.size ≤ i) ∧ Below w.heap.size w w'

set_option maxRecDepth 100000 in
set_option maxHeartbeats 4000000 in
theorem widths_any (v : Value) (n : Nat) (w : World) (h : EntS w v n) (hn : n ≤ 1000) : Calls Tryz.prog 76 #[v] w (NPost .i64 w n) := by
  obtain ⟨b, c, rfl, hF⟩ := entS_form h
  have hmm := @run_makeMap Tryz.prog
  obtain ⟨w1, hw1⟩ : ∃ w1, w.alloc (.map #[] 0) = w1 := ⟨_, rfl⟩
  obtain ⟨m, hm⟩ : ∃ m, w.heap.size = m := ⟨_, rfl⟩
  have b1 : Below w.heap.size w w1 := by rw [← hw1]; exact Old.alloc (Below.refl _ _) _
  have hS : Seen 3 w1 m 0 := by rw [← hw1, ← hm]; exact ⟨_, World.ownsMap_made _ _ _ _⟩
  have hs1 : w1.heap.size = m + 1 := by rw [← hw1, ← hm]; simp
  replace hF := Lib.hid (And.intro hF (And.intro b1 (And.intro hS (And.intro hs1 hm))))
  clear h b1 hS hs1
  go_enter Tryz.func76, Tryz.ntmps76
  go_wp2_with fail
  clear hw1 hm
  go_loopw [3, 11] (fun v3 v11 wr => ∃ (i : Nat) (l : List Int), i ≤ n ∧ v11 = .int .i64 i ∧ l.length ≤ i ∧ OwnN .i64 wr v3 l ∧ Seen 3 wr m i ∧ Kp [m] w1 wr ∧ ∀ j ∈ v3.ownBlock.toList, m < j) (fun v3 v11 _ => n - (intOf v11).toNat)
  case atStart => exact ⟨0, [], Nat.zero_le _, rfl, Nat.le_refl _, ownN_nil _ _, hF.out.2.2.1, Kp.refl _ _, by simp [Value.ownBlock]⟩
  case round =>
    obtain ⟨i, l, hi, rfl, hl, hO, hS, hK, hj⟩ := hrel
    have hbw : Below w.heap.size w wr := ((Kp.of_below hF.out.2.1 []).step hK (by intro j hj; simp at hj; exact .inr (by have := hF.out.2.2.2.2; omega))).below
    by_cases hik : i < n
    · have hdd : decide ((i : Int) < (n : Int)) = true := by rw [decide_eq_true_eq]; omega
      obtain ⟨g, rfl, hnc, hE⟩ := hF.out.1 i hik
      have hEr := entR_old hE hbw
      obtain ⟨x, hx, x0, x1, x2, x3, x4⟩ := entR_cells hEr i hik
      have hgl := World.block_lt_of_cell? wr _ x0
      obtain ⟨W1, hW1⟩ : ∃ W1, wr.alloc (.cells (entC x).toArray 96) = W1 := ⟨_, rfl⟩
      obtain ⟨dd, hdd'⟩ : ∃ dd, wr.heap.size = dd := ⟨_, rfl⟩
      have N1 : Blk W1 dd 96 (entC x).toArray := by rw [← hW1, ← hdd']; exact Blk.new _ _ _
      have b1 : Below wr.heap.size wr W1 := by rw [← hW1]; exact Old.alloc (Below.refl _ _) _
      have e3 : W1.cell? ⟨dd, 3, none⟩ = some (.string ⟨x.1.digest.toArray⟩) := N1.cell 3
      have hwf : (Lit.int .i64 (x.1.digest.length : Int)).wf = true := by have := hx.1; exact wf_i64 (by omega)
      have S1 := hS.old b1
      obtain ⟨bq, hlk⟩ := seen_look S1 Tryz.underlying3 Tryz.underlying167 hwf
      obtain ⟨W2, hup, S2, K2⟩ := seen_put S1 Tryz.underlying3 Tryz.underlying167 (by omega) hwf
      have hiI : (i : Int) < (n : Int) := by omega
      have hW1' : wr.alloc (.cells #[.int .u64 (x.1.version : Nat), .int .u64 (x.1.codec : Nat), .int .u64 (x.1.code : Nat), .string ⟨x.1.digest.toArray⟩, .int .u64 (x.2 : Nat)] 96) = W1 := hW1
      have HX := Lib.hid (And.intro (RowV.old hO b1) (And.intro S1 (And.intro (hK.old b1) (And.intro hj (And.intro S2 K2)))))
      clear hE hEr hO hx hS hK hj S1 S2 K2 hwf hW1 hbw N1
      have HB := Lib.hid b1
      clear b1
      cases bq with
      | true =>
        go_wp2_with fail
        exact ⟨⟨i + 1, l, by omega, by go_num, by omega, HX.out.1, HX.out.2.1.mono (by omega), HX.out.2.2.1, HX.out.2.2.2.1⟩, by simp [intOf]; omega⟩
      | false =>
        have hO2 : OwnN .i64 W2 u3 l := HX.out.1.kp HX.out.2.2.2.2.2 (by intro j hj h; have := HX.out.2.2.2.1 j hj; simp at h; omega)
        go_wp2_with (at_builtin; go_must (refine wpList_int1 _ rfl _ _ rfl rfl u3 l rfl _ _ rfl rfl hO2 (by omega) ?_); intro v' w' hO' hT'; replace hO' := Lib.hid (And.intro hO' hT'); clear hT')
        go_roundw
        case rel =>
          have hms : m < W2.heap.size := Nat.lt_of_lt_of_le (by have := hF.out.2.2.2.1; omega) (HX.out.2.2.1.trans HX.out.2.2.2.2.2).size
          have hnm : ∀ j ∈ u3.ownBlock.toList, j ≠ m := fun j hj => by have := HX.out.2.2.2.1 j hj; omega
          refine ⟨i + 1, l ++ [(x.1.digest.length : Int)], by omega, by go_num, by simp; omega, hO'.out.1, HX.out.2.2.2.2.1.kp hO'.out.2.1 (fun h => hnm m h rfl), (HX.out.2.2.1.trans HX.out.2.2.2.2.2).step hO'.out.2.1 (fun j hj => .inr (by have := HX.out.2.2.2.1 j hj; have := hF.out.2.2.2.1; omega)), fun j hj => ?_⟩
          rcases hO'.out.2.2 j hj with h | h
          · exact HX.out.2.2.2.1 j h
          · omega
        case measure => simp [intOf]; omega
    · have hdd : decide ((i : Int) < (n : Int)) = false := by rw [decide_eq_false_iff_not]; omega
      have hik' : i = n := by omega
      subst hik'
      have hso := sortInts_any u3 l wr hO (by omega)
      have HX := Lib.hid (And.intro hbw (And.intro hso (And.intro hj hF)))
      clear hO hS hK hj hF hbw hso
      go_wp2_with (go_at_call 84; refine HX.out.2.1.mono ?_; rintro _ w2 ⟨rfl, l', hl', hO', hK'⟩; replace hO' := Lib.hid (And.intro hl' (And.intro hO' hK')); clear hl' hK')
      refine bodyPost_ret (v := u3) (by simp [results, Tryz.results76, go_sem]) rfl ⟨⟨u3, l', rfl, hO'.out.2.1, by rw [hO'.out.1]; exact hl, fun j hj => by have := HX.out.2.2.1 j hj; have := HX.out.2.2.2.out.2.2.2.2; omega⟩, ?_⟩
      exact ((Kp.of_below HX.out.1 []).step hO'.out.2.2 (fun j hj => .inr (by have := HX.out.2.2.1 j hj; have := HX.out.2.2.2.out.2.2.2.2; omega))).below
end Go.Proofs.YtlafdmmjbkdkaaaGreatDoor

namespace Go.Proofs.YtlafdmmjbkdkaaaGreatDoor
open Go.RowKit Go.Sort

set_option maxRecDepth 100000 in
set_option maxHeartbeats 4000000 in
theorem codes_any (v : Value) (n : Nat) (w : World) (h : EntS w v n) (hn : n ≤ 1000) : Calls Tryz.prog 69 #[v] w (NPost .u64 w n) := by
  obtain ⟨b, c, rfl, hF⟩ := entS_form h
  have hmm := @run_makeMap Tryz.prog
  obtain ⟨w1, hw1⟩ : ∃ w1, (w.alloc (.cells #[.slice none 0 0] 126)).alloc (.map #[] 0) = w1 := ⟨_, rfl⟩
  obtain ⟨q, hq⟩ : ∃ q, w.heap.size = q := ⟨_, rfl⟩
  have b1 : Below w.heap.size w w1 := by rw [← hw1]; exact Old.alloc (Old.alloc (Below.refl _ _) _) _
  have hS : Seen 26 w1 (q + 1) 0 := by
    rw [← hw1, ← hq]
    have := World.ownsMap_made (H := Unit) (w.alloc (.cells #[.slice none 0 0] 126)) Tryz.prog 26 (plainElem Tryz.prog 4)
    rw [show (w.alloc (.cells #[.slice none 0 0] 126)).heap.size = w.heap.size + 1 by simp] at this
    exact ⟨_, this⟩
  have B0 : Blk w1 q 126 #[.slice none 0 0] := by rw [← hw1, ← hq]; exact (Blk.new _ _ _).alloc _
  have hs1 : w1.heap.size = q + 1 + 1 := by rw [← hw1, ← hq]; simp
  have c0 : w1.cell? ⟨q, 0, none⟩ = some (.slice none 0 0) := B0.cell 0
  have f0 : w1.frozen? ⟨q, 0, none⟩ = false := B0.frozen 0
  replace hF := Lib.hid (And.intro hF (And.intro b1 (And.intro hS (And.intro hs1 (And.intro hq (And.intro c0 f0))))))
  clear h b1 hS hs1 B0
  go_enter Tryz.func69, Tryz.ntmps69
  go_wp2_with fail
  clear hw1 hq c0 f0
  go_loopw [10] (fun v11 wr => ∃ (i : Nat) (l : List Int) (v3 : Value), i ≤ n ∧ v11 = .int .i64 i ∧ l.length ≤ i ∧ OwnN .u64 wr v3 l ∧ Seen 26 wr (q + 1) i ∧ Kp [q, q + 1] w1 wr ∧ (∀ j ∈ v3.ownBlock.toList, q + 1 < j) ∧ wr.cell? ⟨q, 0, none⟩ = some v3 ∧ wr.frozen? ⟨q, 0, none⟩ = false) (fun v11 _ => n - (intOf v11).toNat)
  case atStart => exact ⟨0, [], _, Nat.zero_le _, rfl, Nat.le_refl _, ownN_nil _ _, hF.out.2.2.1, Kp.refl _ _, by simp [Value.ownBlock], hF.out.2.2.2.2.2.1, hF.out.2.2.2.2.2.2⟩
  case round =>
    obtain ⟨i, l, v3, hi, rfl, hl, hO, hS, hK, hj, hc, hf⟩ := hrel
    have hbw : Below w.heap.size w wr := ((Kp.of_below hF.out.2.1 []).step hK (by intro j hj; have := hF.out.2.2.2.2.1; simp at hj; exact .inr (by omega))).below
    have hqr : q < wr.heap.size := World.block_lt_of_cell? wr _ hc
    have hqj : ∀ j ∈ v3.ownBlock.toList, q ≠ j := fun j h => by have := hj j h; omega
    by_cases hik : i < n
    · have hdd : decide ((i : Int) < (n : Int)) = true := by rw [decide_eq_true_eq]; omega
      obtain ⟨g, rfl, hnc, hE⟩ := hF.out.1 i hik
      have hEr := entR_old hE hbw
      obtain ⟨x, hx, x0, x1, x2, x3, x4⟩ := entR_cells hEr i hik
      have hgl := World.block_lt_of_cell? wr _ x0
      obtain ⟨W1, hW1⟩ : ∃ W1, wr.alloc (.cells (entC x).toArray 96) = W1 := ⟨_, rfl⟩
      obtain ⟨dd, hdd'⟩ : ∃ dd, wr.heap.size = dd := ⟨_, rfl⟩
      have N1 : Blk W1 dd 96 (entC x).toArray := by rw [← hW1, ← hdd']; exact Blk.new _ _ _
      have b1 : Below wr.heap.size wr W1 := by rw [← hW1]; exact Old.alloc (Below.refl _ _) _
      have e2 : W1.cell? ⟨dd, 2, none⟩ = some (.int .u64 (x.1.code : Nat)) := N1.cell 2
      have hwf : (Lit.int .u64 (x.1.code : Int)).wf = true := by have := hx.2.1; exact wf_u64 (by omega)
      have S1 := hS.old b1
      obtain ⟨bq, hlk⟩ := seen_look S1 Tryz.underlying26 Tryz.underlying142 hwf
      obtain ⟨W2, hup, S2, K2⟩ := seen_put S1 Tryz.underlying26 Tryz.underlying142 (by omega) hwf
      have hiI : (i : Int) < (n : Int) := by omega
      have hcW : W1.cell? ⟨q, 0, none⟩ = some v3 := (b1.cell (p := ⟨q, 0, none⟩) hqr).trans hc
      have hfW : W1.frozen? ⟨q, 0, none⟩ = false := (b1.frozen (p := ⟨q, 0, none⟩) hqr).trans hf
      have hW1' : wr.alloc (.cells #[.int .u64 (x.1.version : Nat), .int .u64 (x.1.codec : Nat), .int .u64 (x.1.code : Nat), .string ⟨x.1.digest.toArray⟩, .int .u64 (x.2 : Nat)] 96) = W1 := hW1
      have hq1 : q < W1.heap.size := Nat.lt_of_lt_of_le hqr b1.size
      have hc2 : W2.cell? ⟨q, 0, none⟩ = some v3 := (K2.cell (p := ⟨q, 0, none⟩) hq1 (by simp)).trans hcW
      have hf2 : W2.frozen? ⟨q, 0, none⟩ = false := (K2.frozen (p := ⟨q, 0, none⟩) hq1 (by simp)).trans hfW
      have e22 : W2.cell? ⟨dd, 2, none⟩ = some (.int .u64 (x.1.code : Nat)) := (K2.cell (p := ⟨dd, 2, none⟩) N1.lt (by simp; have := hF.out.2.2.2.1; have := hK.size; omega)).trans e2
      have hq2 : q < W2.heap.size := Nat.lt_of_lt_of_le hq1 K2.size
      have HX := Lib.hid (And.intro (RowV.old hO b1) (And.intro S1 (And.intro (hK.old b1) (And.intro hj (And.intro S2 (And.intro K2 (And.intro hcW (And.intro hfW (And.intro hc2 (And.intro hf2 (And.intro hq2 hqj)))))))))))
      clear hE hEr hO hx hS hK hj S1 S2 K2 hwf hW1 hbw N1 hc hf hcW hfW hq1 hqj
      have HB := Lib.hid b1
      clear b1
      cases bq with
      | true =>
        clear e22 hc2 hf2 hup
        go_wp2_with fail
        exact ⟨⟨i + 1, l, v3, by omega, by go_num, by omega, HX.out.1, HX.out.2.1.mono (by omega), HX.out.2.2.1, HX.out.2.2.2.1, HX.out.2.2.2.2.2.2.1, HX.out.2.2.2.2.2.2.2.1⟩, by simp [intOf]; omega⟩
      | false =>
        have hO2 : OwnN .u64 W2 v3 l := HX.out.1.kp HX.out.2.2.2.2.2.1 (by intro j hj h; have := HX.out.2.2.2.1 j hj; simp at h; omega)
        go_wp2_with (at_builtin; go_must (refine wpList_u641 _ rfl _ _ rfl rfl v3 l rfl _ _ rfl rfl hO2 (by omega) ?_); intro v' w' hO' hT'; have q3 : w'.cell? ⟨q, 0, none⟩ = some v3 := (hT'.1.cell (p := ⟨q, 0, none⟩) hq2 (fun h => HX.out.2.2.2.2.2.2.2.2.2.2.2 q h rfl)).trans hc2; have f3 : w'.frozen? ⟨q, 0, none⟩ = false := (hT'.1.frozen (p := ⟨q, 0, none⟩) hq2 (fun h => HX.out.2.2.2.2.2.2.2.2.2.2.2 q h rfl)).trans hf2; obtain ⟨b', c', hv', _⟩ := ownN_form hO'; rw [List.length_append, List.length_singleton] at hv'; subst hv'; replace hO' := Lib.hid (And.intro hO' hT'); clear hT')
        go_roundw
        case rel =>
          have hK3 : Kp [q, q + 1] w1 w' := ((HX.out.2.2.1.step HX.out.2.2.2.2.2.1 (by simp)).step hO'.out.2.1 (fun j hj => .inr (by have := HX.out.2.2.2.1 j hj; have := hF.out.2.2.2.1; omega)))
          have hnq : ∀ j ∈ (Value.slice b' (l.length + 1) c').ownBlock.toList, q + 1 < j := fun j hj => by
            rcases hO'.out.2.2 j hj with h | h
            · exact HX.out.2.2.2.1 j h
            · have := hF.out.2.2.2.1; have := HX.out.2.2.1.size; have := HX.out.2.2.2.2.2.1.size; omega
          have hKs : Kp [q] w' (w'.setCell ⟨q, 0, none⟩ (.slice b' (l.length + 1) c')) := (Kp.refl _ _).setCell (.inl (by simp)) _
          have hS3 : Seen 26 w' (q + 1) (i + 1) := HX.out.2.2.2.2.1.kp hO'.out.2.1 (fun h => by have := HX.out.2.2.2.1 _ h; omega)
          have hnn : ∀ j ∈ (Value.slice b' (l.length + 1) c').ownBlock.toList, j ∉ [q] := fun j hj h => by
            have h1 := hnq j hj
            rw [List.mem_singleton.1 h] at h1
            omega
          have hOK : OwnN .u64 (w'.setCell ⟨q, 0, none⟩ (.slice b' (l.length + 1) c')) (.slice b' (l.length + 1) c') (l ++ [((x.1.code : Nat) : Int)]) := RowV.kp hO'.out.1 hKs hnn
          have hSK : Seen 26 (w'.setCell ⟨q, 0, none⟩ (.slice b' (l.length + 1) c')) (q + 1) (i + 1) := hS3.kp hKs (fun h => by have := List.mem_singleton.1 h; omega)
          have hKK : Kp [q, q + 1] w1 (w'.setCell ⟨q, 0, none⟩ (.slice b' (l.length + 1) c')) := hK3.step hKs (fun j h => .inl (by rw [List.mem_singleton.1 h]; exact List.mem_cons_self))
          refine ⟨i + 1, l ++ [((x.1.code : Nat) : Int)], .slice b' (l.length + 1) c', by omega, by go_num, by simp; omega, hOK, hSK, hKK, hnq, ?_, ?_⟩
          · rw [World.cell?_setCell_same _ _ _ q3]
          · rw [World.frozen?_setCell]; exact f3
        case measure => simp [intOf]; omega
    · have hdd : decide ((i : Int) < (n : Int)) = false := by rw [decide_eq_false_iff_not]; omega
      have hik' : i = n := by omega
      subst hik'
      have hso := sortCodes_any q v3 l wr hO (by omega) hc hqj
      have HX := Lib.hid (And.intro hbw (And.intro hso (And.intro hj (And.intro hF (And.intro hc (And.intro hqr hqj))))))
      clear hO hS hK hj hF hbw hso hf hqj hqr
      go_wp2_with (go_at_call 78; refine HX.out.2.1.mono ?_; rintro _ w2 ⟨rfl, l', hl', hO', hK'⟩; have q4 : w2.cell? ⟨q, 0, none⟩ = some v3 := (hK'.cell (p := ⟨q, 0, none⟩) HX.out.2.2.2.2.2.1 (fun h => HX.out.2.2.2.2.2.2 q h rfl)).trans HX.out.2.2.2.2.1; replace hO' := Lib.hid (And.intro hl' (And.intro hO' hK')); clear hl' hK')
      refine bodyPost_ret (v := v3) (by simp [results, Tryz.results69, go_sem]) rfl ⟨⟨v3, l', rfl, hO'.out.2.1, by rw [hO'.out.1]; exact hl, fun j hj => by have := HX.out.2.2.1 j hj; have := HX.out.2.2.2.1.out.2.2.2.2.1; omega⟩, ?_⟩
      exact ((Kp.of_below HX.out.1 []).step hO'.out.2.2 (fun j hj => .inr (by have := HX.out.2.2.1 j hj; have := HX.out.2.2.2.1.out.2.2.2.2.1; omega))).below
end Go.Proofs.YtlafdmmjbkdkaaaGreatDoor
