/-
  The walks of impl.headerIn, impl.HdMatches. Conditions: as each contract says.
-/
import Derived.Test.YtdfhfaeeejijcaaDoorHdM
import Derived.Deep.RegionLaw
namespace Go.Proofs.YtdfhfaeeejijcaaDoor
open Go.RowKit

theorem infoCid : (Tryd.prog.info? 58).map (fun i => (i.zero, i.size, i.bytes)) = some (some (.agg #[.string ⟨#[]⟩]), 1, 16) := by kernel_rfl

/-- The cells of texts. -/
def strs (M : List (List UInt8)) : List Value := M.map fun s => .string ⟨s.toArray⟩
/-- The bytes of identifiers. -/
def wrL (L : List CidL) : List (List UInt8) := L.map CidL.wr

theorem ss_own {w : World} {base : Nat} {e : TypeId} {g n cap : Nat} {M : List (List UInt8)} (h : w.ownsRow base e 1 (.slice (some ⟨g, 0, none⟩) n cap) n (strs M)) : Ss w g M := by
  intro j hj
  have hl : (strs M).length = n := by have := h.1; omega
  have hj' : j < n := by rw [← hl]; simpa [strs] using hj
  rw [h.cellAt j (by omega)]
  simp [strs, hj]

theorem grown_setCell (w : World) (p : Addr) (u : Value) : w.grownBy (w.setCell p u) (some p.block) :=
  ⟨rfl, rfl, rfl, by simp [World.setCell], fun k _ hn => Below.heap_setCell _ _ _ _ (by simpa using hn)⟩

/-- A slice in the first cell of a block that has grown by an element and is written back. -/
theorem hi_step {w W3 w4 : World} {g g2 cap cap2 k m : Nat} {x y : Value} {M : List Value} {o : Obj} {T E : TypeId} {hb : Nat} (hbw : w.heap.size ≤ hb) (hW : Below w.heap.size w W3) (BH : Blk W3 hb T #[.slice (some ⟨g, 0, none⟩) k cap, x])
    (O : W3.ownsRow w.heap.size E 1 (.slice (some ⟨g, 0, none⟩) k cap) k M) (hgh : g ≠ hb) (hgr : ((W3.alloc o).drewN m).grownBy w4 (some g)) (hat : some g = some g2 ∨ g2 = W3.heap.size + 1)
    (hown4 : w4.ownsRow w.heap.size E 1 (.slice (some ⟨g2, 0, none⟩) (k + 1) cap2) (k + 1) (M ++ [y])) :
    Below w.heap.size w (w4.setCell ⟨hb, 0, none⟩ (.slice (some ⟨g2, 0, none⟩) (k + 1) cap2)) ∧ Blk (w4.setCell ⟨hb, 0, none⟩ (.slice (some ⟨g2, 0, none⟩) (k + 1) cap2)) hb T #[.slice (some ⟨g2, 0, none⟩) (k + 1) cap2, x] ∧
      g2 ≠ hb ∧ w.heap.size ≤ g2 ∧ (w4.setCell ⟨hb, 0, none⟩ (.slice (some ⟨g2, 0, none⟩) (k + 1) cap2)).ownsRow w.heap.size E 1 (.slice (some ⟨g2, 0, none⟩) (k + 1) cap2) (k + 1) (M ++ [y]) := by
  have hbl := BH.lt
  have h1 : Below w.heap.size w ((W3.alloc o).drewN m) := below_drewN (Old.alloc hW o) m
  have hb4 : Below w.heap.size w w4 := h1.grown hgr h1.size (fun k hk => by
    have e : g = k := by simpa using hk
    exact e ▸ (O.lt g rfl).1)
  have B4 : Blk w4 hb T #[.slice (some ⟨g, 0, none⟩) k cap, x] := Blk.grown ((BH.alloc o).drewN m) hgr (by simp; omega)
  have hne : g2 ≠ hb := by
    rcases hat with h | h
    · have : g = g2 := by simpa using h
      omega
    · omega
  refine ⟨hb4.setCell (p := ⟨hb, 0, none⟩) hbw _, B4.set_ 0 _, hne, (hown4.lt g2 rfl).1, ?_⟩
  exact hown4.kept (grown_setCell _ _ _) (.inr (by simp [Value.ownBlock]; exact hne))

/-- What headerIn comes to. -/
def HiPost (n : Nat) (v : Int) (M : List (List UInt8)) (w : World) (e : Ending) (w' : World) : Prop :=
  (∃ hb g cap, e = .returned (.tuple #[.pointer (some ⟨hb, 0, none⟩), .bool true]) ∧ Blk w' hb 52 #[.slice (some ⟨g, 0, none⟩) n cap, .int .u64 v] ∧ Ss w' g M) ∧ Below w.heap.size w w'

set_option maxRecDepth 100000 in
set_option maxHeartbeats 2000000 in
theorem headerIn_any (a : Option Addr) (n c : Nat) (L : List CidL) (v : Int) (w : World) (hL : L.length = n) (hn : n ≤ 1000) (h : n = 0 ∨ ∃ b off, a = some ⟨b, off, none⟩ ∧ Cs w b off L) (hg : ∀ (j : Nat) (hj : j < L.length), L[j].hd)
    (e0 : Er w 7) (e1 : Er w 8) (e2 : Er w 9) (e3 : Er w 13) :
    Calls Tryd.prog 19 #[.slice a n c, .int .u64 v] w (HiPost n v (wrL L) w) := by
  have HF := Lib.hid (And.intro hL (And.intro h hg))
  have HE := Lib.hid (And.intro e0 (And.intro e1 (And.intro e2 e3)))
  clear hL h hg e0 e1 e2 e3
  have hmk : ∀ W : World, (Instr.makeSlice 50 (.int .i64 0) (.int .i64 0)).run Tryd.prog W = .ok (.slice (some ⟨W.heap.size, 0, none⟩) 0 0) (W.alloc (.cells #[] 58)) := fun _ => by kernel_rfl
  go_enter Tryd.func19, Tryd.ntmps19
  go_wp2_with fail
  obtain ⟨i0, hi0, hz0, hz1, hz2⟩ := info_parts infoCid
  have b00 : Below w.heap.size w ((w.alloc (.cells #[] 58)).alloc (.cells #[.slice (some ⟨w.heap.size, 0, none⟩) 0 0, .int .u64 v] 52)) := Old.alloc (Old.alloc (Below.refl _ _) _) _
  have B00 : Blk ((w.alloc (.cells #[] 58)).alloc (.cells #[.slice (some ⟨w.heap.size, 0, none⟩) 0 0, .int .u64 v] 52)) (w.heap.size + 1) 52 #[.slice (some ⟨w.heap.size, 0, none⟩) (0 : Nat) 0, .int .u64 v] := by
    have := Blk.new (w.alloc (.cells #[] 58)) 52 #[.slice (some ⟨w.heap.size, 0, none⟩) 0 0, .int .u64 v]
    simpa using this
  have O00 : ((w.alloc (.cells #[] 58)).alloc (.cells #[.slice (some ⟨w.heap.size, 0, none⟩) 0 0, .int .u64 v] 52)).ownsRow w.heap.size 58 1 (.slice (some ⟨w.heap.size, 0, none⟩) (0 : Nat) 0) 0 (strs (wrL (L.take 0))) :=
    (World.ownsRow_made w #[] 0 (Nat.le_refl _) (by unfold maxLen; omega) rfl).alloc _
  go_loopw [17] (fun i wr => ∃ k g cap : Nat, k ≤ n ∧ i = .int .i64 k ∧ Below w.heap.size w wr ∧ Blk wr (w.heap.size + 1) 52 #[.slice (some ⟨g, 0, none⟩) k cap, .int .u64 v] ∧ g ≠ w.heap.size + 1 ∧ w.heap.size ≤ g ∧
      wr.ownsRow w.heap.size 58 1 (.slice (some ⟨g, 0, none⟩) k cap) k (strs (wrL (L.take k)))) (fun i _ => n - (intOf i).toNat)
  case atStart => exact ⟨0, w.heap.size, 0, Nat.zero_le _, rfl, b00, B00, by omega, Nat.le_refl _, O00⟩
  case round =>
    clear b00 B00 O00 hmk
    obtain ⟨k, g, cap, hk, rfl, hW, BH, hgh, hgw, hown⟩ := hrel
    by_cases hkn : k < n
    · obtain h0 | ⟨b, off, rfl, hcs⟩ := HF.out.2.1
      · omega
      have hkL : k < L.length := by rw [HF.out.1]; exact hkn
      obtain ⟨c0, c1, c2, c3⟩ := (hcs.old hW) k hkL
      have htd := HF.out.2.2 k hkL
      obtain ⟨x, hx⟩ : ∃ x, L[k] = x := ⟨_, rfl⟩
      rw [hx] at c0 c1 c2 c3 htd
      have hkI : (k : Int) < (n : Int) := by omega
      have hci := fun W (hb : Below w.heap.size w W) => cidIn_any x W htd.1 (by have := htd.2; omega) (HE.out.1.old hb) (HE.out.2.1.old hb) (HE.out.2.2.1.old hb) (HE.out.2.2.2.old hb)
      have HX := Lib.hid (And.intro hci hx)
      have hW1 := Old.alloc hW (.cells #[.int .u64 (x.version : Nat), .int .u64 (x.codec : Nat), .int .u64 (x.code : Nat), .string ⟨x.digest.toArray⟩] 26)
      have BH1 := BH.alloc (.cells #[.int .u64 (x.version : Nat), .int .u64 (x.codec : Nat), .int .u64 (x.code : Nat), .string ⟨x.digest.toArray⟩] 26)
      have O1 := hown.alloc (.cells #[.int .u64 (x.version : Nat), .int .u64 (x.codec : Nat), .int .u64 (x.code : Nat), .string ⟨x.digest.toArray⟩] 26)
      have hglt := (O1.lt g rfl).2
      clear hcs hci htd hx hW BH hown
      go_wp2_with fail
      clear c0 c1 c2 c3
      generalize wr.alloc (.cells #[.int .u64 (x.version : Nat), .int .u64 (x.codec : Nat), .int .u64 (x.code : Nat), .string ⟨x.digest.toArray⟩] 26) = W1 at *
      refine (HX.out.1 W1 hW1).mono ?_
      rintro e w2 ⟨rfl, b2⟩
      have hW3 := Old.alloc (Old.trans hW1 b2) (.cells #[.string ⟨x.wr.toArray⟩] 58)
      have BH3 := (BH1.old b2).alloc (.cells #[.string ⟨x.wr.toArray⟩] 58)
      have O3 := (O1.kept (row := none) ⟨b2.os, b2.tape, b2.output, b2.size, fun k hk _ => b2.block k hk⟩ (.inr (by simp [Value.ownBlock]))).alloc (.cells #[.string ⟨x.wr.toArray⟩] 58)
      have X3 := Blk.new w2 58 #[.string ⟨x.wr.toArray⟩]
      clear hW1 BH1 O1
      go_wp2_with fail
      generalize w2.alloc (.cells #[.string ⟨x.wr.toArray⟩] 58) = W3 at *
      have qH : W3.cell? ⟨w.heap.size + 1, 0, none⟩ = some (.slice (some ⟨g, 0, none⟩) k cap) := BH3.cell 0
      have qX : W3.cell? ⟨w2.heap.size, 0, none⟩ = some (.string ⟨x.wr.toArray⟩) := X3.cell 0
      have fH := BH3.frozen 0
      have zH := BH3.lt
      have zX := X3.lt
      have zg : g < w2.heap.size := Nat.lt_of_lt_of_le hglt b2.size
      clear b2 hglt
      have HU := Lib.hid (show ∀ (o : Obj) (W4 : World) (m : Nat), ((W3.alloc o).drewN m).grownBy W4 (some g) → W4.cell? ⟨w.heap.size + 1, 0, none⟩ = some (.slice (some ⟨g, 0, none⟩) k cap) ∧ W4.frozen? ⟨w.heap.size + 1, 0, none⟩ = false from fun o W4 m hgr => by
        have hlt : (⟨w.heap.size + 1, 0, none⟩ : Addr).block < ((W3.alloc o).drewN m).heap.size := by show w.heap.size + 1 < (W3.alloc o).heap.size; simp; omega
        have hne : some (⟨w.heap.size + 1, 0, none⟩ : Addr).block ≠ some g := by simp; omega
        exact ⟨(hgr.cell_far _ hlt hne).trans ((BH3.alloc o).cell 0), (hgr.frozen_far _ hlt hne).trans ((BH3.alloc o).frozen 0)⟩)
      go_region_law ((refine step_append_lies _ (by rfl) _ _ _ (by rfl) w.heap.size 58 i0 _ 1 16 Tryd.underlying50 hi0 hz0 hz1 hz2 rfl (by omega) (.slice (some ⟨g, 0, none⟩) k cap) k (strs (wrL (L.take k))) (by rfl) ((O3.alloc _).drew)
                         ⟨W3.heap.size, 0, none⟩ 1 1 [.string ⟨x.wr.toArray⟩] (by rfl) (by rfl) (World.news_of_block (cs := #[.string ⟨x.wr.toArray⟩]) (t := 58) (fr := (0, 0)) (heap_alloc_new W3 _)) (by simp [Value.oneCell'])
                         (by omega) (by unfold maxLen; omega) (by omega) (by simp; omega) (W3.heap.size + 1) (by simp) ?_; intro g2 cap2 w4 hown4 hgrow hat hlt; obtain ⟨q4, f4⟩ := HU.out _ w4 1 hgrow))
      all_goals
        have hst := hi_step (m := 1) (Nat.le_succ _) hW3 BH3 O3 hgh hgrow hat hown4
        have hstr : strs (wrL (L.take (k + 1))) = strs (wrL (L.take k)) ++ [.string ⟨x.wr.toArray⟩] := by
          rw [List.take_succ_eq_append_getElem hkL, HX.out.2]; simp [strs, wrL]
        rw [← hstr] at hst
        have HST := Lib.hid hst
        clear hst hstr hown4
        go_wp2_with fail
        go_roundw
        case rel => exact ⟨k + 1, g2, cap2, hkn, by go_num, HST.out⟩
        case measure => simp [intOf]; omega
    · have hkn' : k = n := by omega
      subst hkn'
      go_wp2_with fail
      go_ret2
      refine ⟨⟨_, g, cap, rfl, BH, ?_⟩, hW⟩
      have := ss_own hown
      rwa [List.take_of_length_le (by rw [HF.out.1]; exact Nat.le_refl _)] at this
end Go.Proofs.YtdfhfaeeejijcaaDoor
