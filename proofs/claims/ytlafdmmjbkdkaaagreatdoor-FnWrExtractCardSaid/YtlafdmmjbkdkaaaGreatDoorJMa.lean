/-
  A row of bytes that may be written: append of one byte, a copy into its midst. Conditions: as each law says.
  A row of cells that the code has made, or nil; append onto it out of whatever source. Conditions: as each law says.
-/
import Derived.Test.YtlafdmmjbkdkaaaGreatDoorJGa
import Derived.ArgAppend
import Derived.Deep.MidRow
import Derived.Deep.AppendSrc
import Derived.Deep.Upon
namespace Go.Proofs.YtlafdmmjbkdkaaaGreatDoor
open Go.RowKit

/-- Block g holds the bytes l, and has room for cap. -/
structure RowB (w : World) (g cap : Nat) (l : List UInt8) : Prop where
  lt : g < w.heap.size
  le : l.length ≤ cap
  mx : cap ≤ maxLen
  bs : Bs w g 0 l
  ok : ∀ i, i < cap → (w.cell? ⟨g, i, none⟩).isSome = true ∧ w.frozen? ⟨g, i, none⟩ = false
theorem RowB.kp {w w' : World} {g cap : Nat} {l : List UInt8} {L : List Nat} (h : RowB w g cap l) (k : Kp L w w') (hg : g ∉ L) : RowB w' g cap l :=
  ⟨Nat.lt_of_lt_of_le h.lt k.size, h.le, h.mx, h.bs.kp k hg, fun i hi => by
    rw [k.cell (p := ⟨g, i, none⟩) h.lt hg, k.frozen (p := ⟨g, i, none⟩) h.lt hg]; exact h.ok i hi⟩
theorem RowB.old {w w' : World} {g cap : Nat} {l : List UInt8} (h : RowB w g cap l) (b : Below w.heap.size w w') : RowB w' g cap l := h.kp (Kp.of_below b []) (by simp)
theorem RowB.take {w : World} {g cap : Nat} {l : List UInt8} (h : RowB w g cap l) (k : Nat) : RowB w g cap (l.take k) :=
  ⟨h.lt, by have := h.le; rw [List.length_take]; omega, h.mx, h.bs.take k, h.ok⟩

theorem rowB_own {w : World} {base g cap : Nat} {l : List UInt8} {e : TypeId} (h : w.ownsRow base e 1 (.slice (some ⟨g, 0, none⟩) l.length cap) l.length (Lib.byteCells l)) : RowB w g cap l ∧ base ≤ g := by
  have hb := bs_own h
  obtain ⟨h1, h2 | ⟨g', cap', cur, hv, hg, hc, hle, hmx, hsz, htk⟩⟩ := h
  · cases h2.1
  · cases hv
    have hlt : g < w.heap.size := by
      rcases Nat.lt_or_ge g w.heap.size with h | h
      · exact h
      · rw [Array.getElem?_eq_none h] at hc; cases hc
    have hB : Blk w g e cur := hc
    refine ⟨⟨hlt, hle, hmx, hb, fun i hi => ⟨?_, hB.frozen i⟩⟩, hg⟩
    rw [hB.cell]
    have : i < cur.size := by omega
    simp [this]

theorem rowB_bytes (w : World) (e : TypeId) (l : List UInt8) (hl : l.length ≤ 1000000000) : RowB (Lib.bytesWorld w e ⟨l.toArray⟩) w.heap.size (grownCap w l.length 0 e) l := by
  have hs : (⟨l.toArray⟩ : ByteArray).size = l.length := by simp [ByteArray.size]
  have hbs := bw_bs w e ⟨l.toArray⟩
  have hz := bw_size w e ⟨l.toArray⟩
  have hn := Lib.bytesWorld_at_new w e ⟨l.toArray⟩
  have hge := grownCap_ge w l.length 0 e
  have hcz : (Lib.bytesCells w e ⟨l.toArray⟩).size = grownCap w l.length 0 e := by
    unfold Lib.bytesCells
    rw [Array.size_append, Array.size_replicate, Array.size_map, hs]
    have : (⟨l.toArray⟩ : ByteArray).data.size = l.length := by simp
    omega
  refine ⟨by rw [hz]; omega, hge, grownCap_le_maxLen w _ 0 e (by unfold maxLen; omega), by simpa using hbs, fun i hi => ?_⟩
  constructor
  · simp only [World.cell?, hn]
    have : i < (Lib.bytesCells w e ⟨l.toArray⟩).size := by omega
    simp [this]
  · simp only [World.frozen?, hn]
    simp
    omega

/-- append(b, c): c lies in a block of its own, laid last. -/
theorem rowB_append (w : World) (i0 : TypeInfo) (hi : Tryz.prog.info? 5 = some i0) (hz : i0.zero = some (.int .u8 0)) (hsize : i0.size = 1) (hby : i0.bytes = 1) (g cap : Nat) (l : List UInt8) (c : UInt8) (h : RowB w g cap l) (hl : l.length ≤ 1000000000) :
    ∃ g' cap' w', (Builtin.append_ #[45, 45] 45 #[.slice (some ⟨g, 0, none⟩) l.length cap, .slice (some ⟨w.heap.size, 0, none⟩) 1 1]).run Tryz.prog (w.alloc (.cells #[.int .u8 (c.toNat : Int)] 5)) = .ok (.slice (some ⟨g', 0, none⟩) (l.length + 1) cap') w' ∧
      RowB w' g' cap' (l ++ [c]) ∧ Kp [g] w w' ∧ (g' = g ∨ w.heap.size ≤ g') := by
  have hx := Blk.new w 5 #[.int .u8 (c.toNat : Int)]
  have hb0 := Old.alloc (Below.refl w.heap.size w) (.cells #[.int .u8 (c.toNat : Int)] 5)
  have hW := h.old hb0
  have hk : Kp [g] w (w.alloc (.cells #[.int .u8 (c.toNat : Int)] 5)) := (Kp.refl _ _).alloc _
  have hsz : (w.alloc (.cells #[.int .u8 (c.toNat : Int)] 5)).heap.size = w.heap.size + 1 := by simp
  have hnew : ∀ j u, [Value.int .u8 (c.toNat : Int)][j]? = some u → (w.alloc (.cells #[.int .u8 (c.toNat : Int)] 5)).cell? ((⟨w.heap.size, 0, none⟩ : Addr).add j) = some u := by
    intro j u hu
    rw [add_at, Nat.zero_add, hx.cell]
    simpa using hu
  have hgl := h.lt
  have hpos := h.le
  generalize w.alloc (.cells #[.int .u8 (c.toNat : Int)] 5) = W at *
  by_cases hr : l.length + 1 ≤ cap
  · have hrun := run_append_room_cells (P := Tryz.prog) W 45 45 5 i0 Tryz.underlying45 hi g 0 l.length cap ⟨w.heap.size, 0, none⟩ 1 1 [.int .u8 (c.toNat : Int)] (by rw [hsize]; rfl) hnew (by simp [Value.oneCell']) hr
      (fun j hj => by
        simp at hj
        subst hj
        rw [hsize]
        exact (hW.ok _ (by omega)).1) (fun j hj => by
        simp at hj
        subst hj
        rw [hsize]
        exact (hW.ok _ (by omega)).2)
    refine ⟨g, cap, _, hrun, ?_, Kp.of_setCells (.inl (by simp)) _ _ _ hk, .inl rfl⟩
    rw [hsize]
    have e1 : 0 + l.length * 1 = l.length := by omega
    rw [e1]
    show RowB (W.setCell ⟨g, l.length, none⟩ (.int .u8 (c.toNat : Int))) g cap (l ++ [c])
    have hsome := (hW.ok l.length (by omega)).1
    refine ⟨by simp [World.setCell]; exact hW.lt, by simpa using hr, hW.mx, ?_, fun i hi => ⟨?_, (World.frozen?_setCell _ _ _ _).trans (hW.ok i hi).2⟩⟩
    · intro j hj
      rw [Nat.zero_add]
      obtain ⟨u, hu⟩ := Option.isSome_iff_exists.1 hsome
      by_cases hjl : j = l.length
      · subst hjl
        rw [World.cell?_setCell_same _ _ _ hu]
        simp
      · have hj' : j < l.length := by simp at hj; omega
        rw [World.cell?_setCell_other _ _ _ _ (by intro hh; simp only [Addr.mk.injEq] at hh; omega), List.getElem_append_left hj']
        have := hW.bs j hj'
        rwa [Nat.zero_add] at this
    · obtain ⟨u, hu⟩ := Option.isSome_iff_exists.1 (hW.ok i hi).1
      obtain ⟨u', hu'⟩ := Option.isSome_iff_exists.1 hsome
      by_cases hil : i = l.length
      · subst hil
        rw [World.cell?_setCell_same _ _ _ hu]
        rfl
      · rw [World.cell?_setCell_other _ _ _ _ (by intro hh; simp only [Addr.mk.injEq] at hh; omega), hu]
        rfl
  · obtain ⟨v', w', hrun, hown, hgr⟩ := run_append_arg_grows (P := Tryz.prog) W 45 45 5 i0 (.int .u8 0) 1 1 Tryz.underlying45 hi hz hsize hby rfl (by decide) ⟨g, 0, none⟩ l.length cap (Lib.byteCells l) (by rw [Lib.byteCells_length]; omega) (bs_src hW.bs) ⟨w.heap.size, 0, none⟩ 1 1 [.int .u8 (c.toNat : Int)] rfl hnew (by omega) (by unfold maxLen; omega) (by omega)
    have hl1 : (l ++ [c]).length = l.length + 1 := by simp
    have hbc : Lib.byteCells l ++ [.int .u8 (c.toNat : Int)] = Lib.byteCells (l ++ [c]) := by simp [Lib.byteCells]
    rw [hbc, ← hl1] at hown
    obtain ⟨g', cap', rfl, hg1, hg2, hg3, _⟩ := own_form hown (by simp)
    rw [hl1] at hrun
    have hR := rowB_own hown
    refine ⟨g', cap', w', hrun, hR.1, hk.grown hgr (by intro k hk; cases hk), .inr (by have := hR.2; omega)⟩

/-- copy(b[at:], P): the world behind it. -/
theorem rowB_copy {w : World} {g cap : Nat} {l P : List UInt8} (h : RowB w g cap l) (k : Nat) (hk : k + P.length ≤ l.length) :
    RowB (w.setCells g k (Lib.byteCells P)) g cap (l.take k ++ (P ++ l.drop (k + P.length))) ∧ Kp [g] w (w.setCells g k (Lib.byteCells P)) := by
  have hkp : Kp [g] w (w.setCells g k (Lib.byteCells P)) := Kp.of_setCells (.inl (by simp)) _ _ _ (Kp.refl _ _)
  have hll : (l.take k ++ (P ++ l.drop (k + P.length))).length = l.length := by simp; omega
  have hle := h.le
  have hsome : ∀ i, i < (Lib.byteCells P).length → (w.cell? ⟨g, k + i, none⟩).isSome = true := fun i hi => (h.ok _ (by rw [Lib.byteCells_length] at hi; omega)).1
  refine ⟨⟨Nat.lt_of_lt_of_le h.lt hkp.size, by rw [hll]; exact h.le, h.mx, ?_, fun i hi => ⟨?_, (World.frozen?_setCells g _ _ _ _).trans (h.ok i hi).2⟩⟩, hkp⟩
  · intro j hj
    rw [Nat.zero_add]
    rw [hll] at hj
    by_cases h1 : j < k
    · rw [World.cell?_setCells_out g _ _ _ _ (fun _ _ => Or.inl h1), List.getElem_append_left (by simp; omega), List.getElem_take]
      have := h.bs j hj
      rwa [Nat.zero_add] at this
    · by_cases h2 : j < k + P.length
      · have hj2 : j - k < (Lib.byteCells P).length := by rw [Lib.byteCells_length]; omega
        have := World.cell?_setCells_in g (Lib.byteCells P) k w hsome (j - k) hj2
        rw [show k + (j - k) = j from by omega] at this
        rw [this, List.getElem_append_right (by simp; omega), List.getElem_append_left (by simp; omega)]
        simp only [Lib.byteCells, List.getElem_map, List.length_take]
        have e : j - min k l.length = j - k := by omega
        simp [e]
      · rw [World.cell?_setCells_out g _ _ _ _ (fun _ _ => Or.inr (by rw [Lib.byteCells_length]; show k + P.length ≤ j; omega)), List.getElem_append_right (by simp; omega), List.getElem_append_right (by simp; omega), List.getElem_drop]
        have := h.bs j hj
        rw [Nat.zero_add] at this
        rw [this]
        have e : k + P.length + (j - (l.take k).length - P.length) = j := by rw [List.length_take]; omega
        simp only [e]
  · exact World.isSome_setCells g _ _ _ _ (h.ok i hi).1
end Go.Proofs.YtlafdmmjbkdkaaaGreatDoor

namespace Go.Proofs.YtlafdmmjbkdkaaaGreatDoor
open Go.RowKit

/-- Slice v, of n elements of sz cells, holds the cells cs; its row may be written. -/
def RowV (w : World) (sz : Nat) (v : Value) (n : Nat) (cs : List Value) : Prop := cs.length = n * sz ∧ ((v = .slice none 0 0 ∧ n = 0) ∨ ∃ g cap, v = .slice (some ⟨g, 0, none⟩) n cap ∧ g < w.heap.size ∧ n ≤ cap ∧ cap ≤ maxLen ∧
  (∀ j u, cs[j]? = some u → w.cell? ⟨g, j, none⟩ = some u) ∧ ∀ i, i < cap * sz → (w.cell? ⟨g, i, none⟩).isSome = true ∧ w.frozen? ⟨g, i, none⟩ = false)
/-- What an append may touch. -/
def AppT (w w' : World) (v v' : Value) : Prop := Kp v.ownBlock.toList w w' ∧ ∀ i ∈ v'.ownBlock.toList, i ∈ v.ownBlock.toList ∨ w.heap.size ≤ i
theorem AppT.refl (w : World) (v : Value) : AppT w w v v := ⟨Kp.refl _ _, fun _ h => .inl h⟩
theorem AppT.trans {a b c : World} {u v x : Value} (h : AppT a b u v) (k : AppT b c v x) : AppT a c u x :=
  ⟨h.1.step k.1 h.2, fun i hi => by
    rcases k.2 i hi with h1 | h1
    · exact h.2 i h1
    · exact .inr (Nat.le_trans h.1.size h1)⟩
theorem RowV.lt {w : World} {sz : Nat} {v : Value} {n : Nat} {cs : List Value} (h : RowV w sz v n cs) : ∀ i ∈ v.ownBlock.toList, i < w.heap.size := by
  obtain ⟨_, ⟨rfl, _⟩ | ⟨g, cap, rfl, h1, _⟩⟩ := h
  · intro i hi; simp [Value.ownBlock] at hi
  · intro i hi; simp [Value.ownBlock] at hi; omega
theorem RowV.kp {w w' : World} {sz : Nat} {v : Value} {n : Nat} {cs : List Value} {L : List Nat} (h : RowV w sz v n cs) (k : Kp L w w') (hL : ∀ i ∈ v.ownBlock.toList, i ∉ L) : RowV w' sz v n cs := by
  obtain ⟨h0, h1 | ⟨g, cap, rfl, h1, h2, h3, h4, h5⟩⟩ := h
  · exact ⟨h0, .inl h1⟩
  · have hg : g ∉ L := hL g (by simp [Value.ownBlock])
    refine ⟨h0, .inr ⟨g, cap, rfl, Nat.lt_of_lt_of_le h1 k.size, h2, h3, fun j u hu => ?_, fun i hi => ?_⟩⟩
    · rw [k.cell (p := ⟨g, j, none⟩) h1 hg]; exact h4 j u hu
    · rw [k.cell (p := ⟨g, i, none⟩) h1 hg, k.frozen (p := ⟨g, i, none⟩) h1 hg]; exact h5 i hi
theorem RowV.old {w w' : World} {sz : Nat} {v : Value} {n : Nat} {cs : List Value} (h : RowV w sz v n cs) (b : Below w.heap.size w w') : RowV w' sz v n cs := h.kp (Kp.of_below b []) (by simp)
theorem rowV_nil (w : World) (sz : Nat) : RowV w sz (.slice none 0 0) 0 [] := ⟨by simp, .inl ⟨rfl, rfl⟩⟩

theorem rowV_append (w : World) (t tx e : TypeId) (i0 : TypeInfo) (z : Value) (sz bytes : Nat) (ht : Tryz.prog.underlying t = some (.slice e)) (hi : Tryz.prog.info? e = some i0) (hz : i0.zero = some z) (hsize : i0.size = sz) (hby : i0.bytes = bytes) (hzs : z.cells.size = sz) (h0 : 0 < sz)
    (v : Value) (n : Nat) (cs : List Value) (h : RowV w sz v n cs) (x : Value) (m : Nat) (news : List Value) (hs : Src Tryz.prog sz tx x m news w) (hn : n + m ≤ 1000000000) (hb : bytes ≤ 100) :
    ∃ v' w', (Builtin.append_ #[t, tx] t #[v, x]).run Tryz.prog w = .ok v' w' ∧ RowV w' sz v' (n + m) (cs ++ news) ∧ AppT w w' v v' := by
  subst hsize
  obtain ⟨hl, hv⟩ := h
  have hl2 : (cs ++ news).length = (n + m) * i0.size := by rw [List.length_append, hl, hs.newsLen, Nat.add_mul]
  have grow : ∀ (base : Option Addr) (cap : Nat), cap < n + m → (Builtin.firstCells i0.size n (.slice base n cap)).run Tryz.prog w.drew = .ok cs.toArray w.drew → (∀ i ∈ (Value.slice base n cap).ownBlock.toList, True) → 
      ∃ v' w', (Builtin.append_ #[t, tx] t #[.slice base n cap, x]).run Tryz.prog w = .ok v' w' ∧ RowV w' i0.size v' (n + m) (cs ++ news) ∧ AppT w w' (.slice base n cap) v' := by
    intro base cap hc hold _
    have hbb : (n + m) * i0.bytes ≤ 140737488355328 := by
      have : (n + m) * i0.bytes ≤ 1000000000 * 100 := Nat.mul_le_mul hn (by omega)
      omega
    have hrun := run_append_grow_src (P := Tryz.prog) w t tx t e i0 z ht hi hz base n cap cs hold x m news hs hc (by omega) (growslice_fits hc hbb)
    obtain ⟨G, hG⟩ : ∃ G, grownCap w (n + m) cap e = G := ⟨_, rfl⟩
    have hge := grownCap_ge w (n + m) cap e
    have hmx := grownCap_le_maxLen w (n + m) cap e (by unfold maxLen; omega)
    rw [hG] at hrun hge hmx
    have hN := Blk.new w.drew e ((cs ++ news).toArray ++ Builtin.zeroCells z.cells (G - (n + m)))
    have hsz : ((cs ++ news).toArray ++ Builtin.zeroCells z.cells (G - (n + m))).size = G * i0.size := by
      rw [Array.size_append, size_zeroCells, List.size_toArray, hl2, hzs, ← Nat.add_mul]
      rw [show n + m + (G - (n + m)) = G by omega]
    have hbw := Old.alloc ((Below.refl w.heap.size w).drew) (.cells ((cs ++ news).toArray ++ Builtin.zeroCells z.cells (G - (n + m))) e)
    refine ⟨_, _, hrun, ⟨hl2, .inr ⟨w.heap.size, G, rfl, hN.lt, hge, hmx, fun j u hu => ?_, fun i hi => ⟨?_, hN.frozen i⟩⟩⟩, Kp.of_below hbw _, fun i hi => ?_⟩
    · have := hN.cell j
      rw [show w.drew.heap.size = w.heap.size from rfl] at this
      rw [this]
      have hj : j < (cs ++ news).length := by
        rcases Nat.lt_or_ge j (cs ++ news).length with h | h
        · exact h
        · rw [List.getElem?_eq_none h] at hu; cases hu
      rw [Array.getElem?_append_left (by simpa using hj)]
      simpa using hu
    · have := hN.cell i
      rw [show w.drew.heap.size = w.heap.size from rfl] at this
      rw [this, Array.getElem?_eq_getElem (by rw [hsz]; exact hi)]
      rfl
    · simp [Value.ownBlock] at hi
      exact .inr (by omega)
  rcases hv with ⟨rfl, rfl⟩ | ⟨g, cap, rfl, hg, hnc, hmx, hc, hok⟩
  · rcases Nat.eq_zero_or_pos m with rfl | hm
    · have hnl : news = [] := List.eq_nil_of_length_eq_zero (by rw [hs.newsLen, Nat.zero_mul])
      subst hnl
      have hrun := run_append_nothing (P := Tryz.prog) w t tx t e i0 ht hi none 0 0 (Nat.le_refl _) x hs
      exact ⟨_, _, hrun, ⟨hl2, .inl ⟨rfl, rfl⟩⟩, AppT.refl _ _⟩
    · have hcs : cs = [] := List.eq_nil_of_length_eq_zero (by rw [hl, Nat.zero_mul])
      subst hcs
      exact grow none 0 (by omega) (run_firstCells_none w.drew i0.size 0 0 0) (fun _ _ => trivial)
  · by_cases hr : n + m ≤ cap
    · have hle : (n + m) * i0.size ≤ cap * i0.size := Nat.mul_le_mul_right _ hr
      have hnl := hs.newsLen
      have hnm : (n + m) * i0.size = n * i0.size + m * i0.size := Nat.add_mul _ _ _
      have hrun := run_append_room_src (P := Tryz.prog) w t tx t e i0 ht hi g 0 n cap x m news hs hr
        (fun j hj => by rw [Nat.zero_add]; exact (hok _ (by omega)).1) (fun j hj => by rw [Nat.zero_add]; exact (hok _ (by omega)).2)
      rw [Nat.zero_add] at hrun
      have hkp : Kp [g] w (w.setCells g (n * i0.size) news) := Kp.of_setCells (.inl (by simp)) _ _ _ (Kp.refl _ _)
      refine ⟨_, _, hrun, ⟨hl2, .inr ⟨g, cap, rfl, Nat.lt_of_lt_of_le hg hkp.size, hr, hmx, fun j u hu => ?_, fun i hi => ⟨World.isSome_setCells g _ _ _ _ (hok i hi).1, (World.frozen?_setCells g _ _ _ _).trans (hok i hi).2⟩⟩⟩, by simpa [Value.ownBlock] using hkp, fun i hi => .inl (by simpa [Value.ownBlock] using hi)⟩
      by_cases hjl : j < cs.length
      · rw [World.cell?_setCells_out g _ _ _ _ (fun _ _ => Or.inl (by show j < n * i0.size; rw [← hl]; exact hjl))]
        rw [List.getElem?_append_left hjl] at hu
        exact hc j u hu
      · rw [List.getElem?_append_right (by omega)] at hu
        have hjn : j - cs.length < news.length := by
          rcases Nat.lt_or_ge (j - cs.length) news.length with h | h
          · exact h
          · rw [List.getElem?_eq_none h] at hu; cases hu
        have := World.cell?_setCells_in g news (n * i0.size) w (fun i hi => (hok _ (by omega)).1) (j - cs.length) hjn
        rw [show n * i0.size + (j - cs.length) = j by omega] at this
        rw [this, ← hu, List.getElem?_eq_getElem hjn]
    · exact grow (some ⟨g, 0, none⟩) cap (by omega) (run_firstCells_some (P := Tryz.prog) w.drew i0.size n ⟨g, 0, none⟩ n cap cs hl (fun j u hu => by rw [add_at, Nat.zero_add]; exact hc j u hu)) (fun _ _ => trivial)

/-- append(v, c): c's cells lie in a block that has just been made. -/
theorem rowV_lit (w : World) (t e : TypeId) (i0 : TypeInfo) (z : Value) (sz bytes : Nat) (ht : Tryz.prog.underlying t = some (.slice e)) (hi : Tryz.prog.info? e = some i0) (hz : i0.zero = some z) (hsize : i0.size = sz) (hby : i0.bytes = bytes) (hzs : z.cells.size = sz) (h0 : 0 < sz)
    (v : Value) (n : Nat) (cs : List Value) (h : RowV w sz v n cs) (news : List Value) (hnl : news.length = sz) (h1 : ∀ u ∈ news, u.oneCell' = true) (hn : n + 1 ≤ 1000000000) (hb : bytes ≤ 100) :
    ∃ v' w', (Builtin.append_ #[t, t] t #[v, .slice (some ⟨w.heap.size, 0, none⟩) 1 1]).run Tryz.prog (w.alloc (.cells news.toArray e)) = .ok v' w' ∧ RowV w' sz v' (n + 1) (cs ++ news) ∧ AppT w w' v v' := by
  have hx := Blk.new w e news.toArray
  have hb0 := Old.alloc (Below.refl w.heap.size w) (.cells news.toArray e)
  have hs : Src Tryz.prog sz t (.slice (some ⟨w.heap.size, 0, none⟩) 1 1) 1 news (w.alloc (.cells news.toArray e)) := Src.ofSlice _ ht ⟨w.heap.size, 0, none⟩ 1 1 news (by omega) (fun j u hu => by rw [add_at, Nat.zero_add, hx.cell]; simpa using hu) h1
  obtain ⟨v', w', hrun, hR, hT⟩ := rowV_append (w.alloc (.cells news.toArray e)) t t e i0 z sz bytes ht hi hz hsize hby hzs h0 v n cs (h.old hb0) _ 1 news hs hn hb
  exact ⟨v', w', hrun, hR, AppT.trans (a := w) ⟨Kp.of_below hb0 _, fun i hi => .inl hi⟩ hT⟩

/-- append at the operation, by its run. -/
theorem wpList_lit {ops : Array Oper} {rest : List Oper} {o : Oper} {a : Act} {Q : Exit → Act → World → Prop} (w : World) (hgd : o.guard = none) (s x : Operand) (t e : TypeId) (cs : List Value) (news : List Value)
    (ho : o.op = .call { callee := .builtin .append, args := #[s, x], argTypes := #[t, t] }) (hot : o.type = t)
    (i0 : TypeInfo) (z : Value) (sz bytes : Nat) (ht : Tryz.prog.underlying t = some (.slice e)) (hi : Tryz.prog.info? e = some i0) (hz : i0.zero = some z) (hsize : i0.size = sz) (hby : i0.bytes = bytes) (hzs : z.cells.size = sz) (h0 : 0 < sz)
    (v : Value) (n : Nat) (hs : a.eval s = v) (h : RowV w sz v n cs) (hx : a.eval x = .slice (some ⟨w.heap.size, 0, none⟩) 1 1) (hnl : news.length = sz) (h1 : ∀ u ∈ news, u.oneCell' = true) (hn : n + 1 ≤ 1000000000) (hb : bytes ≤ 100)
    (K : ∀ v' w', RowV w' sz v' (n + 1) (cs ++ news) → AppT w w' v v' → wpList Tryz.prog ops Q rest (a.put o.dst v') w') : wpList Tryz.prog ops Q (o :: rest) a (w.alloc (.cells news.toArray e)) := by
  obtain ⟨v', w', hrun, hR, hT⟩ := rowV_lit w t e i0 z sz bytes ht hi hz hsize hby hzs h0 v n cs h news hnl h1 hn hb
  exact wpList_append_run hgd s x t t ho v _ hs hx v' w' (by rw [hot]; exact hrun) (K v' w' hR hT)
end Go.Proofs.YtlafdmmjbkdkaaaGreatDoor
