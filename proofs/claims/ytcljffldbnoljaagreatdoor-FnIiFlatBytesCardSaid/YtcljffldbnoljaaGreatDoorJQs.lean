/-
  append as one step of a walk, by the fact of its run; a call as one step of a region that draws. Conditions: as each law says.
  A row of cells that the code has made, or nil; append onto it out of whatever source. Conditions: as each law says.
  sort.SliceStable over entries; append onto a row of entries; spec.ByDigest: the entries, sorted. Conditions: as each law says.
  spec.ByDigest: the entries, sorted. Conditions: as each law says.
-/
import Derived.Test.YtcljffldbnoljaaGreatDoorJRf
import Derived.ArgAppend
import Derived.Deep.MidRow
import Derived.Deep.RegionLaw
import Derived.Deep.AppendSrc
import Derived.Deep.Upon
import Derived.Test.YtcljffldbnoljaaGreatDoorShelf
import Derived.Shelf.GgSortMore.Stable
namespace Go.Proofs.YtcljffldbnoljaaGreatDoor
open Go.RowKit

theorem wpList_append_run {P : Program} {ops : Array Oper} {rest : List Oper} {o : Oper} {a : Act} {w : World} {Q : Exit → Act → World → Prop} (hgd : o.guard = none) (s x : Operand) (t tn : TypeId)
    (ho : o.op = .call { callee := .builtin .append, args := #[s, x], argTypes := #[t, tn] }) (vs vx : Value) (hs : a.eval s = vs) (hx : a.eval x = vx) (v' : Value) (w' : World) (hr : (Builtin.append_ #[t, tn] o.type #[vs, vx]).run P w = .ok v' w')
    (h : wpList P ops Q rest (a.put o.dst v') w') : wpList P ops Q (o :: rest) a w :=
  wpList_plain hgd fun _ hK => Go.Lib.wp_append_run w s x t tn ho vs vx hs hx v' w' hr (hK _ _ h)

/-- An append whose run is known, as a step of a region that draws its order. -/
theorem step_append_run {P : Program} {ops : Array Oper} {o : Oper} {a : Act} {w : World} {K : Act → World → Prop} {Q : Exit → Act → World → Prop} {E : Prop} (hgd : o.guard = none) (s x : Operand) (t tn : TypeId)
    (ho : o.op = .call { callee := .builtin .append, args := #[s, x], argTypes := #[t, tn] }) (vs vx : Value) (hs : a.eval s = vs) (hx : a.eval x = vx) (v' : Value) (w' : World) (hr : (Builtin.append_ #[t, tn] o.type #[vs, vx]).run P w = .ok v' w') (hK : K (a.put o.dst v') w') :
    if Region.wanted o (yielded ops a.tmps) = true then Oper.wp P o a w K Q else E := by
  have hw : Region.wanted o (yielded ops a.tmps) = true := by simp [Region.wanted, hgd]
  rw [if_pos hw]
  exact Go.Lib.wp_append_run w s x t tn ho vs vx hs hx v' w' hr hK

/-- A call of a Go function, as one step of a region that draws. -/
theorem step_calls {P : Program} {ops : Array Oper} {o : Oper} {a : Act} {w : World} {K : Act → World → Prop} {Q : Exit → Act → World → Prop} {E : Prop} (hgd : o.guard = none) (f : Nat) (args : Array Value)
    (hrun : (execOp a.eval o).run P w = .ok (.enter f args) w) (hC : Calls P f args w fun e w' => ∃ v, e = .returned v ∧ K (a.put o.dst v) w') :
    if Region.wanted o (yielded ops a.tmps) = true then Oper.wp P o a w K Q else E := by
  have hw : Region.wanted o (yielded ops a.tmps) = true := by simp [Region.wanted, hgd]
  rw [if_pos hw]
  unfold Oper.wp
  rw [hrun]
  simp only [Oper.upon]
  refine Calls.mono hC ?_
  rintro e w' ⟨v, rfl, h⟩
  exact h

end Go.Proofs.YtcljffldbnoljaaGreatDoor

namespace Go.Proofs.YtcljffldbnoljaaGreatDoor
open Go.RowKit

/-- Slice v, of n elements of sz cells, holds the cells cs; its row may be written. -/
def RowV (w : World) (sz : Nat) (v : Value) (n : Nat) (cs : List Value) : Prop := cs.length = n * sz ∧ ((v = .slice none 0 0 ∧ n = 0) ∨ ∃ g cap, v = .slice (some ⟨g, 0, none⟩) n cap ∧ g < w.heap.size ∧ n ≤ cap ∧ cap ≤ maxLen ∧
  (∀ j u, cs[j]? = some u → w.cell? ⟨g, j, none⟩ = some u) ∧ ∀ i, i < cap * sz → (w.cell? ⟨g, i, none⟩).isSome = true ∧ w.frozen? ⟨g, i, none⟩ = false)
/-- What an append may touch. -/
def AppT (w w' : World) (v v' : Value) : Prop := Kp v.ownBlock.toList w w' ∧ ∀ i ∈ v'.ownBlock.toList, i ∈ v.ownBlock.toList ∨ w.heap.size ≤ i
theorem AppT.refl (w : World) (v : Value) : AppT w w v v := ⟨Kp.refl _ _, fun _ h => .inl h⟩
theorem AppT.trans {a b c : World} {u v x : Value} (h : AppT a b u v) (k : AppT b c v x) : AppT a c u x :=
  ⟨h.1.step k.1 h.2, fun i hi => by
    rcases k.2 i hi with h1 | h1
    · exact h.2 i h1
    · exact .inr (Nat.le_trans h.1.size h1)⟩
theorem RowV.lt {w : World} {sz : Nat} {v : Value} {n : Nat} {cs : List Value} (h : RowV w sz v n cs) : ∀ i ∈ v.ownBlock.toList, i < w.heap.size := by
  obtain ⟨_, ⟨rfl, _⟩ | ⟨g, cap, rfl, h1, _⟩⟩ := h
  · intro i hi; simp [Value.ownBlock] at hi
  · intro i hi; simp [Value.ownBlock] at hi; omega
theorem RowV.kp {w w' : World} {sz : Nat} {v : Value} {n : Nat} {cs : List Value} {L : List Nat} (h : RowV w sz v n cs) (k : Kp L w w') (hL : ∀ i ∈ v.ownBlock.toList, i ∉ L) : RowV w' sz v n cs := by
  obtain ⟨h0, h1 | ⟨g, cap, rfl, h1, h2, h3, h4, h5⟩⟩ := h
  · exact ⟨h0, .inl h1⟩
  · have hg : g ∉ L := hL g (by simp [Value.ownBlock])
    refine ⟨h0, .inr ⟨g, cap, rfl, Nat.lt_of_lt_of_le h1 k.size, h2, h3, fun j u hu => ?_, fun i hi => ?_⟩⟩
    · rw [k.cell (p := ⟨g, j, none⟩) h1 hg]; exact h4 j u hu
    · rw [k.cell (p := ⟨g, i, none⟩) h1 hg, k.frozen (p := ⟨g, i, none⟩) h1 hg]; exact h5 i hi
theorem RowV.old {w w' : World} {sz : Nat} {v : Value} {n : Nat} {cs : List Value} (h : RowV w sz v n cs) (b : Below w.heap.size w w') : RowV w' sz v n cs := h.kp (Kp.of_below b []) (by simp)
theorem rowV_nil (w : World) (sz : Nat) : RowV w sz (.slice none 0 0) 0 [] := ⟨by simp, .inl ⟨rfl, rfl⟩⟩

theorem rowV_append (w : World) (t tx e : TypeId) (i0 : TypeInfo) (z : Value) (sz bytes : Nat) (ht : Tryz.prog.underlying t = some (.slice e)) (hi : Tryz.prog.info? e = some i0) (hz : i0.zero = some z) (hsize : i0.size = sz) (hby : i0.bytes = bytes) (hzs : z.cells.size = sz) (h0 : 0 < sz)
    (v : Value) (n : Nat) (cs : List Value) (h : RowV w sz v n cs) (x : Value) (m : Nat) (news : List Value) (hs : Src Tryz.prog sz tx x m news w) (hn : n + m ≤ 1000000000) (hb : bytes ≤ 100) :
    ∃ v' w', (Builtin.append_ #[t, tx] t #[v, x]).run Tryz.prog w = .ok v' w' ∧ RowV w' sz v' (n + m) (cs ++ news) ∧ AppT w w' v v' := by
  subst hsize
  obtain ⟨hl, hv⟩ := h
  have hl2 : (cs ++ news).length = (n + m) * i0.size := by rw [List.length_append, hl, hs.newsLen, Nat.add_mul]
  have grow : ∀ (base : Option Addr) (cap : Nat), cap < n + m → (Builtin.firstCells i0.size n (.slice base n cap)).run Tryz.prog w.drew = .ok cs.toArray w.drew → (∀ i ∈ (Value.slice base n cap).ownBlock.toList, True) → 
      ∃ v' w', (Builtin.append_ #[t, tx] t #[.slice base n cap, x]).run Tryz.prog w = .ok v' w' ∧ RowV w' i0.size v' (n + m) (cs ++ news) ∧ AppT w w' (.slice base n cap) v' := by
    intro base cap hc hold _
    have hbb : (n + m) * i0.bytes ≤ 140737488355328 := by
      have : (n + m) * i0.bytes ≤ 1000000000 * 100 := Nat.mul_le_mul hn (by omega)
      omega
    have hrun := run_append_grow_src (P := Tryz.prog) w t tx t e i0 z ht hi hz base n cap cs hold x m news hs hc (by omega) (growslice_fits hc hbb)
    obtain ⟨G, hG⟩ : ∃ G, grownCap w (n + m) cap e = G := ⟨_, rfl⟩
    have hge := grownCap_ge w (n + m) cap e
    have hmx := grownCap_le_maxLen w (n + m) cap e (by unfold maxLen; omega)
    rw [hG] at hrun hge hmx
    have hN := Blk.new w.drew e ((cs ++ news).toArray ++ Builtin.zeroCells z.cells (G - (n + m)))
    have hsz : ((cs ++ news).toArray ++ Builtin.zeroCells z.cells (G - (n + m))).size = G * i0.size := by
      rw [Array.size_append, size_zeroCells, List.size_toArray, hl2, hzs, ← Nat.add_mul]
      rw [show n + m + (G - (n + m)) = G by omega]
    have hbw := Old.alloc ((Below.refl w.heap.size w).drew) (.cells ((cs ++ news).toArray ++ Builtin.zeroCells z.cells (G - (n + m))) e)
    refine ⟨_, _, hrun, ⟨hl2, .inr ⟨w.heap.size, G, rfl, hN.lt, hge, hmx, fun j u hu => ?_, fun i hi => ⟨?_, hN.frozen i⟩⟩⟩, Kp.of_below hbw _, fun i hi => ?_⟩
    · have := hN.cell j
      rw [show w.drew.heap.size = w.heap.size from rfl] at this
      rw [this]
      have hj : j < (cs ++ news).length := by
        rcases Nat.lt_or_ge j (cs ++ news).length with h | h
        · exact h
        · rw [List.getElem?_eq_none h] at hu; cases hu
      rw [Array.getElem?_append_left (by simpa using hj)]
      simpa using hu
    · have := hN.cell i
      rw [show w.drew.heap.size = w.heap.size from rfl] at this
      rw [this, Array.getElem?_eq_getElem (by rw [hsz]; exact hi)]
      rfl
    · simp [Value.ownBlock] at hi
      exact .inr (by omega)
  rcases hv with ⟨rfl, rfl⟩ | ⟨g, cap, rfl, hg, hnc, hmx, hc, hok⟩
  · rcases Nat.eq_zero_or_pos m with rfl | hm
    · have hnl : news = [] := List.eq_nil_of_length_eq_zero (by rw [hs.newsLen, Nat.zero_mul])
      subst hnl
      have hrun := run_append_nothing (P := Tryz.prog) w t tx t e i0 ht hi none 0 0 (Nat.le_refl _) x hs
      exact ⟨_, _, hrun, ⟨hl2, .inl ⟨rfl, rfl⟩⟩, AppT.refl _ _⟩
    · have hcs : cs = [] := List.eq_nil_of_length_eq_zero (by rw [hl, Nat.zero_mul])
      subst hcs
      exact grow none 0 (by omega) (run_firstCells_none w.drew i0.size 0 0 0) (fun _ _ => trivial)
  · by_cases hr : n + m ≤ cap
    · have hle : (n + m) * i0.size ≤ cap * i0.size := Nat.mul_le_mul_right _ hr
      have hnl := hs.newsLen
      have hnm : (n + m) * i0.size = n * i0.size + m * i0.size := Nat.add_mul _ _ _
      have hrun := run_append_room_src (P := Tryz.prog) w t tx t e i0 ht hi g 0 n cap x m news hs hr
        (fun j hj => by rw [Nat.zero_add]; exact (hok _ (by omega)).1) (fun j hj => by rw [Nat.zero_add]; exact (hok _ (by omega)).2)
      rw [Nat.zero_add] at hrun
      have hkp : Kp [g] w (w.setCells g (n * i0.size) news) := Kp.of_setCells (.inl (by simp)) _ _ _ (Kp.refl _ _)
      refine ⟨_, _, hrun, ⟨hl2, .inr ⟨g, cap, rfl, Nat.lt_of_lt_of_le hg hkp.size, hr, hmx, fun j u hu => ?_, fun i hi => ⟨World.isSome_setCells g _ _ _ _ (hok i hi).1, (World.frozen?_setCells g _ _ _ _).trans (hok i hi).2⟩⟩⟩, by simpa [Value.ownBlock] using hkp, fun i hi => .inl (by simpa [Value.ownBlock] using hi)⟩
      by_cases hjl : j < cs.length
      · rw [World.cell?_setCells_out g _ _ _ _ (fun _ _ => Or.inl (by show j < n * i0.size; rw [← hl]; exact hjl))]
        rw [List.getElem?_append_left hjl] at hu
        exact hc j u hu
      · rw [List.getElem?_append_right (by omega)] at hu
        have hjn : j - cs.length < news.length := by
          rcases Nat.lt_or_ge (j - cs.length) news.length with h | h
          · exact h
          · rw [List.getElem?_eq_none h] at hu; cases hu
        have := World.cell?_setCells_in g news (n * i0.size) w (fun i hi => (hok _ (by omega)).1) (j - cs.length) hjn
        rw [show n * i0.size + (j - cs.length) = j by omega] at this
        rw [this, ← hu, List.getElem?_eq_getElem hjn]
    · exact grow (some ⟨g, 0, none⟩) cap (by omega) (run_firstCells_some (P := Tryz.prog) w.drew i0.size n ⟨g, 0, none⟩ n cap cs hl (fun j u hu => by rw [add_at, Nat.zero_add]; exact hc j u hu)) (fun _ _ => trivial)

/-- append(v, c): c's cells lie in a block that has just been made. -/
theorem rowV_lit (w : World) (t e : TypeId) (i0 : TypeInfo) (z : Value) (sz bytes : Nat) (ht : Tryz.prog.underlying t = some (.slice e)) (hi : Tryz.prog.info? e = some i0) (hz : i0.zero = some z) (hsize : i0.size = sz) (hby : i0.bytes = bytes) (hzs : z.cells.size = sz) (h0 : 0 < sz)
    (v : Value) (n : Nat) (cs : List Value) (h : RowV w sz v n cs) (news : List Value) (hnl : news.length = sz) (h1 : ∀ u ∈ news, u.oneCell' = true) (hn : n + 1 ≤ 1000000000) (hb : bytes ≤ 100) :
    ∃ v' w', (Builtin.append_ #[t, t] t #[v, .slice (some ⟨w.heap.size, 0, none⟩) 1 1]).run Tryz.prog (w.alloc (.cells news.toArray e)) = .ok v' w' ∧ RowV w' sz v' (n + 1) (cs ++ news) ∧ AppT w w' v v' := by
  have hx := Blk.new w e news.toArray
  have hb0 := Old.alloc (Below.refl w.heap.size w) (.cells news.toArray e)
  have hs : Src Tryz.prog sz t (.slice (some ⟨w.heap.size, 0, none⟩) 1 1) 1 news (w.alloc (.cells news.toArray e)) := Src.ofSlice _ ht ⟨w.heap.size, 0, none⟩ 1 1 news (by omega) (fun j u hu => by rw [add_at, Nat.zero_add, hx.cell]; simpa using hu) h1
  obtain ⟨v', w', hrun, hR, hT⟩ := rowV_append (w.alloc (.cells news.toArray e)) t t e i0 z sz bytes ht hi hz hsize hby hzs h0 v n cs (h.old hb0) _ 1 news hs hn hb
  exact ⟨v', w', hrun, hR, AppT.trans (a := w) ⟨Kp.of_below hb0 _, fun i hi => .inl hi⟩ hT⟩

/-- append at the operation, by its run. -/
theorem wpList_lit {ops : Array Oper} {rest : List Oper} {o : Oper} {a : Act} {Q : Exit → Act → World → Prop} (w : World) (hgd : o.guard = none) (s x : Operand) (t e : TypeId) (cs : List Value) (news : List Value)
    (ho : o.op = .call { callee := .builtin .append, args := #[s, x], argTypes := #[t, t] }) (hot : o.type = t)
    (i0 : TypeInfo) (z : Value) (sz bytes : Nat) (ht : Tryz.prog.underlying t = some (.slice e)) (hi : Tryz.prog.info? e = some i0) (hz : i0.zero = some z) (hsize : i0.size = sz) (hby : i0.bytes = bytes) (hzs : z.cells.size = sz) (h0 : 0 < sz)
    (v : Value) (n : Nat) (hs : a.eval s = v) (h : RowV w sz v n cs) (hx : a.eval x = .slice (some ⟨w.heap.size, 0, none⟩) 1 1) (hnl : news.length = sz) (h1 : ∀ u ∈ news, u.oneCell' = true) (hn : n + 1 ≤ 1000000000) (hb : bytes ≤ 100)
    (K : ∀ v' w', RowV w' sz v' (n + 1) (cs ++ news) → AppT w w' v v' → wpList Tryz.prog ops Q rest (a.put o.dst v') w') : wpList Tryz.prog ops Q (o :: rest) a (w.alloc (.cells news.toArray e)) := by
  obtain ⟨v', w', hrun, hR, hT⟩ := rowV_lit w t e i0 z sz bytes ht hi hz hsize hby hzs h0 v n cs h news hnl h1 hn hb
  exact wpList_append_run hgd s x t t ho v _ hs hx v' w' (by rw [hot]; exact hrun) (K v' w' hR hT)
end Go.Proofs.YtcljffldbnoljaaGreatDoor

namespace Go.Proofs.YtcljffldbnoljaaGreatDoor
open Go.RowKit Go.Sort Go.Lib

theorem below_grow (w : World) (os : Array Obj) : RowKit.Below w.heap.size w (Sort.grow w os) :=
  ⟨rfl, rfl, rfl, by simp [Sort.grow], fun k hk => by simp [Sort.grow, Array.getElem?_append_left hk]⟩
noncomputable def entT : TypeInfo := (Tryz.prog.info? 22).get (by kernel_rfl)
noncomputable def entE : TypeInfo := (Tryz.prog.info? 33).get (by kernel_rfl)
theorem ent_sw (n : Nat) (h2 : 2 ≤ n) : Lib.swapperK n entE 25 = 9 := by
  have a : entE.hasPointers = true := by kernel_rfl
  have b : entE.bytes = 48 := by kernel_rfl
  have c : (n == 0) = false := by simp; omega
  have d : (n == 1) = false := by simp; omega
  simp [Lib.swapperK, a, b, c, d]

/-- Block g holds the entries d; cell lb the slice of them. -/
def RE (lb g n c : Nat) (W : World) (d : Array EntL) : Prop := W.cell? ⟨lb, 0, none⟩ = some (.slice (some ⟨g, 0, none⟩) n c) ∧ HoldsK enC 5 W g 0 d
theorem holdsK_old {w w' : World} {g : Nat} {d : Array EntL} (h : HoldsK enC 5 w g 0 d) (b : RowKit.Below w.heap.size w w') : HoldsK enC 5 w' g 0 d := fun t ht => by
  have h1 := h t ht
  have hlt := World.block_lt_of_cell? w _ h1.1
  exact ⟨(b.cell (p := ⟨g, 0 + t, none⟩) hlt).trans h1.1, (b.frozen (p := ⟨g, 0 + t, none⟩) hlt).trans h1.2⟩
theorem holdsK_kp {w w' : World} {g : Nat} {d : Array EntL} {L : List Nat} (h : HoldsK enC 5 w g 0 d) (b : Kp L w w') (hg : g ∉ L) : HoldsK enC 5 w' g 0 d := fun t ht => by
  have h1 := h t ht
  have hlt := World.block_lt_of_cell? w _ h1.1
  exact ⟨(b.cell (p := ⟨g, 0 + t, none⟩) hlt hg).trans h1.1, (b.frozen (p := ⟨g, 0 + t, none⟩) hlt hg).trans h1.2⟩

theorem swap_entR (lb g n c : Nat) (hne : lb ≠ g) : SwapR (.slice (some ⟨g, 0, none⟩) n c) (typeHandle Tryz.prog 33) g n (RE lb g n c) := by
  rintro W d ⟨hc, hH⟩ hd i j hi hj
  have hS := swapSwapsK_of_literal (P := Tryz.prog) false 88 (fun args W => run_callFunc_extern Tryz.func88 (by kernel_rfl) (by kernel_rfl) (by kernel_rfl) (e := Extern.ReflectliteSwapper.swap false) (by kernel_rfl) args W)
    33 entE (by kernel_rfl) enC 5 enC_len (by kernel_rfl) (fun _ => by kernel_rfl) enC_one g 0 n c W d hH hd i j hi hj
  have hw := swap_worldK enC 5 enC_len W 0 0 g 0 d i j (by omega) (by omega)
  have hself : putRowK enC 5 (Sort.ahead W 0) g 0 d = W := putRowK_self enC 5 W g 0 d hH
  rw [hself] at hw
  change _ = putRowK enC 5 W g 0 (swp d i j) at hw
  have hkp : Kp [g] W ((W.setCells g (0 + i * 5) (enC d[j]!)).setCells g (0 + j * 5) (enC d[i]!)) := Kp.of_setCells (.inl (by simp)) _ _ _ (Kp.of_setCells (.inl (by simp)) _ _ _ (Kp.refl _ _))
  refine ⟨_, hS, ⟨?_, ?_⟩, hkp⟩
  · rw [show (W.setCells g (0 + i * 5) (enC d[j]!)).setCells g (0 + j * 5) (enC d[i]!) = putRowK enC 5 W g 0 (swp d i j) from hw, cell?_putRowK_other enC 5 W g 0 _ _ hne]
    exact hc
  · rw [show (W.setCells g (0 + i * 5) (enC d[j]!)).setCells g (0 + j * 5) (enC d[i]!) = putRowK enC 5 W g 0 (swp d i j) from hw]
    exact holdsK_putRowK enC 5 W g 0 d (swp d i j) hH (size_swp d i j)

/-- What it leaves: the entries in order. -/
def SsPost (lb g n c : Nat) (D : Array EntL) (w : World) (e : Ending) (w' : World) : Prop :=
  e = .returned (.tuple #[]) ∧ (∃ D', RE lb g n c w' D' ∧ PermIn 0 n D D' ∧ SortedIn entLt 0 n D') ∧ Kp [g] w w'

theorem stable_entsR (lb g n c : Nat) (hne : lb ≠ g) (hn : n ≤ 1000) (hnc : n ≤ c) (w : World) (D : Array EntL) (hD : D.size = n) (hR : RE lb g n c w D) (hg : g < w.heap.size) :
    Calls Tryz.prog 61 #[.iface 22 (.slice (some ⟨g, 0, none⟩) n c), .func (.func 62) #[] #[.pointer (some ⟨lb, 0, none⟩)]] w (SsPost lb g n c D w) := by
  have hlb := World.block_lt_of_cell? w _ hR.1
  by_cases h2 : 2 ≤ n
  · have hB : sliceBound Tryz.prog 33 entE 25 (some ⟨g, 0, none⟩) n c = #[.slice (some ⟨g, 0, none⟩) n c, typeHandle Tryz.prog 33] := by
      unfold sliceBound; rw [ent_sw n h2]; rfl
    have hI : InvR (RE lb g n c) := fun W W' d h b => ⟨(b.cell (World.block_lt_of_cell? W _ h.1)).trans h.1, holdsK_old h.2 b⟩
    have hL : LessR (.pointer (some ⟨lb, 0, none⟩)) n entLt (RE lb g n c) := fun W d h hs i j hi hj =>
      (byLess_eq lb g c i j n d W h.2 hs h.1 hi hj hn hnc).mono fun e w' h' => ⟨h'.1, hI W w' d h h'.2, h'.2⟩
    have b0 : RowKit.Below w.heap.size w (stableWorld Tryz.prog Tryz.laysGt8_ren 22 (some ⟨g, 0, none⟩) n c w) := by
      unfold stableWorld
      exact Old.alloc (Old.alloc (Below.refl _ _) _) _
    refine Any.sort_SliceStable_of_stable Tryz.laysGt8 22 33 entT entE (by kernel_rfl) (by kernel_rfl) (by kernel_rfl) (by kernel_rfl) 25 (fun _ => by kernel_rfl) _ n c (by omega) 88 (by rw [ent_sw n h2]; kernel_rfl) _ #[] _ w _ ?_
    rw [hB]
    refine (stable_eq (.pointer (some ⟨lb, 0, none⟩)) _ _ g n _ hI (swap_entR lb g n c hne) entLt entLt_swo hL hn _ D (hI w _ D hR b0) hD (Nat.lt_of_lt_of_le hg b0.size)).mono ?_
    rintro e w' ⟨rfl, h1, h3⟩
    exact ⟨rfl, h1, (Kp.of_below b0 [g]).trans h3⟩
  · have hk : ∃ k f, Lib.swapperK n entE 25 = k ∧ Tryz.prog.funcs.findIdx? (·.name == "internal/reflectlite" ++ ".Swapper$" ++ toString k) = some f := by
      have : n = 0 ∨ n = 1 := by omega
      rcases this with rfl | rfl
      · exact ⟨1, 80, by simp [Lib.swapperK], by kernel_rfl⟩
      · exact ⟨2, 81, by simp [Lib.swapperK], by kernel_rfl⟩
    obtain ⟨k, f, hk1, hk2⟩ := hk
    refine (Any.sort_SliceStable_tiny Tryz.laysGt8 22 33 entT entE (by kernel_rfl) (by kernel_rfl) (by kernel_rfl) (by kernel_rfl) 25 (fun _ => by kernel_rfl) (some ⟨g, 0, none⟩) n c (by omega) f (by rw [hk1]; exact hk2) (.func 62) #[] #[.pointer (some ⟨lb, 0, none⟩)] w).mono ?_
    rintro e w' ⟨rfl, os, rfl⟩
    have b0 : RowKit.Below w.heap.size w (Sort.grow w os) := below_grow w os
    exact ⟨rfl, ⟨D, ⟨(b0.cell hlb).trans hR.1, holdsK_old hR.2 b0⟩, permIn_refl _ _ _, fun i j _ hij hj => by omega⟩, Kp.of_below b0 [g]⟩

theorem entI : Tryz.prog.info? 33 = some entE := by kernel_rfl
theorem entZ : entE.zero = some (.agg #[.int .u64 0, .int .u64 0, .int .u64 0, .string ⟨#[]⟩, .int .u64 0]) := by kernel_rfl
theorem mem_flatK {α : Type} [Inhabited α] (enc : α → List Value) (k : Nat) (hk : ∀ x, (enc x).length = k) (h1 : ∀ x, ∀ v ∈ enc x, v.oneCell' = true) (d : Array α) : ∀ u ∈ (flatK enc k d).toList, u.oneCell' = true := by
  intro u hu
  simp only [flatK, Array.toList_map, List.mem_map, Array.toList_range, List.mem_range] at hu
  obtain ⟨t, ht, rfl⟩ := hu
  rcases Nat.eq_zero_or_pos k with rfl | hp
  · simp at ht
  · refine h1 d[t / k]! _ ?_
    have : t % k < (enc d[t / k]!).length := by rw [hk]; exact Nat.mod_lt _ hp
    rw [getElem!_pos (enc d[t / k]!) (t % k) this]
    exact List.getElem_mem _
/-- The cells of entries that a call is handed, one by one. -/
theorem ens_flat {w : World} {b off : Nat} {L : List EntL} (h : Ens w b off L) (j : Nat) (u : Value) (hj : (flatK enC 5 L.toArray).toList[j]? = some u) : w.cell? ⟨b, off + j, none⟩ = some u := by
  have hlt : j < (flatK enC 5 L.toArray).size := by
    rcases Nat.lt_or_ge j (flatK enC 5 L.toArray).size with h | h
    · exact h
    · rw [Array.getElem?_toList, Array.getElem?_eq_none h] at hj; cases hj
  have hsz : j < L.length * 5 := by simpa using hlt
  rw [Array.getElem?_toList, Array.getElem?_eq_getElem hlt] at hj
  have hi : j / 5 < L.length := by omega
  obtain ⟨c0, c1, c2, c3, c4⟩ := h (j / 5) hi
  have hu : u = (enC L[j / 5])[j % 5]! := by
    have : (flatK enC 5 L.toArray)[j] = (enC L.toArray[j / 5]!)[j % 5]! := by simp [flatK]
    rw [this] at hj
    cases hj
    congr 2
    rw [getElem!_pos L.toArray (j / 5) (by simpa using hi)]
    simp
  have hm : j % 5 = 0 ∨ j % 5 = 1 ∨ j % 5 = 2 ∨ j % 5 = 3 ∨ j % 5 = 4 := by omega
  rcases hm with e | e | e | e | e <;> rw [e] at hu <;> subst hu
  · rw [show off + j = off + j / 5 * 5 by omega]; exact c0
  · rw [show off + j = off + j / 5 * 5 + 1 by omega]; exact c1
  · rw [show off + j = off + j / 5 * 5 + 2 by omega]; exact c2
  · rw [show off + j = off + j / 5 * 5 + 3 by omega]; exact c3
  · rw [show off + j = off + j / 5 * 5 + 4 by omega]; exact c4
theorem holdsK_ens {w : World} {g : Nat} {d : Array EntL} (h : HoldsK enC 5 w g 0 d) : Ens w g 0 d.toList := fun i hi => by
  have hi' : i < d.size := by simpa using hi
  have e := enK_cells h i hi'
  rw [getElem!_pos d i hi'] at e
  simpa using e
end Go.Proofs.YtcljffldbnoljaaGreatDoor

namespace Go.Proofs.YtcljffldbnoljaaGreatDoor
open Go.RowKit Go.Sort Go.Lib

theorem permIn_list {α : Type} [Inhabited α] {d d' : Array α} {n : Nat} (h : PermIn 0 n d d') (hn : d.size = n) : d'.toList.Perm d.toList := by
  have h1 := h.1
  have h2 := h.2.2
  have e1 : d'.extract 0 n = d' := by rw [← hn, ← h1]; exact Array.extract_size
  have e2 : d.extract 0 n = d := by rw [← hn]; exact Array.extract_size
  rw [e1, e2] at h2
  exact h2
theorem sortedIn_list {α : Type} [Inhabited α] {lt : α → α → Bool} {d : Array α} {n : Nat} (h : SortedIn lt 0 n d) (hn : d.size = n) : d.toList.Pairwise (fun a b => lt b a = false) := by
  rw [List.pairwise_iff_getElem]
  intro i j hi hj hij
  have hi' : i < d.size := by simpa using hi
  have hj' : j < d.size := by simpa using hj
  have := h i j (Nat.zero_le _) hij (by omega)
  rw [getElem!_pos d j hj', getElem!_pos d i hi'] at this
  simpa using this

/-- A slice of the entries L, one at least. -/
def EnS (w : World) (v : Value) (L : List EntL) : Prop := L ≠ [] ∧ ∃ b off c, v = .slice (some ⟨b, off, none⟩) L.length c ∧ Ens w b off L
theorem EnS.old {w w' : World} {v : Value} {L : List EntL} (h : EnS w v L) (b : RowKit.Below w.heap.size w w') : EnS w' v L := by
  obtain ⟨h0, g, off, c, rfl, h⟩ := h
  exact ⟨h0, g, off, c, rfl, Ens.old h b⟩
theorem Ens.kp {w w' : World} {b off : Nat} {L : List EntL} {M : List Nat} (h : Ens w b off L) (k : Kp M w w') (hb : b ∉ M) : Ens w' b off L := fun i hi => by
  obtain ⟨h0, h1, h2, h3, h4⟩ := h i hi
  have hlt : b < w.heap.size := World.block_lt_of_cell? w _ h0
  exact ⟨(k.cell (p := ⟨b, _, none⟩) hlt hb).trans h0, (k.cell (p := ⟨b, _, none⟩) hlt hb).trans h1, (k.cell (p := ⟨b, _, none⟩) hlt hb).trans h2, (k.cell (p := ⟨b, _, none⟩) hlt hb).trans h3, (k.cell (p := ⟨b, _, none⟩) hlt hb).trans h4⟩
theorem EnS.kp {w w' : World} {v : Value} {L : List EntL} {M : List Nat} (h : EnS w v L) (k : Kp M w w') (hv : ∀ i ∈ v.ownBlock.toList, i ∉ M) : EnS w' v L := by
  obtain ⟨h0, g, off, c, rfl, h⟩ := h
  exact ⟨h0, g, off, c, rfl, Ens.kp h k (hv g (by simp [Value.ownBlock]))⟩
theorem EnS.lt {w : World} {v : Value} {L : List EntL} (h : EnS w v L) : ∀ i ∈ v.ownBlock.toList, i < w.heap.size := by
  obtain ⟨h0, g, off, c, rfl, h⟩ := h
  intro i hi
  simp [Value.ownBlock] at hi
  subst hi
  exact World.block_lt_of_cell? w _ (h 0 (List.length_pos_iff.2 h0)).1

theorem ownsE {w : World} {base : Nat} {v : Value} {d : Array EntL} (h : w.ownsRow base 33 5 v d.size (flatK enC 5 d).toList) :
    (v = .slice none 0 0 ∧ d.size = 0) ∨ ∃ g c, v = .slice (some ⟨g, 0, none⟩) d.size c ∧ d.size ≤ c ∧ g < w.heap.size ∧ HoldsK enC 5 w g 0 d := by
  obtain ⟨h1, h2 | ⟨g, cap, cur, hv, hg, hc, hle, hmx, hsz, htk⟩⟩ := h
  · exact .inl h2
  · have hB : Blk w g 33 cur := hc
    refine .inr ⟨g, cap, hv, hle, ?_, fun t ht => ⟨?_, hB.frozen _⟩⟩
    · rcases Nat.lt_or_ge g w.heap.size with h | h
      · exact h
      · rw [Array.getElem?_eq_none h] at hc; cases hc
    · have ht' : t < d.size * 5 := by simpa using ht
      have e1 : (cur.toList.take (d.size * 5))[t]? = (flatK enC 5 d).toList[t]? := by rw [htk]
      rw [List.getElem?_take_of_lt ht'] at e1
      rw [Nat.zero_add, hB.cell, ← Array.getElem?_toList, e1]
      have : t < (flatK enC 5 d).size := ht
      rw [Array.getElem?_toList, Array.getElem?_eq_getElem this, getElem!_pos (flatK enC 5 d) t this]
      rfl

/-- append(out, l...) where out is an empty row that has just been made. -/
theorem app_entsR (w : World) (v : Value) (L : List EntL) (h : EnS w v L) (hn : L.length ≤ 1000) :
    ∃ g c w1, (Builtin.append_ #[22, 22] 22 #[.slice (some ⟨w.heap.size, 0, none⟩) 0 0, v]).run Tryz.prog (w.alloc (.cells #[] 33)) = .ok (.slice (some ⟨g, 0, none⟩) L.length c) w1 ∧ L.length ≤ c ∧ g < w1.heap.size ∧ HoldsK enC 5 w1 g 0 L.toArray ∧ RowKit.Below w.heap.size w w1 ∧ w.heap.size ≤ g := by
  have hb := Old.alloc (Below.refl w.heap.size w) (.cells #[] 33)
  have ho := World.ownsRow_lit (base := w.heap.size) (e := 33) (size := 5) w #[] 0 (Nat.le_refl _) (by decide) rfl
  obtain ⟨h0, b, off, c, rfl, h⟩ := h
  have hbl := World.block_lt_of_cell? w _ (h 0 (List.length_pos_iff.2 h0)).1
  have hsz : (flatK enC 5 L.toArray).toList.length = L.length * 5 := by simp
  obtain ⟨v', w', hrun, hown, hgr, hnil⟩ := run_append_own (P := Tryz.prog) (w := w.alloc (.cells #[] 33)) w.heap.size 22 22 33 entE _ 5 48 Tryz.underlying22 entI entZ (by kernel_rfl) (by kernel_rfl) (by kernel_rfl) (by decide) _ 0 _ ho
      ⟨b, off, none⟩ L.length c (flatK enC 5 L.toArray).toList hsz (fun j u hj => by
        rw [add_at, hb.cell (p := ⟨b, off + j, none⟩) hbl]
        exact ens_flat h j u (by simpa using hj)) (mem_flatK enC 5 enC_len enC_one _) (by unfold maxLen; omega) (by omega) (by simp)
  rw [Nat.zero_add] at hown
  have hE : w'.ownsRow w.heap.size 33 5 v' L.toArray.size (flatK enC 5 L.toArray).toList := by simpa using hown
  have hb' := grown_old hb ho hgr
  rcases ownsE hE with ⟨rfl, h0'⟩ | ⟨g', c', rfl, h1, h2, h3⟩
  · exact absurd (by simpa using h0') h0
  · have hz : L.toArray.size = L.length := by simp
    rw [hz] at hrun h1
    exact ⟨g', c', w', hrun, h1, h2, h3, hb', (hE.lt g' rfl).1⟩

/-- What it answers: the entries, in order. -/
def BdPost (w : World) (L : List EntL) (e : Ending) (w' : World) : Prop :=
  (∃ (g c : Nat) (S : List EntL), e = .returned (.slice (some ⟨g, 0, none⟩) L.length c) ∧ w.heap.size ≤ g ∧ Ens w' g 0 S ∧ S.Perm L ∧ S.Pairwise (fun a b => entLt b a = false)) ∧ RowKit.Below w.heap.size w w'

set_option maxRecDepth 100000 in
set_option maxHeartbeats 2000000 in
theorem byDigest_eq (v : Value) (L : List EntL) (w : World) (h : EnS w v L) (hn : L.length ≤ 1000) : Calls Tryz.prog 46 #[v] w (BdPost w L) := by
  obtain ⟨g, c, w1, hap, hnc, hg, hE, hb, hge⟩ := app_entsR w v L h hn
  obtain ⟨n, hnl⟩ : ∃ n, L.length = n := ⟨_, rfl⟩
  have hD : L.toArray.size = n := by simpa using hnl
  rw [hnl] at hap hnc hn
  have HA := Lib.hid (And.intro hnc (And.intro hg (And.intro hE (And.intro hb hge))))
  have HAP := Lib.hid hap
  clear h hnc hg hE hb hap hge
  obtain ⟨V, hV⟩ : ∃ V, w1.alloc (.cells #[.slice (some ⟨g, 0, none⟩) n c] 22) = V := ⟨_, rfl⟩
  obtain ⟨d, hd⟩ : ∃ d, w1.heap.size = d := ⟨_, rfl⟩
  have B0 : Blk V d 22 #[.slice (some ⟨g, 0, none⟩) n c] := by rw [← hV, ← hd]; exact Blk.new _ _ _
  have b1 : RowKit.Below w1.heap.size w1 V := by rw [← hV]; exact Old.alloc (Below.refl _ _) _
  have c0 : V.cell? ⟨d, 0, none⟩ = some (.slice (some ⟨g, 0, none⟩) n c) := B0.cell 0
  have hgd : d ≠ g := by have := HA.out.2.1; omega
  have hS := stable_entsR d g n c hgd hn HA.out.1 V L.toArray hD ⟨c0, holdsK_old HA.out.2.2.1 b1⟩ (Nat.lt_of_lt_of_le HA.out.2.1 b1.size)
  have HX := Lib.hid (And.intro hS (And.intro b1 (And.intro hd (And.intro hD hnl))))
  have hcd : d < V.heap.size := World.block_lt_of_cell? V _ c0
  clear hS b1 B0 hD hnl
  go_enter Tryz.func46, Tryz.ntmps46
  go_wp2_with (first | (at_builtin; go_must (refine wpList_append_run rfl _ _ 22 22 rfl _ _ rfl rfl _ _ HAP.out ?_)) | (go_at_call 61; refine (HX.out.1).mono ?_; rintro _ w2 ⟨rfl, ⟨D', hR, hp, hs⟩, h3⟩; have h1 := hR.1; replace hR := Lib.hid (And.intro hR (And.intro h3 (And.intro hp hs))); clear h3 hp hs))
  all_goals
    go_wp2_with fail
    have hsz : D'.size = n := hR.out.2.2.1.1.trans HX.out.2.2.2.1
    have hz : L.length = n := HX.out.2.2.2.2
    refine bodyPost_ret (v := .slice (some ⟨g, 0, none⟩) n c) (by simp [results, Tryz.results46, go_sem]) rfl ⟨⟨g, c, D'.toList, by rw [hz], HA.out.2.2.2.2, holdsK_ens hR.out.1.2, ?_, sortedIn_list hR.out.2.2.2 hsz⟩, ?_⟩
    · have := permIn_list hR.out.2.2.1 HX.out.2.2.2.1
      simpa using this
    · have hk := ((Kp.of_below HA.out.2.2.2.1 [g]).step (l' := []) (Kp.of_below HX.out.2.1 []) (by simp)).step (l' := [g]) hR.out.2.1 (by simp)
      exact (hk.weaken (l' := []) (by intro i hi; simp at hi; subst hi; exact .inr HA.out.2.2.2.2)).below
end Go.Proofs.YtcljffldbnoljaaGreatDoor
