/-
  (*index.MultihashIndexSorted).Load: what it leaves in the map. Conditions: as each contract says.
  (*index.multiWidthIndex).Marshal: the very bytes. Conditions: as each contract says.
-/
import Derived.Test.YtcljffldbnoljaaGreatDoorJg
import Derived.Test.YtcljffldbnoljaaGreatDoorJQu
import Derived.Test.YtcljffldbnoljaaGreatDoorJZh
import Derived.BigRegion
namespace Go.Proofs.YtcljffldbnoljaaGreatDoor
open Go.RowKit Go.Sort Go.Lib

/-- v points to the index of one hash function: block p, its map in block q. -/
def CwOk (w : World) (B : Nat) (L : List EntL) (k : Int) (v : Value) : Prop :=
  ∃ p q, v = .pointer (some ⟨p, 0, none⟩) ∧ Blk w p 239 #[.map (some q), .int .u64 k] ∧ MwOk w q B (ofKey codK L k) ∧ B ≤ p ∧ B ≤ q ∧ p ≠ q
theorem CwOk.kp {w w' : World} {B : Nat} {L : List EntL} {k : Int} {v : Value} {M : List Nat} (h : CwOk w B L k v) (hk : Kp M w w') (hM : ∀ i ∈ M, i < B) : CwOk w' B L k v := by
  obtain ⟨p, q, h1, h2, h3, h4, h5, h6⟩ := h
  exact ⟨p, q, h1, h2.kp hk (fun e => by have := hM p e; omega), h3.kp hk hM (fun e => by have := hM q e; omega), h4, h5, h6⟩
theorem MwOk.mono {w : World} {mb B B' : Nat} {L : List EntL} (h : MwOk w mb B L) (hB : B' ≤ B) : MwOk w mb B' L := by
  obtain ⟨lk, F, h1, h2, h3⟩ := h
  exact ⟨lk, F, h1, h2, fun k v hv => (h3 k v hv).mono hB⟩
theorem CwOk.mono {w : World} {B B' : Nat} {L : List EntL} {k : Int} {v : Value} (h : CwOk w B L k v) (hB : B' ≤ B) : CwOk w B' L k v := by
  obtain ⟨p, q, h1, h2, h3, h4, h5, h6⟩ := h
  exact ⟨p, q, h1, h2, h3.mono hB, Nat.le_trans hB h4, Nat.le_trans hB h5, h6⟩
/-- Block mb is the map of an index by hash functions of L. -/
def MhOk (w : World) (mb B : Nat) (L : List EntL) : Prop := ∃ lk F, MapK 25 .u64 w mb lk F ∧ (∀ k, k ∈ lk ↔ ∃ x ∈ L, codK x = k) ∧ ∀ k v, F k = some v → CwOk w B L k v
theorem MhOk.kp {w w' : World} {mb B : Nat} {L : List EntL} {M : List Nat} (h : MhOk w mb B L) (hk : Kp M w w') (hM : ∀ i ∈ M, i < B) (hm : mb ∉ M) : MhOk w' mb B L := by
  obtain ⟨lk, F, h1, h2, h3⟩ := h
  exact ⟨lk, F, h1.kp hk hm, h2, fun k v hv => (h3 k v hv).kp hk hM⟩
/-- What Load comes to. -/
def MhPost (mb : Nat) (L : List EntL) (w : World) (e : Ending) (w' : World) : Prop := e = .returned .nilIface ∧ MhOk w' mb w.heap.size L ∧ Kp [mb] w w'
/-- The first i records are told apart by their hash functions. -/
def Split2 (L : List EntL) (w : World) (m base i : Nat) : Prop := ∃ lk F, ∃ G : Int → List (List UInt8 × Nat), Grp 25 .u64 2 recC w m base lk F G ∧ GOk codK id saysE L i lk G ∧ lk.length ≤ i
theorem Split2.old {L : List EntL} {w w' : World} {m base i : Nat} (h : Split2 L w m base i) (b : Below w.heap.size w w') : Split2 L w' m base i := by
  obtain ⟨lk, F, G, h1, h3⟩ := h
  exact ⟨lk, F, G, h1.old b, h3⟩
theorem split2_add {L : List EntL} {w4 w5 : World} {m i : Nat} {l l' : List Int} {F : Int → Option Value} {G : Int → List (List UInt8 × Nat)} (hG : Grp 25 .u64 2 recC w4 m m l' F G) (hGk : GOk codK id saysE L i l G) (hl' : l'.length ≤ i + 1) (hn : L.length ≤ 60) (hi : i < L.length) {x : EntL} (hx : L[i] = x) {X : Int} (hX : codK x = X) (hwf : (Lit.int .u64 X).wf = true)
    (hl : ∀ y, y ∈ l' ↔ y = X ∨ y ∈ l) (hm : m ≤ w4.heap.size) {u v' : Value} (hu : F X = some u) (r : List UInt8 × Nat) (hs : r = saysE x)
    (hR : RowV w5 2 v' ((G X).length + 1) ((G X).flatMap recC ++ recC r)) (hT : AppT w4 w5 u v') :
    ∃ w6, (Instr.mapUpdate 234 (.map (some m)) (.int .u64 X) v').run Tryz.prog w5 = .ok () w6 ∧ Split2 L w6 m m (i + 1) ∧ Kp (m :: u.ownBlock.toList) w4 w6 := by
  obtain ⟨w6, hrun, hG6, hK6⟩ := hG.add Tryz.underlying25 Tryz.underlying234 (by omega) hm hwf hu r hR hT
  exact ⟨w6, hrun, ⟨l', _, _, hG6, hGk.step hi hx hX r hs l' hl, hl'⟩, hK6⟩
theorem gOk_len2 {L : List EntL} {i : Nat} {l : List Int} {G : Int → List (List UInt8 × Nat)} (h : GOk codK id saysE L i l G) (hn : L.length ≤ 60) (y : Int) : (G y).length + 1 ≤ 1000000000 := by
  have h1 := congrArg List.length (h.1 y)
  rw [List.length_map, List.length_map] at h1
  have h2 := List.length_filter_le (fun x => decide (codK x = y)) (L.take i)
  have h3 : (L.take i).length ≤ L.length := by rw [List.length_take]; exact Nat.min_le_right _ _
  unfold ofKey at h1
  omega
theorem recT : ∃ i0, Tryz.prog.info? 65 = some i0 ∧ i0.zero = some (.agg #[.string ⟨#[]⟩, .int .u64 0]) ∧ i0.size = 2 ∧ i0.bytes = 24 := ⟨(Tryz.prog.info? 65).get (by kernel_rfl), by kernel_rfl, by kernel_rfl, by kernel_rfl, by kernel_rfl⟩
theorem mk0_rec (W : World) : (Instr.makeSlice 55 (.int .i64 0) (.int .i64 0)).run Tryz.prog W = .ok (.slice (some ⟨W.heap.size, 0, none⟩) 0 0) (W.alloc (.cells #[] 65)) := by
  obtain ⟨i0, hi, hz0, hz1, hz2⟩ := recT
  have hr := run_make (P := Tryz.prog) W 55 65 i0 _ Tryz.underlying55 hi hz0 .i64 .i64 0 0 (by omega) (by omega) (by rw [hz2]; omega) (by omega)
  have e0 : ∀ z : Array Value, madeCells z ((0 : Int).toNat * i0.size) = #[] := fun z => by
    rw [show (0 : Int).toNat * i0.size = 0 by simp]
    exact Array.eq_empty_of_size_eq_zero (size_madeCells _ _)
  rw [e0] at hr
  exact hr
set_option maxRecDepth 100000 in
theorem zero_recs (W : World) : (zeroValue 55).run Tryz.prog W = .ok (.slice none 0 0) W := by kernel_rfl
theorem recC_one (p : List UInt8 × Nat) : ∀ v ∈ recC p, v.oneCell' = true := by
  intro v hv
  simp [recC] at hv
  rcases hv with rfl | rfl <;> rfl
/-- append(u, r) at the operation. -/
theorem wpList_rec1 {ops : Array Oper} {rest : List Oper} {o : Oper} {a : Act} {Q : Exit → Act → World → Prop} (w : World) (hgd : o.guard = none) (s x : Operand)
    (ho : o.op = .call { callee := .builtin .append, args := #[s, x], argTypes := #[55, 55] }) (hot : o.type = 55)
    (v : Value) (n : Nat) (cs : List Value) (hs : a.eval s = v) (id : List UInt8) (off : Nat) (k : Nat) (hk : k = w.heap.size) (hx : a.eval x = .slice (some ⟨k, 0, none⟩) 1 1) (h : RowV w 2 v n cs) (hn : n + 1 ≤ 1000000000)
    (K : ∀ v' w', RowV w' 2 v' (n + 1) (cs ++ recC (id, off)) → AppT w w' v v' → wpList Tryz.prog ops Q rest (a.put o.dst v') w') : wpList Tryz.prog ops Q (o :: rest) a (w.alloc (.cells #[.string ⟨id.toArray⟩, .int .u64 (off : Nat)] 65)) := by
  subst hk
  obtain ⟨i0, h1, h2, h3, h4⟩ := recT
  exact wpList_lit w hgd s x 55 65 cs (recC (id, off)) ho hot i0 _ 2 24 Tryz.underlying55 h1 h2 h3 h4 rfl (by decide) v n hs h hx rfl (recC_one _) hn (by decide) K

/-- The second loop: the numbers todo are still to come. -/
def Load3 (L : List EntL) (mb m r B2 : Nat) (l : List Int) (F : Int → Option Value) (G : Int → List (List UInt8 × Nat)) (w wr : World) (todo : List Int) : Prop :=
  MapR 25 .u64 wr m r F todo ∧ (∀ x ∈ todo, ∀ v, F x = some v → RecV wr v (G x)) ∧
  (∃ lk F', MapK 25 .u64 wr mb lk F' ∧ lk.length + todo.length ≤ l.length ∧ (∀ k, k ∈ lk ↔ k ∈ l ∧ k ∉ todo) ∧ ∀ k v, F' k = some v → CwOk wr B2 L k v) ∧ Kp [mb] w wr ∧ B2 ≤ wr.heap.size
/-- A round of it. -/
theorem load3_put {L : List EntL} {mb m r B2 : Nat} {l : List Int} {F : Int → Option Value} {G : Int → List (List UInt8 × Nat)} {w wr w3 w8 : World} {todo : List Int} {x : Int} {vs : Value}
    (h : Load3 L mb m r B2 l F G w wr todo) (hx : x ∈ todo) (hxl : x ∈ l) (hwf : (Lit.int .u64 x).wf = true) (h3 : MapR 25 .u64 w3 m r F (todo.erase x)) (k3 : Kp [r] wr w3) (b8 : Below w3.heap.size w3 w8) (hs : CwOk w8 B2 L x vs)
    (hnd : todo.Nodup) (hFr : ∀ x v, F x = some v → ∀ i ∈ v.ownBlock.toList, m < i ∧ i < r) (hmr : m < r) (hmbm : mb < m) (hrB : r < B2) (hwm : w.heap.size = m) (hl60 : l.length ≤ 60) :
    ∃ w9, (Instr.mapUpdate 135 (.map (some mb)) (.int .u64 x) vs).run Tryz.prog w8 = .ok () w9 ∧ Load3 L mb m r B2 l F G w w9 (todo.erase x) ∧ w9.rangeLeft m r = w3.rangeLeft m r := by
  obtain ⟨_, hrows, ⟨lk, F', hM, hlk, hks, hsw⟩, hK, hB⟩ := h
  have hM8 := (hM.kp k3 (by simp; omega)).old b8
  obtain ⟨w9, hrun, hM9, k9⟩ := mapK_put hM8 Tryz.underlying25 Tryz.underlying135 (by omega) hwf vs
  have k39 : Kp [mb] w3 w9 := (Kp.of_below b8 _).trans k9
  have hxn : x ∉ lk := fun e => ((hks x).1 e).2 hx
  have hlen : (todo.erase x).length = todo.length - 1 := List.length_erase_of_mem hx
  have htp : 0 < todo.length := List.length_pos_of_mem hx
  refine ⟨w9, hrun, ⟨h3.kp k39 (by simp; omega) (by simp; omega), fun y hy u hu => ?_, ⟨keyPut lk x, _, hM9, ?_, fun k => ?_, fun k u hk => ?_⟩, ?_, Nat.le_trans hB (Nat.le_trans k3.size k39.size)⟩, h3.kp_left k39 (by simp; omega) (by simp; omega)⟩
  · refine RowV.kp (RowV.kp (hrows y (List.mem_of_mem_erase hy) u hu) k3 (fun i hi => ?_)) k39 (fun i hi => ?_)
    · have := hFr y u hu i hi
      simp; omega
    · have := hFr y u hu i hi
      simp; omega
  · unfold keyPut; rw [if_neg hxn]; simp; omega
  · rw [keyPut_mem, hks k, hnd.mem_erase_iff]
    constructor
    · rintro (rfl | ⟨h1, h2⟩)
      · exact ⟨hxl, fun e => e.1 rfl⟩
      · exact ⟨h1, fun e => h2 e.2⟩
    · rintro ⟨h1, h2⟩
      by_cases e : k = x
      · exact .inl e
      · exact .inr ⟨h1, fun e2 => h2 ⟨e, e2⟩⟩
  · by_cases e : k = x
    · subst e
      simp only [reduceIte, Option.some.injEq] at hk
      subst hk
      exact hs.kp k9 (by simp; omega)
    · simp only [if_neg e] at hk
      exact (((hsw k u hk).kp k3 (by simp; omega)).kp (Kp.of_below b8 []) (by simp)).kp k9 (by simp; omega)
  · exact (hK.step k3 (by simp; omega)).step k39 (by simp)
theorem load3_done {L : List EntL} {mb m r B2 : Nat} {l : List Int} {F : Int → Option Value} {G : Int → List (List UInt8 × Nat)} {w wr : World} (h : Load3 L mb m r B2 l F G w wr []) (hl : ∀ y, y ∈ l ↔ ∃ x ∈ L, codK x = y) (hB : w.heap.size ≤ B2) : MhPost mb L w (.returned .nilIface) wr := by
  obtain ⟨_, _, ⟨lk, F', h1, _, h3, h4⟩, hK, _⟩ := h
  refine ⟨rfl, ⟨lk, F', h1, fun k => ?_, fun k v hv => (h4 k v hv).mono hB⟩, hK⟩
  rw [h3 k, hl]
  simp
end Go.Proofs.YtcljffldbnoljaaGreatDoor

namespace Go.Proofs.YtcljffldbnoljaaGreatDoor
open Go.RowKit Go.Sort Go.Lib

/-- What the index holds at k, the rows named. -/
def SwS (w : World) (B : Nat) (L : List EntL) (k : Int) (v : Value) (S : List (List UInt8 × Nat)) : Prop :=
  ∃ (g cap nb : Nat), v = .agg #[.int .u32 k, .int .u64 S.length, .slice (some ⟨g, 0, none⟩) nb cap] ∧ nb = (rowsP S).length ∧ nb ≤ cap ∧ Bs w g 0 (rowsP S) ∧ B ≤ g ∧ g < w.heap.size ∧
    S.Perm ((ofKey widK L k).map sayD) ∧ S.Pairwise (fun a b => ltB b.1 a.1 = false)
theorem mwOk_f {w : World} {mb B : Nat} {L : List EntL} (h : MwOk w mb B L) : ∃ lk F, ∃ f : Int → List (List UInt8 × Nat), MapK 172 .u32 w mb lk F ∧ (∀ k, k ∈ lk ↔ ∃ x ∈ L, widK x = k) ∧ ∀ k v, F k = some v → SwS w B L k v (f k) := by
  obtain ⟨lk, F, h1, h2, h3⟩ := h
  have hh : ∀ k, ∃ S, ∀ v, F k = some v → SwS w B L k v S := fun k => by
    cases hF : F k with
    | none => exact ⟨[], fun v hv => by cases hv⟩
    | some u =>
      obtain ⟨g, cap, nb, S, hs⟩ := h3 k u hF
      exact ⟨S, fun v hv => by cases hv; exact ⟨g, cap, nb, hs⟩⟩
  obtain ⟨f, hf⟩ := Classical.skolem.1 hh
  exact ⟨lk, F, f, h1, h2, hf⟩
theorem nodup_len : ∀ {l M : List Int}, l.Nodup → (∀ x ∈ l, x ∈ M) → l.length ≤ M.length
  | [], _, _, _ => Nat.zero_le _
  | a :: l, M, h, hs => by
    rw [List.nodup_cons] at h
    have ha := hs a List.mem_cons_self
    have h1 := nodup_len (l := l) (M := M.erase a) h.2 (fun x hx => (List.mem_erase_of_ne (fun e => by subst e; exact h.1 hx)).2 (hs x (List.mem_cons_of_mem _ hx)))
    rw [List.length_erase_of_mem ha] at h1
    have := List.length_pos_of_mem ha
    simp only [List.length_cons]
    omega
theorem keys_len {key : EntL → Int} {L : List EntL} {lk : List Int} (h : ∀ y, y ∈ lk ↔ ∃ x ∈ L, key x = y) (hn : lk.Nodup) : lk.length ≤ L.length := by
  have := nodup_len (M := L.map key) hn (fun x hx => by obtain ⟨y, hy, e⟩ := (h x).1 hx; exact e ▸ List.mem_map_of_mem hy)
  rwa [List.length_map] at this
theorem keys_ne {key : EntL → Int} {L : List EntL} {lk : List Int} (h : ∀ y, y ∈ lk ↔ ∃ x ∈ L, key x = y) (hn : L ≠ []) : lk ≠ [] := by
  obtain ⟨x, t, rfl⟩ := List.exists_cons_of_ne_nil hn
  exact List.ne_nil_of_mem ((h _).2 ⟨x, by simp, rfl⟩)
set_option maxRecDepth 100000 in
theorem zero_sw (W : World) : (zeroValue 252).run Tryz.prog W = .ok (.agg #[.int .u32 0, .int .u64 0, .slice none 0 0]) W := by kernel_rfl
theorem rowsP_len {L : List EntL} {S : List (List UInt8 × Nat)} {k : Int} (hp : S.Perm ((ofKey widK L k).map sayD)) (hst : ∀ x ∈ L, x.ok) (hn : L.length ≤ 60) : (rowsP S).length ≤ 12480 := by
  have h1 : ∀ p ∈ S, p.1.length ≤ 200 := fun p hpS => by
    obtain ⟨x, hx, rfl⟩ := List.mem_map.1 (hp.mem_iff.1 hpS)
    exact (hst x (List.mem_filter.1 hx).1).1.2.2
  have h2 : S.length ≤ 60 := by
    rw [hp.length_eq, List.length_map]
    exact Nat.le_trans (List.length_filter_le _ _) hn
  have h3 : ∀ M : List (List UInt8 × Nat), (∀ p ∈ M, p.1.length ≤ 200) → (rowsP M).length ≤ M.length * 208 := by
    intro M
    induction M with
    | nil => simp [rowsP]
    | cons a t ih =>
      intro h
      have h4 := ih (fun p hp => h p (List.mem_cons_of_mem _ hp))
      have h5 := h a List.mem_cons_self
      unfold rowsP at h4 ⊢
      rw [List.flatMap_cons, List.length_append, List.length_cons, Nat.succ_mul]
      have h6 : (rowY a.1 a.2).length = a.1.length + 8 := by simp only [rowY, List.length_append, Lib.leBytes_length]
      omega
  have h4 := h3 S h1
  have h5 := Nat.mul_le_mul_right 208 h2
  omega
/-- What Marshal comes to. -/
def MmPost (b : Nat) (row : Option Nat) (l : List UInt8) (L : List EntL) (w : World) (e : Ending) (w' : World) : Prop := ∃ T : List UInt8, MwT L T ∧ T.length ≤ 780004 ∧ WtPost b row l T w (.tuple #[.int .u64 (T.length : Nat), .nilIface]) e w'

set_option maxRecDepth 100000 in
set_option maxHeartbeats 16000000 in
theorem mwMarshal_any (b : Nat) (row : Option Nat) (l : List UInt8) (pb mb B : Nat) (L : List EntL) (w0 w : World) (hp0 : w0.cell? ⟨pb, 0, none⟩ = some (.map (some mb))) (hOk : MwOk w0 mb B L) (hB0 : Below w0.heap.size w0 w) (hfar : ∀ i ∈ b :: row.toList, w0.heap.size ≤ i) (h : BuS w b row l) (hst : ∀ x ∈ L, x.ok) (hn : L.length ≤ 60) (hne : L ≠ []) (hlim : l.length ≤ 700000000) :
    Calls Tryz.prog 179 #[.pointer (some ⟨pb, 0, none⟩), .iface 78 (.pointer (some ⟨b, 0, none⟩))] w (MmPost b row l L w) := by
  obtain ⟨lk, F, f, hM, hkeys, hf⟩ := mwOk_f hOk
  have hpb := World.block_lt_of_cell? w0 _ hp0
  have hmb := hM.lt
  obtain ⟨N, hN⟩ : ∃ N, lk.length = N := ⟨_, rfl⟩
  have hN60 : N ≤ 60 := by rw [← hN]; exact Nat.le_trans (keys_len hkeys hM.nodup) hn
  have hlkne := keys_ne hkeys hne
  have c0 : w.cell? ⟨pb, 0, none⟩ = some (.map (some mb)) := (hB0.cell (p := ⟨pb, 0, none⟩) hpb).trans hp0
  have hlen := fun ty => mapK_len (hM.kp (Kp.of_below hB0 []) (by simp)) Tryz.underlying132 ty
  rw [hN] at hlen
  have hwN : IntKind.u32.wrap (N : Int) = (N : Int) := by rw [IntKind.wrap_u32]; omega
  have HA := Lib.hid (zzWrite32_any b row l N w h (by omega) (by omega))
  have H := Lib.hid (And.intro hp0 (And.intro hM (And.intro hkeys (And.intro hf (And.intro hB0 (And.intro hfar (And.intro hst (And.intro hn (And.intro hlim (And.intro hlkne (And.intro hN (And.intro hpb hmb))))))))))))
  clear hp0 hM hkeys hf hB0 hfar h hst hlim hne hlkne hN hpb hmb hOk
  go_enter Tryz.func179, Tryz.ntmps179
  go_wp2_with fail
  clear hlen c0 hwN
  refine HA.out.mono ?_
  rintro e w1 ⟨rfl, r1, hB1, hT1⟩
  obtain ⟨hp0, hM, hkeys, hf, hB0, hfar, hst, hn', hlim, hlkne, hN, hpb, hmb⟩ := H.out
  have hB01 := hT1.below hB0 hfar
  have hfar1 := hT1.far hB0 hfar
  have c1 : w1.cell? ⟨pb, 0, none⟩ = some (.map (some mb)) := (hB01.cell (p := ⟨pb, 0, none⟩) hpb).trans hp0
  have hlen := fun ty => mapK_len (hM.kp (Kp.of_below hB01 []) (by simp)) Tryz.underlying132 ty
  rw [hN] at hlen
  have hmk := mk_u32s N (by omega) w1
  obtain ⟨W2, hW2⟩ : ∃ W2, w1.alloc (.cells (List.replicate N (.int .u32 0)).toArray 172) = W2 := ⟨_, rfl⟩
  obtain ⟨gs, hgs⟩ : ∃ gs, w1.heap.size = gs := ⟨_, rfl⟩
  have b12 : Below w1.heap.size w1 W2 := by rw [← hW2]; exact Old.alloc (Below.refl _ _) _
  have hO2 : OwnN .u32 W2 (.slice (some ⟨gs, 0, none⟩) 0 N) [] := by
    rw [← hW2, ← hgs]
    exact rowV_mk w1 172 N (.int .u32 0) (by omega)
  have hB02 : Below w0.heap.size w0 W2 := ((Kp.of_below hB01 []).old b12).below
  have c2 : W2.cell? ⟨pb, 0, none⟩ = some (.map (some mb)) := (hB02.cell (p := ⟨pb, 0, none⟩) hpb).trans hp0
  obtain ⟨w3, hrg, hR3, b23, hs3⟩ := mapK_range (hM.kp (Kp.of_below hB02 []) (by simp)) Tryz.underlying172 Tryz.underlying132
  obtain ⟨rr, hrr⟩ : ∃ rr, W2.heap.size = rr := ⟨_, rfl⟩
  rw [hrr] at hrg hR3 hs3
  rw [hW2, hgs] at hmk
  have b13 := Old.trans b12 b23
  have hsz12 := b12.size
  have hgsr : gs < rr := by rw [← hrr, ← hgs, ← hW2]; simp
  have hmbg : mb < gs := by have := hB01.size; omega
  have H1 := Lib.hid (And.intro hB1 (And.intro hT1 (And.intro hB01 (And.intro hfar1 (And.intro b13 (And.intro hgs (And.intro hgsr (And.intro hmbg (And.intro hR3 (And.intro hO2 b23))))))))))
  clear hp0 hM hkeys hf hB0 hfar hst hn' hlim hlkne hN hpb hmb hB1 hT1 hB01 hfar1 b12 hO2 hB02 hR3 b23 b13 hsz12 hgsr hmbg hs3 hgs hrr HA
  go_wp2_with fail
  clear hlen hmk hrg c1 c2 hW2
  go_loopw [8] (fun v8 wr => ∃ (todo ls : List Int), MapR 172 .u32 wr mb rr F todo ∧ OwnN .u32 wr v8 ls ∧ (ls ++ todo).Perm lk ∧ Below w1.heap.size w1 wr ∧ (∀ i ∈ v8.ownBlock.toList, gs ≤ i ∧ i ≠ rr) ∧ rr < wr.heap.size) (fun _ wr => wr.rangeLeft mb rr)
  case atStart =>
    obtain ⟨hB1, hT1, hB01, hfar1, b13, hgs, hgsr, hmbg, hR3, hO2, b23⟩ := H1.out
    refine ⟨lk, [], hR3, hO2.old b23, by simp, b13, fun i hi => ?_, hR3.lt.1⟩
    simp [Value.ownBlock] at hi
    omega
  case round =>
    obtain ⟨todo, ls, hR, hO, hP, hB, hg, hrw⟩ := hrel
    rcases hR.next Tryz.underlying172 0 with ⟨rfl, hnx⟩ | ⟨x, v, w4, hx, hF, hxw, hnx, hR4, hlt, k4, hs4, hen⟩
    · obtain ⟨hp0, hM, hkeys, hf, hB0, hfar, hst, hn', hlim, hlkne, hN, hpb, hmb⟩ := H.out
      obtain ⟨hB1, hT1, hB01, hfar1, b13, hgs, hgsr, hmbg, hR3, hO2, b23⟩ := H1.out
      rw [List.append_nil] at hP
      have hlsne : ls ≠ [] := fun e => hlkne (List.eq_nil_of_length_eq_zero (by rw [← hP.length_eq, e]; rfl))
      have hlsN : ls.length = N := by rw [hP.length_eq, hN]
      have hpos : ∀ x ∈ ls, 0 ≤ x ∧ x < 4294967296 := fun x hx => by
        obtain ⟨y, hy, e⟩ := (hkeys x).1 (hP.mem_iff.1 hx)
        have := (hst y hy).1.2.2
        have e2 : (y.c.digest.length : Int) + 8 = x := e
        omega
      obtain ⟨gg, cc, D, hv8, hcc, hggw, hDs, hDl, hDc⟩ := ownN_sort hO hlsne (fun x hx => (hpos x hx).1)
      rw [hlsN] at hcc hDs hv8
      subst hv8
      have hg2 := hg gg (by simp [Value.ownBlock])
      have hso := sort_u32 gg cc N hcc (by omega) wr D hggw (fun t ht => hDc t ht) hDs
      have HS := Lib.hid hso
      have HR := Lib.hid (And.intro hP (And.intro hB (And.intro hg2 (And.intro hDl (And.intro hDs (And.intro hggw hpos))))))
      clear hp0 hM hkeys hf hB0 hfar hst hn' hlim hlkne hN hpb hmb hB1 hT1 hB01 hfar1 b13 hgs hgsr hmbg hR3 hO2 b23 hR hO hP hB hg hrw hlsne hlsN hpos hcc hggw hDs hDl hDc hg2 hso
      go_wp2_with fail
      clear hnx
      refine HS.out.mono ?_
      rintro e w6 ⟨rfl, ⟨D', hU, hPm, hSo⟩, k6⟩
      obtain ⟨hp0, hM, hkeys, hf, hB0, hfar, hst, hn', hlim, hlkne, hN, hpb, hmb⟩ := H.out
      obtain ⟨hB1, hT1, hB01, hfar1, b13, hgs, hgsr, hmbg, hR3, hO2, b23⟩ := H1.out
      obtain ⟨hP, hB, hg2, hDl, hDs, hggw, hpos⟩ := HR.out
      have hD's : D'.size = N := hPm.1.trans hDs
      have hPl : D'.toList.Perm D.toList := permIn_list hPm hDs
      have hSl := sortedIn_list hSo hD's
      have hK := keysS_sorted hkeys hM.nodup hP hDl hPl hSl
      have b16 : Below w1.heap.size w1 w6 := ((Kp.of_below hB []).step k6 (fun i hi => by rw [List.mem_singleton.1 hi]; exact .inr (by omega))).below
      have hggr : gg ∉ b :: r1.toList := fun hi => by
        rcases List.mem_cons.1 hi with e | hi
        · have := hB1.lt; omega
        · have := (hB1.rowlt gg (by simpa using hi)).1; omega
      have hws : (D'.toList.map Int.ofNat).length = N := by simp [hD's]
      have H6 := Lib.hid (And.intro hU (And.intro hD's (And.intro hK (And.intro b16 (And.intro hggr (And.intro (Nat.lt_of_lt_of_le hggw k6.size) (And.intro hPl (And.intro hDl (And.intro hP hws)))))))))
      have hB6 := hB1.old b16
      have H7 := Lib.hid hB6
      clear hp0 hM hkeys hf hB0 hfar hst hn' hlim hlkne hN hpb hmb hB1 hT1 hB01 hfar1 b13 hgs hgsr hmbg hR3 hO2 b23 hP hB hg2 hDl hDs hggw hpos hU hPm hSo k6 hD's hPl hSl hK b16 hggr hws hB6
      go_wp2_with fail
      go_loopw [6, 49] (fun v6 v49 wr => ∃ (i : Nat) (r : Option Nat) (t : List UInt8), i ≤ N ∧ v49 = .int .i64 i ∧ v6 = .int .u64 (t.length : Nat) ∧ BuS wr b r (l ++ t) ∧ BT b w6 wr r1 r ∧ Hid (t = Lib.leBytes 4 N ++ ((D'.toList.map Int.ofNat).take i).flatMap (widthP f)) ∧ t.length ≤ 4 + i * 13000) (fun _ v49 _ => N - (intOf v49).toNat)
      case atStart => exact ⟨0, r1, Lib.leBytes 4 N, Nat.zero_le _, rfl, by rw [Lib.leBytes_length]; rfl, H7.out, BT.refl _ _ _, Lib.hid (by simp), by rw [Lib.leBytes_length]; omega⟩
      case round =>
        obtain ⟨i, r, t, hi, rfl, rfl, hBu, hT, hQ, htl⟩ := hrel
        obtain ⟨hp0, hM, hkeys, hf, hB0, hfar, hst, hn', hlim, hlkne, hN, hpb, hmb⟩ := H.out
        obtain ⟨hB1, hT1, hB01, hfar1, b13, hgs, hgsr, hmbg, hR3, hO2, b23⟩ := H1.out
        obtain ⟨hU, hD's, hK, b16, hggr, hggw, hPl, hDl, hP, hws⟩ := H6.out
        have htl2 := Nat.mul_le_mul_right 13000 hi
        have hB06 : Below w0.heap.size w0 w6 := ((Kp.of_below hB01 []).old b16).below
        have hB0r := hT.below hB06 hfar1
        by_cases hik : i < N
        · have hdd : decide ((i : Int) < (N : Int)) = true := by rw [decide_eq_true_eq]; omega
          have hiD : i < D'.size := by rw [hD's]; exact hik
          have hc := (hU i hiD).1
          rw [Nat.zero_add] at hc
          obtain ⟨X, hX⟩ : ∃ X, D'[i]! = X := ⟨_, rfl⟩
          rw [hX] at hc
          have hcr : wr.cell? ⟨gg, i, none⟩ = some (.int .u32 (X : Nat)) := (hT.1.cell (p := ⟨gg, i, none⟩) hggw hggr).trans hc
          have hXm : D'.toList[i]'(by simpa using hiD) = X := by rw [← hX, getElem!_pos D' i hiD]; simp
          have hXlk : (X : Int) ∈ lk := by
            rw [← hP.mem_iff, ← hDl]
            exact List.mem_map.2 ⟨X, hPl.mem_iff.1 (by rw [← hXm]; exact List.getElem_mem _), rfl⟩
          obtain ⟨v, hv⟩ := (hM.keys X).1 hXlk
          obtain ⟨g, cap, nb, rfl, hnb, hnc, hbs, hBg, hgw, hPr, hSr⟩ := hf X v hv
          have hnbl := rowsP_len hPr hst hn'
          have hX32 : X < 4294967296 := by
            obtain ⟨y, hy, e⟩ := (hkeys X).1 hXlk
            have := (hst y hy).1.2.2
            have e2 : (y.c.digest.length : Int) + 8 = X := e
            omega
          have hlk := mapK_look (hM.kp (Kp.of_below hB0r []) (by simp)) Tryz.underlying172 Tryz.underlying132 (zero_sw wr) (wf_u32 (x := (X : Int)) (by omega))
          rw [hv] at hlk
          simp only [Option.getD_some] at hlk
          have cr : wr.cell? ⟨pb, 0, none⟩ = some (.map (some mb)) := (hB0r.cell (p := ⟨pb, 0, none⟩) hpb).trans hp0
          obtain ⟨sl, hsl⟩ : ∃ sl, (f (X : Int)).length = sl := ⟨_, rfl⟩
          rw [hsl] at hlk
          obtain ⟨W, hW⟩ : ∃ W, wr.alloc (.cells #[.int .u32 (X : Int), .int .u64 (sl : Nat), .slice (some ⟨g, 0, none⟩) nb cap] 252) = W := ⟨_, rfl⟩
          have bW : Below wr.heap.size wr W := by rw [← hW]; exact Old.alloc (Below.refl _ _) _
          have NW : Blk W wr.heap.size 252 #[.int .u32 (X : Int), .int .u64 (sl : Nat), .slice (some ⟨g, 0, none⟩) nb cap] := by rw [← hW]; exact Blk.new _ _ _
          have hBuW := hBu.old bW
          have hfarr := hT.far hB06 hfar1
          have hwp : wr.heap.size ∉ b :: r.toList := fun hi => by
            rcases List.mem_cons.1 hi with e | hi
            · have := hBu.lt; omega
            · have := (hBu.rowlt _ (by simpa using hi)).1; omega
          have hgp : g ∉ b :: r.toList := fun hi => by have := hfarr g hi; omega
          have HSw := Lib.hid (swMarshal_any b r (l ++ t) wr.heap.size X nb g cap (rowsP (f X)) W hBuW (NW.cell 0) (NW.cell 2) hwp hgp ((hbs.kp (Kp.of_below hB0r []) (by simp)).old bW) (Nat.lt_of_lt_of_le hgw (Nat.le_trans hB0r.size bW.size)) hnb hnc hX32 (by omega) (by rw [List.length_append]; omega))
          have hwadd : IntKind.u64.wrap ((t.length : Int) + (12 + (nb : Int))) = (t.length : Int) + (12 + (nb : Int)) := by rw [IntKind.wrap_u64]; omega
          have htk : (D'.toList.map Int.ofNat).take (i + 1) = (D'.toList.map Int.ofNat).take i ++ [(X : Int)] := by
            rw [List.take_succ_eq_append_getElem (by rw [hws]; exact hik), List.getElem_map, hXm]; rfl
          have HT := Lib.hid (And.intro (hT.old bW) (And.intro hQ.out (And.intro htk (And.intro htl (And.intro hnb hnbl)))))
          have hiI : (i : Int) < (N : Int) := by omega
          clear hp0 hM hkeys hf hB0 hfar hst hn' hlim hlkne hN hpb hmb hB1 hT1 hB01 hfar1 b13 hgs hgsr hmbg hR3 hO2 b23 hU hD's hK b16 hggr hggw hPl hDl hP hws hB06 hB0r hc hX hXm hXlk hv hnb hnc hbs hBg hgw hPr hSr hnbl hX32 hsl bW NW hBuW hfarr hwp hgp htk hBu hT hQ htl htl2
          go_wp2_with fail
          clear hW hcr hlk cr
          refine HSw.out.mono ?_
          rintro e w8 ⟨rfl, r8, hB8, hT8⟩
          have H8 := Lib.hid (And.intro hB8 (HT.out.1.trans hT8))
          clear hB8 hT8 HSw
          go_wp2_with fail
          go_roundw
          case rel =>
            refine ⟨i + 1, r8, t ++ (Lib.leBytes 4 X ++ Lib.leBytes 8 nb ++ rowsP (f X)), by omega, by go_num, ?_, ?_, H8.out.2, Lib.hid ?_, ?_⟩
            · simp only [List.length_append, Lib.leBytes_length]
              have := HT.out.2.2.2.2.1
              congr 1
              omega
            · rw [← List.append_assoc]; exact H8.out.1
            · rw [HT.out.2.2.1, List.flatMap_append, HT.out.2.1]
              simp only [widthP, List.flatMap_cons, List.flatMap_nil, List.append_nil, Int.toNat_natCast, List.append_assoc, ← HT.out.2.2.2.2.1]
            · simp only [List.length_append, Lib.leBytes_length]
              have h1 := HT.out.2.2.2.1
              have h2 := HT.out.2.2.2.2.1
              have h3 := HT.out.2.2.2.2.2
              omega
          case measure => simp [intOf]; omega
        · have hdd : decide ((i : Int) < (N : Int)) = false := by rw [decide_eq_false_iff_not]; omega
          have hii : N = i := by omega
          have hmt : MwT L t := by
            refine ⟨_, f, hK, fun k hk => ?_, ?_⟩
            · obtain ⟨v, hv⟩ := (hM.keys k).1 ((hkeys k).2 ((hK.2 k).1 hk))
              obtain ⟨g, cap, nb, _, _, _, _, _, _, h1, h2⟩ := hf k v hv
              exact ⟨h1, h2⟩
            · rw [hQ.out, hws, List.take_of_length_le (by rw [hws]; omega)]
          have HF := Lib.hid (And.intro hmt (And.intro hBu ((hT1.old b16).trans hT)))
          have htb : t.length ≤ 780004 := by omega
          clear hp0 hM hkeys hf hB0 hfar hst hn' hlim hlkne hN hpb hmb hB1 hT1 hB01 hfar1 b13 hgs hgsr hmbg hR3 hO2 b23 hU hD's hK b16 hggr hggw hPl hDl hP hws hB06 hB0r hmt hBu hT hQ htl htl2 hii
          go_wp2_with fail
          exact bodyPost_ret (v := .tuple #[.int .u64 (t.length : Nat), .nilIface]) (by simp [results, Tryz.results179, go_sem]) rfl ⟨t, HF.out.1, htb, rfl, _, HF.out.2.1, HF.out.2.2⟩
    · have hmw : Hid (mb < gs ∧ w1.heap.size = gs) := Lib.hid ⟨H1.out.2.2.2.2.2.2.2.1, H1.out.2.2.2.2.2.1⟩
      have hll : ls.length + 1 ≤ 1000000000 := by
        have h1 := hP.length_eq
        rw [List.length_append] at h1
        have h2 := H.out.2.2.2.2.2.2.2.2.2.2.1
        omega
      have hO4 : OwnN .u32 w4 u8 ls := RowV.kp hO k4 (fun i hi => by have := hg i hi; simp; omega)
      have HR := Lib.hid (And.intro hP (And.intro hB (And.intro hg (And.intro hrw (And.intro hR4 (And.intro hlt (And.intro k4 (And.intro hs4 (And.intro hx hO4)))))))))
      clear hR hO hP hB hg hrw hR4 hlt k4 hs4 hx hO4 hF hxw
      go_wp2_with (at_builtin; go_must (refine wpList_u321 w4 rfl _ _ rfl rfl u8 ls rfl x _ rfl rfl HR.out.2.2.2.2.2.2.2.2.2 hll ?_); intro v' w5 hO5 hT5; replace hO5 := Lib.hid (And.intro hO5 hT5); clear hT5)
      all_goals go_roundw
      case rel =>
        obtain ⟨hP, hB, hg, hrw, hR4, hlt, k4, hs4, hx, hO4⟩ := HR.out
        obtain ⟨hO5, hT5⟩ := hO5.out
        have hr4 : rr < w4.heap.size := by omega
        refine ⟨todo.erase x, ls ++ [x], hR4.kp hT5.1 (fun e => by have := (hg mb e).1; have := hmw.out; omega) (fun e => (hg rr e).2 rfl), hO5, ?_, ((Kp.of_below hB []).step (l' := rr :: u8.ownBlock.toList) ((k4.weaken (by simp)).trans (hT5.1.weaken (fun i hi => .inl (by simp [hi])))) (fun i hi => ?_)).below, fun i hi => ?_, Nat.lt_of_lt_of_le hr4 hT5.1.size⟩
        · rw [List.append_assoc]
          exact (List.Perm.append_left ls (List.perm_cons_erase hx).symm).trans hP
        · have h1 := H1.out.2.2.2.2.2.2.1
          have h2 := hmw.out.2
          rcases List.mem_cons.1 hi with rfl | hi
          · exact .inr (by omega)
          · exact .inr (by have := (hg i hi).1; omega)
        · rcases hT5.2 i hi with h1 | h1
          · exact hg i h1
          · have h2 := H1.out.2.2.2.2.2.2.1
            omega
      case measure =>
        obtain ⟨hP, hB, hg, hrw, hR4, hlt, k4, hs4, hx, hO4⟩ := HR.out
        obtain ⟨hO5, hT5⟩ := hO5.out
        rw [hR4.kp_left hT5.1 (fun e => by have := (hg mb e).1; have := hmw.out; omega) (fun e => (hg rr e).2 rfl)]
        exact hlt
end Go.Proofs.YtcljffldbnoljaaGreatDoor
