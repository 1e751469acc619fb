/-
  spec.OfDigest: its walk. Conditions: as the contract says.
  index.newRecordFromCid, (*InsertionIndex).InsertNoReplace, impl.insertion: the very records, each once. Conditions: as each contract says.
-/
import Derived.Test.YtcljffldbnoljaaGreatDoorJCdS
import Derived.Test.YtcljffldbnoljaaGreatDoorJCdI
namespace Go.Proofs.YtcljffldbnoljaaGreatDoor
open Go.RowKit

theorem infoU64 : (Tryz.prog.info? 25).map (fun i => (i.zero, i.size, i.bytes)) = some (some (.int .u64 0), 1, 8) := by kernel_rfl
def u64s (l : List Nat) : List Value := l.map (fun n => .int .u64 (n : Nat))
theorem u64s_append (a b : List Nat) : u64s (a ++ b) = u64s a ++ u64s b := List.map_append
theorem u64s_length (a : List Nat) : (u64s a).length = a.length := List.length_map ..

/-- append(out, x): out is nil or the call's own; the new number has just been laid in a block of its own. -/
theorem wpList_append_u64 {P : Program} (w0 : World) {ops : Array Oper} {rest : List Oper} {o : Oper} {a : Act} {Q : Exit → Act → World → Prop} (hgd : o.guard = none) (s x : Operand) (t : TypeId)
    (ho : o.op = .call { callee := .builtin .append, args := #[s, x], argTypes := #[t, t] })
    (base : Nat) (e : TypeId) (i : TypeInfo) (ht : P.underlying t = some (.slice e)) (hi : P.info? e = some i) (hz : i.zero = some (.int .u64 0)) (hsize : i.size = 1) (hby : i.bytes = 8)
    (v : Value) (l : List Nat) (hs : a.eval s = v) (hown : w0.ownsRow base e 1 v l.length (u64s l)) (b : Nat) (hx : a.eval x = .slice (some ⟨w0.heap.size, 0, none⟩) 1 1)
    (hlim : l.length + 1 ≤ 1000000) (hbase : base ≤ w0.heap.size)
    (h : ∀ v' w', w'.ownsRow base e 1 v' (l ++ [b]).length (u64s (l ++ [b])) → w0.grownBy w' v.ownBlock → wpList P ops Q rest (a.put o.dst v') w') :
    wpList P ops Q (o :: rest) a (w0.alloc (.cells #[.int .u64 (b : Nat)] e)) := by
  refine wpList_append_own _ hgd s x t ho base e i (.int .u64 0) 1 8 ht hi hz hsize hby rfl (by decide) v l.length (u64s l) hs (hown.alloc _) ⟨w0.heap.size, 0, none⟩ 1 1 [.int .u64 (b : Nat)] hx rfl ?_ ?_ (by unfold maxLen; omega) (by omega) (by simp; omega) ?_
  · intro j u hj
    match j, hj with
    | 0, hj => simp at hj; subst hj; simp [Addr.add, go_sem]
  · intro u hu
    simp at hu; subst hu; rfl
  · intro v' w' h1 h2 _
    refine h v' w' (by simpa [u64s] using h1) ⟨h2.os, h2.tape, h2.output, Nat.le_trans (by simp) h2.size, fun k hk hne => (h2.block k (by simp; omega) hne).trans (Below.heap_alloc _ _ _ hk)⟩

/-- The offsets of the entries with a digest. -/
def ofd (L : List EntL) (d : List UInt8) : List Nat := (L.filter (fun x => decide (x.c.digest = d))).map EntL.off
theorem ofd_take {L : List EntL} {d : List UInt8} {k : Nat} (h : k < L.length) : ofd (L.take (k + 1)) d = ofd (L.take k) d ++ (if L[k].c.digest = d then [L[k].off] else []) := by
  rw [List.take_add_one, List.getElem?_eq_getElem h]
  unfold ofd
  simp only [Option.toList_some, List.filter_append, List.map_append]
  by_cases he : L[k].c.digest = d
  · simp [he]
  · simp [he]
theorem ofd_len (L : List EntL) (d : List UInt8) : (ofd L d).length ≤ L.length := by
  unfold ofd
  rw [List.length_map]
  exact List.length_filter_le _ _
theorem ofd_mem {L : List EntL} {d : List UInt8} {n : Nat} : n ∈ ofd L d ↔ ∃ x ∈ L, x.c.digest = d ∧ x.off = n := by
  unfold ofd
  simp [and_assoc]

/-- What OfDigest comes to. -/
def OdPost (L : List EntL) (d : List UInt8) (w : World) (e : Ending) (w' : World) : Prop :=
  ∃ v, e = .returned v ∧ w'.ownsRow w.heap.size 25 1 v (ofd L d).length (u64s (ofd L d)) ∧ Below w.heap.size w w'

theorem str_ne {a b : List UInt8} (h : a ≠ b) : ¬ (⟨a.toArray⟩ : ByteArray) = ⟨b.toArray⟩ := fun e => h (by
  have := congrArg (fun x : ByteArray => x.data.toList) e
  simpa using this)

end Go.Proofs.YtcljffldbnoljaaGreatDoor

namespace Go.Proofs.YtcljffldbnoljaaGreatDoor
open Go.RowKit

/-- What a tree's item says: the identifier's bytes and the offset. -/
def saysR (y : Rec) : List UInt8 × Nat := (y.id, y.off)
/-- What an entry says. -/
def saysE (x : EntL) : List UInt8 × Nat := (x.c.wr, x.off)
/-- The items of the tree are the first k entries, each once. -/
def SameP (L : List EntL) (k : Nat) (S : List Rec) : Prop := (S.map saysR).Perm ((L.take k).map saysE)
theorem sameP_nil (L : List EntL) : SameP L 0 Tre.leaf.ino := by simp [SameP, Tre.ino]
theorem SameP.step {L : List EntL} {k : Nat} {S S' : List Rec} {x : Rec} (h : SameP L k S) (hp : S'.Perm (x :: S)) (hk : k < L.length) (hd : x.id = L[k].c.wr) (ho : x.off = L[k].off) : SameP L (k + 1) S' := by
  unfold SameP at h ⊢
  rw [List.take_succ_eq_append_getElem hk, List.map_append]
  have h1 : (S'.map saysR).Perm (saysR x :: S.map saysR) := hp.map saysR
  have h2 : saysR x = saysE L[k] := by simp [saysR, saysE, hd, ho]
  rw [h2] at h1
  exact h1.trans ((h.cons _).trans (by simpa using (List.perm_append_comm (l₁ := [saysE L[k]]) (l₂ := (L.take k).map saysE))))
/-- A permutation of what is told is told by a permutation. -/
theorem perm_told {α β : Type} (f : α → β) : ∀ (M : List β) (L : List α), M.Perm (L.map f) → ∃ L' : List α, L'.Perm L ∧ M = L'.map f
  | [], L, h => by
    have : L = [] := by simpa using h.length_eq.symm
    exact ⟨[], by rw [this], rfl⟩
  | b :: M, L, h => by
    obtain ⟨a, ha, rfl⟩ := List.mem_map.1 (h.subset (List.mem_cons_self))
    obtain ⟨s, t, rfl⟩ := List.append_of_mem ha
    have h2 : (s ++ a :: t).Perm (a :: (s ++ t)) := List.perm_middle
    obtain ⟨L', hp, rfl⟩ := perm_told f M (s ++ t) ((h.trans (h2.map f)).cons_inv)
    exact ⟨a :: L', (hp.cons a).trans h2.symm, rfl⟩

/-- What a record made of an identifier comes to. -/
def NrPostI (c : CidL) (off : Nat) (w : World) (e : Ending) (w' : World) : Prop :=
  ∃ x : Rec, e = .returned x.agg ∧ x.id = c.wr ∧ x.d = c.digest ∧ x.off = off ∧ Bs w' x.g x.o x.d ∧ x.d.length ≤ x.c ∧ Below w.heap.size w w'

set_option maxRecDepth 100000 in
set_option maxHeartbeats 4000000 in
theorem newRecord_id (c : CidL) (off : Nat) (w : World) (hc : c.tidy) (hd : c.digest.length ≤ 4096) (E : E4 w) :
    Calls Tryz.prog 39 #[.agg #[.string ⟨c.wr.toArray⟩], .int .u64 off] w (NrPostI c off w) := by
  have hw := wr_len3 hc hd
  have hm := mhWr_len hc hd
  obtain ⟨l, hl⟩ : ∃ l, c.wr = l := ⟨_, rfl⟩
  rw [hl] at hw
  rw [hl]
  obtain ⟨W, hW⟩ : ∃ W, (w.alloc (.cells #[.string ⟨l.toArray⟩] 51)).alloc (.cells #[.slice none 0 0, .string ⟨#[]⟩, .int .u64 0] 67) = W := ⟨_, rfl⟩
  have bW : Below w.heap.size w W := by rw [← hW]; exact Old.alloc (Old.alloc (Below.refl _ _) _) _
  have AW : Blk W w.heap.size 51 #[.string ⟨l.toArray⟩] := by rw [← hW]; exact (Blk.new _ _ _).alloc _
  have RW : Blk W (w.heap.size + 1) 67 #[.slice none 0 0, .string ⟨#[]⟩, .int .u64 0] := by
    rw [← hW]
    have := Blk.new (w.alloc (.cells #[.string ⟨l.toArray⟩] 51)) 67 #[.slice none 0 0, .string ⟨#[]⟩, .int .u64 0]
    simpa using this
  have a0 : W.cell? ⟨w.heap.size, 0, none⟩ = some (.string ⟨l.toArray⟩) := AW.cell 0
  have EW := E.old bW
  have HH := Lib.hid (cidHash_any c l W hl.symm hc hd (by omega) hw.2 EW.e0 EW.e1 EW.e2)
  have HM := Lib.hid (And.intro hm E)
  have HL := Lib.hid hl
  clear hc hd hw hm hl E EW
  go_enter Tryz.func39, Tryz.ntmps39
  go_wp2_with fail
  clear hW a0
  refine HH.out.mono ?_
  rintro e w1 ⟨g, o, n, cc, rfl, hn, hncc, hg, hbs, b1⟩
  have b01 := Old.trans bW b1
  have A1 := AW.old b1
  have R1 := RW.old b1
  have E1 := HM.out.2.old b01
  have hdc := mhDecode_any g o n cc (mhWr c.code c.digest) w1 hn (by have := HM.out.1.1; omega) (by omega) hbs hg E1.e0 E1.e1 E1.e2 E1.e3
  rw [HM.out.1.2] at hdc
  have HD := Lib.hid hdc
  clear hdc hbs b1 bW AW RW HH hn hncc E1
  go_wp2_with fail
  refine HD.out.mono ?_
  rintro e w2 ⟨b2, h2, _⟩
  obtain ⟨b, o2, c2, rfl, BD, hdl, hb2⟩ := h2 rfl
  clear h2 HD
  have b02 := Old.trans b01 b2
  have A2 := A1.old b2
  have R2 := R1.old b2
  have z2 := R2.lt
  unfold dmCells at BD
  have d3 : w2.cell? ⟨b, 3, none⟩ = some (.slice (some ⟨g, o2, none⟩) c.digest.length c2) := BD.cell 3
  have a0 : w2.cell? ⟨w.heap.size, 0, none⟩ = some (.string ⟨l.toArray⟩) := A2.cell 0
  have f0 := R2.frozen 0
  have f1 := R2.frozen 1
  have f2 := R2.frozen 2
  have r0 : w2.cell? ⟨w.heap.size + 1, 0, none⟩ = some (.slice none 0 0) := R2.cell 0
  have r1 : w2.cell? ⟨w.heap.size + 1, 1, none⟩ = some (.string ⟨#[]⟩) := R2.cell 1
  have r2 : w2.cell? ⟨w.heap.size + 1, 2, none⟩ = some (.int .u64 0) := R2.cell 2
  have H := Lib.hid (And.intro R2 (And.intro b02 (And.intro hb2 hdl)))
  clear R2 b02 hb2 hdl BD A2 b01 A1 R1 b2
  go_wp2_with fail
  go_region
  all_goals go_wp2_with fail
  all_goals refine bodyPost_ret (ret_cell rfl rfl ((H.out.1.row [.slice (some ⟨g, o2, none⟩) c.digest.length c2, .string ⟨l.toArray⟩, .int .u64 off] rfl).drew) Tryz.underlying67 (by kernel_rfl)) rfl ?_
  all_goals refine ⟨⟨g, o2, c2, c.digest, l, off⟩, rfl, HL.out.symm, rfl, rfl, ?_, H.out.2.2.2, RowKit.Below.drew (below_setCells (Nat.le_succ _) [.slice (some ⟨g, o2, none⟩) c.digest.length c2, .string ⟨l.toArray⟩, .int .u64 off] 0 _ H.out.2.1)⟩
  all_goals
    have hne := bs_ne H.out.2.2.1 H.out.1 no_byte3
    rcases hne with hne | hne
    · intro j hj
      simp only at hj
      rw [hne] at hj
      exact absurd hj (Nat.not_lt_zero _)
    · exact (H.out.2.2.1.kp (Kp.of_setCells (l := [w.heap.size + 1]) (.inl (by simp)) [.slice (some ⟨g, o2, none⟩) c.digest.length c2, .string ⟨l.toArray⟩, .int .u64 off] 0 _ (Kp.refl _ _)) (by simpa using hne)).drewN 1
/-- What an insertion into the index comes to. -/
def IiPostI (ib : Nat) (n : Int) (s : Tre) (c : CidL) (off : Nat) (w : World) (e : Ending) (w' : World) : Prop :=
  e = .returned (.tuple #[]) ∧ ∃ (x : Rec) (s' : Tre), x.id = c.wr ∧ x.d = c.digest ∧ x.off = off ∧ Blk w' ib 60 #[.int .i64 (n + 1), .pointer s'.adr] ∧ Tr w' s' ∧ s'.ino.Perm (x :: s.ino) ∧ (Ord s.ino → Ord s'.ino) ∧ s'.bs.Nodup ∧ ib ∉ s'.bs ∧ (∀ i ∈ s'.bs, i ∈ s.bs ∨ w.heap.size ≤ i) ∧ Kp (ib :: s.bs) w w'

set_option maxRecDepth 100000 in
set_option maxHeartbeats 4000000 in
theorem iiInsert_id (ib : Nat) (n : Int) (s : Tre) (c : CidL) (off : Nat) (w : World) (hb : Blk w ib 60 #[.int .i64 n, .pointer s.adr]) (hn0 : 0 ≤ n) (hn : n ≤ 1000000) (h : Tr w s) (nd : s.bs.Nodup) (hi : ib ∉ s.bs) (hc : c.tidy) (hd : c.digest.length ≤ 200) (hd0 : c.digest ≠ []) (E : E4 w) :
    Calls Tryz.prog 22 #[.pointer (some ⟨ib, 0, none⟩), .agg #[.string ⟨c.wr.toArray⟩], .int .u64 off] w (IiPostI ib n s c off w) := by
  obtain ⟨l, hl⟩ : ∃ l, c.wr = l := ⟨_, rfl⟩
  have hnr := fun W (hW : Below w.heap.size w W) => newRecord_id c off W hc (by omega) (E.old hW)
  rw [hl] at hnr
  rw [hl]
  obtain ⟨W, hW⟩ : ∃ W, w.alloc (.cells #[.string ⟨l.toArray⟩] 51) = W := ⟨_, rfl⟩
  have bW : Below w.heap.size w W := by rw [← hW]; exact Old.alloc (Below.refl _ _) _
  have AW : Blk W w.heap.size 51 #[.string ⟨l.toArray⟩] := by rw [← hW]; exact Blk.new _ _ _
  have a0 : W.cell? ⟨w.heap.size, 0, none⟩ = some (.string ⟨l.toArray⟩) := AW.cell 0
  have HN := Lib.hid (hnr W.drew (RowKit.Below.drew bW))
  have H := Lib.hid (And.intro hb (And.intro hn0 (And.intro hn (And.intro h (And.intro nd (And.intro hi (And.intro hd (And.intro hd0 bW))))))))
  clear hnr hb hn0 hn h nd hi hc hd hd0 E hl bW AW
  go_enter Tryz.func22, Tryz.ntmps22
  go_wp2_with fail
  go_region_with (first | (go_at_call 39; refine HN.out.mono ?_; rintro _ w1 ⟨x, rfl, hxi, hxd, hxo, hxb, hxc, b1⟩; have HX := Lib.hid (And.intro hxd (And.intro hxo (And.intro hxb (And.intro hxc b1)))); clear hxd hxo hxb hxc b1; replace hxi := Lib.hid hxi) | (go_at_call 38; have b01 := Old.trans (RowKit.Below.drew H.out.2.2.2.2.2.2.2.2) HX.out.2.2.2.2; refine (insertTop_any ib n s x w1 (H.out.1.old b01) H.out.2.1 H.out.2.2.1 (Tr.old b01 H.out.2.2.2.1) H.out.2.2.2.2.1 H.out.2.2.2.2.2.1 ⟨HX.out.2.2.1, by rw [HX.out.1]; exact H.out.2.2.2.2.2.2.2.1, HX.out.2.2.2.1, by rw [HX.out.1]; have := H.out.2.2.2.2.2.2.1; omega⟩).mono ?_; rintro _ w2 ⟨rfl, s', hB, hT, hp, ho, hnd, hib, hbs, hk⟩; have HF := Lib.hid (And.intro hB (And.intro hT (And.intro hp (And.intro ho (And.intro hnd (And.intro hib (And.intro hbs (And.intro hk b01)))))))); clear hB hT hp ho hnd hib hbs hk b01))
  all_goals go_wp2_with fail
  all_goals go_end0
  all_goals
    obtain ⟨hB, hT, hp, ho, hnd, hib, hbs, hk, b01⟩ := HF.out
    exact ⟨rfl, x, s', hxi.out, HX.out.1, HX.out.2.1, hB, hT, hp, ho, hnd, hib, fun i hi => (hbs i hi).imp id (fun h => Nat.le_trans b01.size h), (Kp.of_below b01 _).trans hk⟩

/-- What insertion comes to. -/
def InPostP (L : List EntL) (w : World) (e : Ending) (w' : World) : Prop :=
  ∃ (ib : Nat) (s : Tre), e = .returned (.tuple #[.pointer (some ⟨ib, 0, none⟩), .bool true]) ∧ Blk w' ib 60 #[.int .i64 L.length, .pointer s.adr] ∧ Tr w' s ∧ Ord s.ino ∧ SameP L L.length s.ino ∧ Below w.heap.size w w'

set_option maxRecDepth 100000 in
set_option maxHeartbeats 4000000 in
theorem insertion_perm (a : Option Addr) (n c : Nat) (L : List EntL) (w : World) (hL : L.length = n) (hn : n ≤ 1000) (hst : ∀ (j : Nat) (hj : j < L.length), L[j].c.st) (h : n = 0 ∨ ∃ b off, a = some ⟨b, off, none⟩ ∧ Ens w b off L) (E : E4 w) :
    Calls Tryz.prog 12 #[.slice a n c] w (InPostP L w) := by
  have HF := Lib.hid (And.intro hL (And.intro hst (And.intro h E)))
  clear hL hst h E
  go_enter Tryz.func12, Tryz.ntmps12
  go_wp2_with fail
  refine (newIndex_any w).mono ?_
  rintro e w1 ⟨rfl, B1, b1⟩
  have H1 := Lib.hid (And.intro B1 b1)
  clear B1 b1
  go_wp2_with fail
  go_loopw [12] (fun i wr => ∃ (k : Nat) (s : Tre), k ≤ n ∧ i = .int .i64 k ∧ Blk wr w.heap.size 60 #[.int .i64 k, .pointer s.adr] ∧ Tr wr s ∧ Ord s.ino ∧ s.bs.Nodup ∧ w.heap.size ∉ s.bs ∧ (∀ i ∈ s.bs, w.heap.size ≤ i) ∧ SameP L k s.ino ∧ Below w.heap.size w wr) (fun i _ => n - (intOf i).toNat)
  case atStart => exact ⟨0, .leaf, Nat.zero_le _, rfl, H1.out.1, trivial, List.Pairwise.nil, List.nodup_nil, by simp [Tre.bs], fun i hi => by simp [Tre.bs] at hi, sameP_nil L, H1.out.2⟩
  case round =>
    obtain ⟨k, s, hk, rfl, hI, hT, hO, hnd, hib, hbs, hS, hB⟩ := hrel
    by_cases hkn : k < n
    · obtain h0 | ⟨b, off, rfl, hcs⟩ := HF.out.2.2.1
      · omega
      have hkL : k < L.length := by rw [HF.out.1]; exact hkn
      obtain ⟨c0, c1, c2, c3, c4⟩ := (hcs.old hB) k hkL
      have hsk := HF.out.2.1 k hkL
      have hstep := fun S' x (hp : List.Perm S' (x :: s.ino)) hi ho => hS.step hp hkL hi ho
      obtain ⟨x, hx⟩ : ∃ x, L[k] = x := ⟨_, rfl⟩
      rw [hx] at c0 c1 c2 c3 c4 hsk hstep
      have hkI : (k : Int) < (n : Int) := by omega
      have hB1 := Old.alloc hB (.cells #[.int .u64 (x.c.version : Nat), .int .u64 (x.c.codec : Nat), .int .u64 (x.c.code : Nat), .string ⟨x.c.digest.toArray⟩, .int .u64 (x.off : Nat)] 33)
      have hI1 := hI.alloc (.cells #[.int .u64 (x.c.version : Nat), .int .u64 (x.c.codec : Nat), .int .u64 (x.c.code : Nat), .string ⟨x.c.digest.toArray⟩, .int .u64 (x.off : Nat)] 33)
      have b01 : Below wr.heap.size wr (wr.alloc (.cells #[.int .u64 (x.c.version : Nat), .int .u64 (x.c.codec : Nat), .int .u64 (x.c.code : Nat), .string ⟨x.c.digest.toArray⟩, .int .u64 (x.off : Nat)] 33)) := Old.alloc (Below.refl _ _) _
      have hT1 := Tr.old b01 hT
      have X1 := Blk.new wr 33 #[.int .u64 (x.c.version : Nat), .int .u64 (x.c.codec : Nat), .int .u64 (x.c.code : Nat), .string ⟨x.c.digest.toArray⟩, .int .u64 (x.off : Nat)]
      obtain ⟨W1, hW1⟩ : ∃ W1, wr.alloc (.cells #[.int .u64 (x.c.version : Nat), .int .u64 (x.c.codec : Nat), .int .u64 (x.c.code : Nat), .string ⟨x.c.digest.toArray⟩, .int .u64 (x.off : Nat)] 33) = W1 := ⟨_, rfl⟩
      rw [hW1] at hB1 hI1 hT1 X1
      have q0 : W1.cell? ⟨wr.heap.size, 0, none⟩ = some (.int .u64 (x.c.version : Nat)) := X1.cell 0
      have q1 : W1.cell? ⟨wr.heap.size, 1, none⟩ = some (.int .u64 (x.c.codec : Nat)) := X1.cell 1
      have q2 : W1.cell? ⟨wr.heap.size, 2, none⟩ = some (.int .u64 (x.c.code : Nat)) := X1.cell 2
      have q3 : W1.cell? ⟨wr.heap.size, 3, none⟩ = some (.string ⟨x.c.digest.toArray⟩) := X1.cell 3
      have E1 := HF.out.2.2.2.old hB1
      have HC := Lib.hid (cidIn_any x.c W1 hsk.1 (by have := hsk.2.2; omega) E1.e0 E1.e1 E1.e2 E1.e3)
      have HS := Lib.hid (And.intro hI1 (And.intro hT1 (And.intro hO (And.intro hnd (And.intro hib (And.intro hbs (And.intro hstep (And.intro hB1 (And.intro hsk X1)))))))))
      clear hcs hx hI hT hO hnd hib hbs hS hB hsk hstep hB1 hI1 hT1 X1 E1 b01
      go_wp2_with fail
      clear hW1 c0 c1 c2 c3 c4 q0 q1 q2 q3
      refine HC.out.mono ?_
      rintro e w2 ⟨rfl, b2⟩
      obtain ⟨hI1, hT1, hO, hnd, hib, hbs, hstep, hB1, hsk, X1⟩ := HS.out
      have b12 := Old.alloc b2 (.cells #[.string ⟨x.c.wr.toArray⟩] 51)
      have hB3 := Old.trans hB1 b12
      have hI3 := hI1.old b12
      have hT3 := Tr.old b12 hT1
      have X3 := X1.old b12
      have C3 := Blk.new w2 51 #[.string ⟨x.c.wr.toArray⟩]
      obtain ⟨W3, hW3⟩ : ∃ W3, w2.alloc (.cells #[.string ⟨x.c.wr.toArray⟩] 51) = W3 := ⟨_, rfl⟩
      rw [hW3] at hB3 hI3 hT3 X3 C3
      have q4 : W3.cell? ⟨wr.heap.size, 4, none⟩ = some (.int .u64 (x.off : Nat)) := X3.cell 4
      have p0 : W3.cell? ⟨w2.heap.size, 0, none⟩ = some (.string ⟨x.c.wr.toArray⟩) := C3.cell 0
      have HI := Lib.hid (iiInsert_id w.heap.size (k : Int) s x.c x.off W3 hI3 (by omega) (by omega) hT3 hnd hib hsk.1 hsk.2.2 hsk.2.1 (HF.out.2.2.2.old hB3))
      have HT := Lib.hid (And.intro hB3 (And.intro hO (And.intro hbs hstep)))
      have hws : w.heap.size ≤ W3.heap.size := hB3.size
      clear hI1 hT1 hO hnd hib hbs hstep hB1 hsk X1 b12 b2 hB3 hI3 hT3 X3 C3 HC HS
      go_wp2_with fail
      clear hW3 q4 p0
      refine HI.out.mono ?_
      rintro e w4 ⟨rfl, y, s', hyi, hyd, hyo, hI4, hT4, hp, ho, hnd4, hib4, hbs4, hk4⟩
      have HI2 := Lib.hid hyi
      have HR := Lib.hid (And.intro hyd (And.intro hyo (And.intro hI4 (And.intro hT4 (And.intro hp (And.intro ho (And.intro hnd4 (And.intro hib4 (And.intro hbs4 hk4)))))))))
      clear hyi hyd hyo hI4 hT4 hp ho hnd4 hib4 hbs4 hk4 HI
      go_wp2_with fail
      all_goals go_roundw
      case rel =>
        obtain ⟨hyd, hyo, hI4, hT4, hp, ho, hnd4, hib4, hbs4, hk4⟩ := HR.out
        obtain ⟨hB3, hO, hbs, hstep⟩ := HT.out
        refine ⟨k + 1, s', hkn, by go_num, by simpa using hI4, hT4, ho hO, hnd4, hib4, fun i hi => ?_, hstep _ y hp HI2.out hyo, below_kp hB3 hk4 hws (fun i hi => ?_)⟩
        · rcases hbs4 i hi with h | h
          · exact hbs i h
          · omega
        · rcases List.mem_cons.1 hi with rfl | h
          · exact Nat.le_refl _
          · exact hbs i h
      case measure => simp [intOf]; omega
    · have hkn' : k = n := by omega
      subst hkn'
      have HE := Lib.hid (And.intro hI (And.intro hT (And.intro hO (And.intro hS hB))))
      clear hI hT hO hnd hib hbs hS hB
      go_wp2_with fail
      go_ret2
      exact ⟨_, s, rfl, by rw [HF.out.1]; exact HE.out.1, HE.out.2.1, HE.out.2.2.1, by rw [HF.out.1]; exact HE.out.2.2.2.1, HE.out.2.2.2.2⟩

end Go.Proofs.YtcljffldbnoljaaGreatDoor
