/-
  What writing into a bytes.Buffer leaves; index.zzWrite32, index.zzWrite64. Conditions: as each contract says.
  (*index.multiWidthIndex).Load: what it leaves in the map. Conditions: as each contract says.
  The walks of spec.MultihashBytes, spec.CidBytes. Conditions: as each contract says.
-/
import Derived.Test.YtcljffldbnoljaaGreatDoorJQt
import Derived.BigRegion
import Derived.Test.YtcljffldbnoljaaGreatDoorJMhI
import Derived.Test.YtcljffldbnoljaaGreatDoorJLp
import Derived.Deep.RegionWith
import Derived.Deep.RegionHeld3
namespace Go.Proofs.YtcljffldbnoljaaGreatDoor
open Go.RowKit

/-- What writes may turn: the buffer, its row. -/
def BT (b : Nat) (w w' : World) (row row' : Option Nat) : Prop := Kp (b :: row.toList) w w' ∧ ∀ g ∈ row'.toList, g ∈ row.toList ∨ w.heap.size ≤ g
theorem BT.refl (b : Nat) (w : World) (row : Option Nat) : BT b w w row row := ⟨Kp.refl _ _, fun _ h => .inl h⟩
theorem BT.trans {b : Nat} {w1 w2 w3 : World} {r1 r2 r3 : Option Nat} (h : BT b w1 w2 r1 r2) (k : BT b w2 w3 r2 r3) : BT b w1 w3 r1 r3 :=
  ⟨h.1.step k.1 (fun i hi => by
    rcases List.mem_cons.1 hi with rfl | hi
    · exact .inl (by simp)
    · exact (h.2 i hi).imp (fun h => by simp [h]) id), fun g hg => by
    rcases k.2 g hg with h1 | h1
    · exact h.2 g h1
    · exact .inr (Nat.le_trans h.1.size h1)⟩
theorem BT.of_below {b : Nat} {w w' : World} (row : Option Nat) (h : Below w.heap.size w w') : BT b w w' row row := ⟨Kp.of_below h _, fun _ h => .inl h⟩
theorem BT.pre {b : Nat} {w1 w2 w3 : World} {r1 r2 : Option Nat} (h : Below w1.heap.size w1 w2) (k : BT b w2 w3 r1 r2) : BT b w1 w3 r1 r2 := (BT.of_below r1 h).trans k
theorem BT.old {b : Nat} {w1 w2 w3 : World} {r1 r2 : Option Nat} (h : BT b w1 w2 r1 r2) (k : Below w2.heap.size w2 w3) : BT b w1 w3 r1 r2 := h.trans (BT.of_below r2 k)
/-- What was made ahead of the buffer stays. -/
theorem BT.below {b : Nat} {w0 w w' : World} {r r' : Option Nat} (h : BT b w w' r r') (h0 : Below w0.heap.size w0 w) (hb : ∀ i ∈ b :: r.toList, w0.heap.size ≤ i) : Below w0.heap.size w0 w' :=
  ((Kp.of_below h0 []).step h.1 (fun i hi => .inr (hb i hi))).below
theorem BT.far {b : Nat} {w0 w w' : World} {r r' : Option Nat} (h : BT b w w' r r') (h0 : Below w0.heap.size w0 w) (hb : ∀ i ∈ b :: r.toList, w0.heap.size ≤ i) : ∀ i ∈ b :: r'.toList, w0.heap.size ≤ i := fun i hi => by
  rcases List.mem_cons.1 hi with rfl | hi
  · exact hb _ (by simp)
  · rcases h.2 i hi with h1 | h1
    · exact hb i (by simp [h1])
    · exact Nat.le_trans h0.size h1
/-- A block apart from the buffer stays apart. -/
theorem BT.apart {b g : Nat} {w w' : World} {r r' : Option Nat} (h : BT b w w' r r') (hg : g < w.heap.size) (hb : g ∉ b :: r.toList) : g ∉ b :: r'.toList := fun hi => by
  rcases List.mem_cons.1 hi with rfl | hi
  · exact hb (by simp)
  · rcases h.2 g hi with h1 | h1
    · exact hb (by simp [h1])
    · omega
/-- What a write comes to: v is answered, m is written. -/
def WtPost (b : Nat) (row : Option Nat) (l m : List UInt8) (w : World) (v : Value) (e : Ending) (w' : World) : Prop := e = .returned v ∧ ∃ row', BuS w' b row' (l ++ m) ∧ BT b w w' row row'
theorem WrPost.wt {b : Nat} {row : Option Nat} {l m : List UInt8} {w : World} {e : Ending} {w' : World} (h : WrPost b row l m w e w') : WtPost b row l m w (.tuple #[.int .i64 m.length, .nilIface]) e w' := by
  obtain ⟨h1, ⟨row', h2, h3⟩, h4⟩ := h
  refine ⟨h1, row', h2, h4, fun g hg => ?_⟩
  rcases h3 with rfl | ⟨g', rfl, hg'⟩
  · exact .inl hg
  · have : g = g' := by simpa [eq_comm] using hg
    subst this
    exact .inr hg'
theorem hWrite (v : Value) (W : World) : (method 399 78 v "Write").run Tryz.prog W = .ok (157, v) W := by kernel_rfl

theorem bufWrite_wt (b : Nat) (row : Option Nat) (l m : List UInt8) (g0 o n c : Nat) (w : World) (h : BuS w b row l) (hs : Bs w g0 o m) (hn : n = m.length) (hnc : n ≤ c) (hg : g0 ∉ b :: row.toList) (hlim : l.length + m.length ≤ 1000000000) :
    Calls Tryz.prog 157 #[.pointer (some ⟨b, 0, none⟩), .slice (some ⟨g0, o, none⟩) n c] w (WtPost b row l m w (.tuple #[.int .i64 n, .nilIface])) := by
  subst hn
  refine (bufWrite_any b row l m g0 o m.length c w h hs rfl hnc (fun e => hg (by simp [e])) (fun g hr e => hg (by rw [hr, e]; simp)) hlim).mono ?_
  intro e w' h
  exact h.wt

set_option maxRecDepth 100000 in
set_option maxHeartbeats 4000000 in
theorem zzWrite32_any (b : Nat) (row : Option Nat) (l : List UInt8) (v : Nat) (w : World) (h : BuS w b row l) (hv : v < 4294967296) (hlim : l.length ≤ 900000000) :
    Calls Tryz.prog 171 #[.iface 78 (.pointer (some ⟨b, 0, none⟩)), .int .u32 (v : Nat)] w (WtPost b row l (Lib.leBytes 4 v) w .nilIface) := by
  have hmk := mk_bytes 4 (by omega) 4 rfl w
  obtain ⟨W, hW⟩ : ∃ W, w.alloc (.cells (List.replicate 4 (.int .u8 0)).toArray 5) = W := ⟨_, rfl⟩
  have bW : Below w.heap.size w W := by rw [← hW]; exact Old.alloc (Below.refl _ _) _
  have N : Blk W w.heap.size 5 (List.replicate 4 (.int .u8 0)).toArray := by rw [← hW]; exact Blk.new _ _ _
  obtain ⟨gg, hgg⟩ : ∃ gg, w.heap.size = gg := ⟨_, rfl⟩
  rw [hW, hgg] at hmk
  rw [hgg] at N
  have hap : gg ∉ b :: row.toList := fun hi => by
    rcases List.mem_cons.1 hi with e | hi
    · have := h.lt; omega
    · have := (h.rowlt gg (by simpa using hi)).1; omega
  have hB := h.old bW
  have HP := Lib.hid (put32_world gg 4 v (List.replicate 4 (.int .u8 0)) W 5 N (by simp) (Nat.le_refl _) hv)
  have H := Lib.hid (And.intro bW (And.intro hap (And.intro hB hlim)))
  have hwr := hWrite
  clear bW N hap hB h hv
  go_enter Tryz.func171, Tryz.ntmps171
  go_wp2_with fail
  refine HP.out.mono ?_
  rintro e W1 ⟨rfl, B1, K1⟩
  have hBu1 : BuS W1 b row l := H.out.2.2.1.kp K1 (by have := H.out.2.1; simp at this ⊢; exact fun e => this.1 e.symm) (fun g hg => by have := H.out.2.1; simp [hg] at this ⊢; exact fun e => this.2 e.symm)
  have hs : Bs W1 gg 0 (Lib.leBytes 4 v) := bs_blk B1
  have HW := Lib.hid (bufWrite_wt b row l (Lib.leBytes 4 v) gg 0 4 4 W1 hBu1 hs (by rw [Lib.leBytes_length]) (Nat.le_refl _) H.out.2.1 (by rw [Lib.leBytes_length]; have := H.out.2.2.2; omega))
  have HK := Lib.hid K1
  clear hBu1 hs B1 K1
  go_wp2_with fail
  refine HW.out.mono ?_
  rintro e W2 ⟨rfl, row', hB2, hT⟩
  have HR := Lib.hid (And.intro hB2 hT)
  clear hB2 hT
  go_wp2_with fail
  refine bodyPost_ret (v := .nilIface) (by simp [results, Tryz.results171, go_sem]) rfl ⟨rfl, row', HR.out.1, ?_⟩
  have k1 : Below w.heap.size w W1 := ((Kp.of_below H.out.1 []).step HK.out (fun i hi => by simp at hi; exact .inr (by omega))).below
  exact HR.out.2.pre k1

set_option maxRecDepth 100000 in
set_option maxHeartbeats 4000000 in
theorem zzWrite64_any (b : Nat) (row : Option Nat) (l : List UInt8) (v : Nat) (w : World) (h : BuS w b row l) (hv : v < 18446744073709551616) (hlim : l.length ≤ 900000000) :
    Calls Tryz.prog 178 #[.iface 78 (.pointer (some ⟨b, 0, none⟩)), .int .u64 (v : Nat)] w (WtPost b row l (Lib.leBytes 8 v) w .nilIface) := by
  have hmk := mk_bytes 8 (by omega) 8 rfl w
  obtain ⟨W, hW⟩ : ∃ W, w.alloc (.cells (List.replicate 8 (.int .u8 0)).toArray 5) = W := ⟨_, rfl⟩
  have bW : Below w.heap.size w W := by rw [← hW]; exact Old.alloc (Below.refl _ _) _
  have N : Blk W w.heap.size 5 (List.replicate 8 (.int .u8 0)).toArray := by rw [← hW]; exact Blk.new _ _ _
  obtain ⟨gg, hgg⟩ : ∃ gg, w.heap.size = gg := ⟨_, rfl⟩
  rw [hW, hgg] at hmk
  rw [hgg] at N
  have hap : gg ∉ b :: row.toList := fun hi => by
    rcases List.mem_cons.1 hi with e | hi
    · have := h.lt; omega
    · have := (h.rowlt gg (by simpa using hi)).1; omega
  have hB := h.old bW
  obtain ⟨X, hX⟩ : ∃ X : Int, (v : Int) = X := ⟨_, rfl⟩
  have hp := put64_blk gg 0 8 8 [] (List.replicate 8 (.int .u8 0)) X W 5 N rfl (by simp) (Nat.le_refl _) (by omega) (by omega)
  have hX2 : X.toNat = v := by omega
  rw [hX2] at hp
  have HP := Lib.hid hp
  have H := Lib.hid (And.intro bW (And.intro hap (And.intro hB hlim)))
  have hwr := hWrite
  rw [hX]
  clear bW N hap hB h hv hp hX hX2
  go_enter Tryz.func178, Tryz.ntmps178
  go_wp2_with fail
  refine HP.out.mono ?_
  rintro e W1 ⟨rfl, B1, K1⟩
  have hBu1 : BuS W1 b row l := H.out.2.2.1.kp K1 (by have := H.out.2.1; simp at this ⊢; exact fun e => this.1 e.symm) (fun g hg => by have := H.out.2.1; simp [hg] at this ⊢; exact fun e => this.2 e.symm)
  have hs : Bs W1 gg 0 (Lib.leBytes 8 v) := bs_blk (by simpa using B1)
  have HW := Lib.hid (bufWrite_wt b row l (Lib.leBytes 8 v) gg 0 8 8 W1 hBu1 hs (by rw [Lib.leBytes_length]) (Nat.le_refl _) H.out.2.1 (by rw [Lib.leBytes_length]; have := H.out.2.2.2; omega))
  have HK := Lib.hid K1
  clear hBu1 hs B1 K1
  go_wp2_with fail
  refine HW.out.mono ?_
  rintro e W2 ⟨rfl, row', hB2, hT⟩
  have HR := Lib.hid (And.intro hB2 hT)
  clear hB2 hT
  go_wp2_with fail
  refine bodyPost_ret (v := .nilIface) (by simp [results, Tryz.results178, go_sem]) rfl ⟨rfl, row', HR.out.1, ?_⟩
  have k1 : Below w.heap.size w W1 := ((Kp.of_below H.out.1 []).step HK.out (fun i hi => by simp at hi; exact .inr (by omega))).below
  exact HR.out.2.pre k1
end Go.Proofs.YtcljffldbnoljaaGreatDoor

namespace Go.Proofs.YtcljffldbnoljaaGreatDoor
open Go.RowKit Go.Sort Go.Lib

/-- What a row of an index says: a digest, an offset. -/
def sayR (r : DRec) : List UInt8 × Nat := (r.d, r.off)
/-- What an entry says to an index. -/
def sayD (x : EntL) : List UInt8 × Nat := (x.c.digest, x.off)
/-- The entries of one number. -/
def ofKey (key : EntL → Int) (L : List EntL) (y : Int) : List EntL := L.filter (fun x => decide (key x = y))
abbrev lenK : EntL → Int := fun x => (x.c.digest.length : Int)
/-- The rows of digests lie where they say, apart from the rows of the map's own. -/
def DOk (w : World) (m base : Nat) (F : Int → Option Value) (G : Int → List DRec) : Prop :=
  ∀ y, ∀ r ∈ G y, Bs w r.g r.o r.d ∧ base ≤ r.g ∧ r.g < w.heap.size ∧ r.g ≠ m ∧ r.d.length ≤ r.c ∧ r.d.length ≤ 1000 ∧ r.off < 18446744073709551616 ∧ ∀ z v, F z = some v → r.g ∉ v.ownBlock.toList
theorem DOk.old {w w' : World} {m base : Nat} {F : Int → Option Value} {G : Int → List DRec} (h : DOk w m base F G) (b : Below w.heap.size w w') : DOk w' m base F G := fun y r hr => by
  obtain ⟨h1, h2, h3, h4⟩ := h y r hr
  exact ⟨h1.old b, h2, Nat.lt_of_lt_of_le h3 b.size, h4⟩
/-- A number gets a row that has just been made. -/
theorem DOk.new {w w' : World} {m base : Nat} {F : Int → Option Value} {G : Int → List DRec} (h : DOk w m base F G) (k : Kp [m] w w') (x : Int) (v : Value) (hv : ∀ y, ∀ r ∈ G y, r.g ∉ v.ownBlock.toList) : DOk w' m base (fun y => if y = x then some v else F y) G := fun y r hr => by
  obtain ⟨h1, h2, h3, h4, h5, h6, h7, h8⟩ := h y r hr
  refine ⟨h1.kp k (by simp [h4]), h2, Nat.lt_of_lt_of_le h3 k.size, h4, h5, h6, h7, fun z u hz => ?_⟩
  by_cases e : z = x
  · simp only [e, reduceIte, Option.some.injEq] at hz
    rw [← hz]
    exact hv y r hr
  · simp only [if_neg e] at hz
    exact h8 z u hz
/-- A row is longer by one. -/
theorem DOk.add {w w1 w' : World} {m base : Nat} {F : Int → Option Value} {G : Int → List DRec} (h : DOk w m base F G) {x : Int} {u v : Value} (hu : F x = some u) (hT : AppT w w1 u v) (k : Kp (m :: u.ownBlock.toList) w w') (a : DRec) (ha : Bs w a.g a.o a.d ∧ base ≤ a.g ∧ a.g < w.heap.size ∧ a.g ≠ m ∧ a.d.length ≤ a.c ∧ a.d.length ≤ 1000 ∧ a.off < 18446744073709551616 ∧ ∀ z v, F z = some v → a.g ∉ v.ownBlock.toList) :
    DOk w' m base (fun y => if y = x then some v else F y) (fun y => if y = x then G x ++ [a] else G y) := fun y r hr => by
  have hr2 : Bs w r.g r.o r.d ∧ base ≤ r.g ∧ r.g < w.heap.size ∧ r.g ≠ m ∧ r.d.length ≤ r.c ∧ r.d.length ≤ 1000 ∧ r.off < 18446744073709551616 ∧ ∀ z v, F z = some v → r.g ∉ v.ownBlock.toList := by
    by_cases e : y = x
    · simp only [e, reduceIte, List.mem_append, List.mem_singleton] at hr
      rcases hr with hr | rfl
      · exact h x r hr
      · exact ha
    · simp only [if_neg e] at hr
      exact h y r hr
  obtain ⟨h1, h2, h3, h4, h5, h6, h7, h8⟩ := hr2
  refine ⟨h1.kp k (by simp only [List.mem_cons, not_or]; exact ⟨h4, h8 x u hu⟩), h2, Nat.lt_of_lt_of_le h3 k.size, h4, h5, h6, h7, fun z u' hz => ?_⟩
  by_cases e : z = x
  · simp only [e, reduceIte, Option.some.injEq] at hz
    rw [← hz]
    intro hm
    rcases hT.2 _ hm with h1 | h1
    · exact h8 x u hu h1
    · omega
  · simp only [if_neg e] at hz
    exact h8 z u' hz
/-- The first i entries, by their numbers. -/
def GOk (key : EntL → Int) {α : Type} (say : α → List UInt8 × Nat) (sayE : EntL → List UInt8 × Nat) (L : List EntL) (i : Nat) (l : List Int) (G : Int → List α) : Prop :=
  (∀ y, (G y).map say = (ofKey key (L.take i) y).map sayE) ∧ ∀ y, y ∈ l ↔ ∃ x ∈ L.take i, key x = y
theorem gOk_nil (key : EntL → Int) {α : Type} (say : α → List UInt8 × Nat) (sayE : EntL → List UInt8 × Nat) (L : List EntL) : GOk key say sayE L 0 [] (fun _ => []) := ⟨fun y => by simp [ofKey], fun y => by simp⟩
theorem GOk.step {key : EntL → Int} {α : Type} {say : α → List UInt8 × Nat} {sayE : EntL → List UInt8 × Nat} {L : List EntL} {i : Nat} {l : List Int} {G : Int → List α} (h : GOk key say sayE L i l G) (hi : i < L.length) {x : EntL} (hx : L[i] = x) {X : Int} (hX : key x = X) (a : α) (ha : say a = sayE x) (l' : List Int) (hl : ∀ y, y ∈ l' ↔ y = X ∨ y ∈ l) : GOk key say sayE L (i + 1) l' (fun y => if y = X then G X ++ [a] else G y) := by
  refine ⟨fun y => ?_, fun y => ?_⟩
  · unfold ofKey
    rw [List.take_succ_eq_append_getElem hi, hx, List.filter_append, List.map_append]
    have h1 := h.1 y
    unfold ofKey at h1
    by_cases e : y = X
    · subst e
      simp only [reduceIte, List.map_append, List.map_cons, List.map_nil, ha]
      rw [h1]
      simp [hX]
    · simp only [if_neg e]
      rw [h1]
      have : ¬ key x = y := fun e2 => e (by rw [← e2, hX])
      simp [this]
  · rw [hl, h.2 y, List.take_succ_eq_append_getElem hi, hx]
    constructor
    · rintro (rfl | ⟨u, hu, e⟩)
      · exact ⟨x, by simp, hX⟩
      · exact ⟨u, by simp [hu], e⟩
    · rintro ⟨u, hu, e⟩
      rcases List.mem_append.1 hu with h1 | h1
      · exact .inr ⟨u, h1, e⟩
      · left; rw [List.mem_singleton.1 h1, hX] at e; exact e.symm

theorem gOk_all {key : EntL → Int} {α : Type} {say : α → List UInt8 × Nat} {sayE : EntL → List UInt8 × Nat} {L : List EntL} {i : Nat} {l : List Int} {G : Int → List α} (h : GOk key say sayE L i l G) (hi : L.length = i) : (∀ y, (G y).map say = (ofKey key L y).map sayE) ∧ ∀ y, y ∈ l ↔ ∃ x ∈ L, key x = y := by
  subst hi
  unfold GOk at h
  rw [List.take_length] at h
  exact h

/-- What the index holds at k: the rows of one width, sorted. -/
def SwOk (w : World) (B : Nat) (L : List EntL) (k : Int) (v : Value) : Prop :=
  ∃ (g cap nb : Nat) (S : List (List UInt8 × Nat)), v = .agg #[.int .u32 k, .int .u64 S.length, .slice (some ⟨g, 0, none⟩) nb cap] ∧ nb = (S.flatMap (fun p => rowY p.1 p.2)).length ∧ nb ≤ cap ∧ Bs w g 0 (S.flatMap (fun p => rowY p.1 p.2)) ∧ B ≤ g ∧ g < w.heap.size ∧
    S.Perm ((ofKey (fun x => (x.c.digest.length : Int) + 8) L k).map sayD) ∧ S.Pairwise (fun a b => ltB b.1 a.1 = false)
theorem SwOk.kp {w w' : World} {B : Nat} {L : List EntL} {k : Int} {v : Value} {M : List Nat} (h : SwOk w B L k v) (hk : Kp M w w') (hM : ∀ i ∈ M, i < B) : SwOk w' B L k v := by
  obtain ⟨g, cap, nb, S, h1, h2, h3, h4, h5, h6, h7⟩ := h
  exact ⟨g, cap, nb, S, h1, h2, h3, h4.kp hk (fun e => by have := hM g e; omega), h5, Nat.lt_of_lt_of_le h6 hk.size, h7⟩
/-- Block mb is the map of an index of L. -/
def MwOk (w : World) (mb B : Nat) (L : List EntL) : Prop := ∃ lk F, MapK 172 .u32 w mb lk F ∧ (∀ k, k ∈ lk ↔ ∃ x ∈ L, (x.c.digest.length : Int) + 8 = k) ∧ ∀ k v, F k = some v → SwOk w B L k v
theorem MwOk.kp {w w' : World} {mb B : Nat} {L : List EntL} {M : List Nat} (h : MwOk w mb B L) (hk : Kp M w w') (hM : ∀ i ∈ M, i < B) (hm : mb ∉ M) : MwOk w' mb B L := by
  obtain ⟨lk, F, h1, h2, h3⟩ := h
  exact ⟨lk, F, h1.kp hk hm, h2, fun k v hv => (h3 k v hv).kp hk hM⟩
/-- What Load comes to. -/
def MlPost (mb : Nat) (L : List EntL) (w : World) (e : Ending) (w' : World) : Prop := e = .returned .nilIface ∧ MwOk w' mb w.heap.size L ∧ Kp [mb] w w'

theorem drecT : ∃ i0, Tryz.prog.info? 247 = some i0 ∧ i0.zero = some (.agg #[.slice none 0 0, .int .u64 0]) ∧ i0.size = 2 ∧ i0.bytes = 32 := ⟨(Tryz.prog.info? 247).get (by kernel_rfl), by kernel_rfl, by kernel_rfl, by kernel_rfl, by kernel_rfl⟩
theorem mk0_dr (W : World) : (Instr.makeSlice 244 (.int .i64 0) (.int .i64 0)).run Tryz.prog W = .ok (.slice (some ⟨W.heap.size, 0, none⟩) 0 0) (W.alloc (.cells #[] 247)) := by
  obtain ⟨i0, hi, hz0, hz1, hz2⟩ := drecT
  have hr := run_make (P := Tryz.prog) W 244 247 i0 _ Tryz.underlying244 hi hz0 .i64 .i64 0 0 (by omega) (by omega) (by rw [hz2]; omega) (by omega)
  have e0 : ∀ z : Array Value, madeCells z ((0 : Int).toNat * i0.size) = #[] := fun z => by
    rw [show (0 : Int).toNat * i0.size = 0 by simp]
    exact Array.eq_empty_of_size_eq_zero (size_madeCells _ _)
  rw [e0] at hr
  exact hr
theorem rowV_mk0 (w : World) (t : TypeId) (sz : Nat) : RowV (w.alloc (.cells #[] t)) sz (.slice (some ⟨w.heap.size, 0, none⟩) 0 0) 0 [] :=
  ⟨by simp, .inr ⟨w.heap.size, 0, rfl, (Blk.new w t #[]).lt, Nat.le_refl _, by decide, fun j u hu => by simp at hu, fun i hi => by omega⟩⟩
set_option maxRecDepth 100000 in
theorem zero_drs (W : World) : (zeroValue 244).run Tryz.prog W = .ok (.slice none 0 0) W := by kernel_rfl

theorem flatK_list {α : Type} [Inhabited α] (enc : α → List Value) (k : Nat) (hk : ∀ x, (enc x).length = k) (h0 : 0 < k) : ∀ (l : List α) (acc : Array α), (flatK enc k (acc ++ l.toArray)).toList = (flatK enc k acc).toList ++ l.flatMap enc
  | [], acc => by simp
  | x :: l, acc => by
    have h := flatK_list enc k hk h0 l (acc.push x)
    rw [flatK_push enc k hk h0] at h
    have e : acc.push x ++ l.toArray = acc ++ (x :: l).toArray := by simp
    rw [e] at h
    rw [h, List.flatMap_cons, List.append_assoc]
theorem rowV_dRow {w : World} {v : Value} {l : List DRec} (h : RowV w 2 v l.length (l.flatMap drC)) (hn : l ≠ []) (hq : ∀ q ∈ l, Bs w q.g q.o q.d ∧ q.g < w.heap.size ∧ q.d.length ≤ q.c ∧ q.d.length ≤ 1000 ∧ q.g ∉ v.ownBlock.toList) :
    ∃ g c, v = .slice (some ⟨g, 0, none⟩) l.toArray.size c ∧ l.length ≤ c ∧ g < w.heap.size ∧ DRow w g l.toArray := by
  obtain ⟨h0, ⟨_, h2⟩ | ⟨g, cap, rfl, hg, h3, h4, h5, h6⟩⟩ := h
  · exact absurd (List.eq_nil_of_length_eq_zero h2) hn
  · have hfl : (flatK drC 2 l.toArray).toList = l.flatMap drC := by
      have := flatK_list drC 2 drC_len (by omega) l #[]
      simpa [flatK] using this
    refine ⟨g, cap, by simp, h3, hg, fun j hj => ?_, fun i hi => ?_⟩
    · rw [size_flatK] at hj
      have hj2 : j < (flatK drC 2 l.toArray).size := by rw [size_flatK]; exact hj
      have e : (l.flatMap drC)[j]? = some (flatK drC 2 l.toArray)[j]! := by
        rw [← hfl, getElem!_pos _ j hj2]; simp
      rw [Nat.zero_add]
      exact ⟨h5 j _ e, (h6 j (by have := Nat.mul_le_mul_right 2 h3; simp at hj; omega)).2⟩
    · have hi2 : i < l.length := by simpa using hi
      rw [getElem!_pos _ i hi]
      obtain ⟨q1, q2, q3, q4, q5⟩ := hq l[i] (List.getElem_mem hi2)
      exact ⟨q1, fun e => q5 (by simp [Value.ownBlock] at e ⊢; exact e), q2, q3, q4⟩
theorem SwOk.mono {w : World} {B B' : Nat} {L : List EntL} {k : Int} {v : Value} (h : SwOk w B L k v) (hB : B' ≤ B) : SwOk w B' L k v := by
  obtain ⟨g, cap, nb, S, h1, h2, h3, h4, h5, h6⟩ := h
  exact ⟨g, cap, nb, S, h1, h2, h3, h4, Nat.le_trans hB h5, h6⟩

/-- The bytes of rows. -/
def rowsD (l : List DRec) : List UInt8 := l.flatMap (fun q => rowY q.d q.off)
theorem rowsD_len {l : List DRec} {k : Nat} (h : ∀ q ∈ l, q.d.length = k) : (rowsD l).length = l.length * (k + 8) := by
  induction l with
  | nil => simp [rowsD]
  | cons a t ih =>
    have h1 := ih (fun q hq => h q (List.mem_cons_of_mem _ hq))
    have h2 := h a (List.mem_cons_self)
    unfold rowsD at h1 ⊢
    rw [List.flatMap_cons, List.length_append, h1, List.length_cons, Nat.succ_mul]
    simp only [rowY, List.length_append, Lib.leBytes_length, h2]
    omega
theorem rowsD_take {l : List DRec} {j : Nat} (hj : j < l.length) : rowsD (l.take (j + 1)) = rowsD (l.take j) ++ rowY l[j].d l[j].off := by
  unfold rowsD
  rw [List.take_succ_eq_append_getElem hj, List.flatMap_append]
  simp
/-- What is laid at a width says what it shall. -/
theorem swOk_made {L : List EntL} {w : World} {B gc T nX k : Nat} {D d' : Array DRec} (hB : B ≤ gc) (hg : gc < w.heap.size) (hs : Bs w gc 0 (rowsD d'.toList)) (hT : (rowsD d'.toList).length = T) (hn : d'.toList.length = nX) (hP : d'.toList.Perm D.toList) (hS : d'.toList.Pairwise (fun a b => drLt b a = false)) (hG : D.toList.map sayR = (ofKey lenK L (k : Int)).map sayD) :
    SwOk w B L ((k : Int) + 8) (.agg #[.int .u32 ((k : Int) + 8), .int .u64 (nX : Int), .slice (some ⟨gc, 0, none⟩) T T]) := by
  have e1 : (d'.toList.map sayR).flatMap (fun p => rowY p.1 p.2) = rowsD d'.toList := by
    unfold rowsD; rw [List.flatMap_map]; rfl
  have e2 : ofKey (fun x => (x.c.digest.length : Int) + 8) L ((k : Int) + 8) = ofKey lenK L (k : Int) := by
    unfold ofKey
    congr 1
    funext x
    have : ((x.c.digest.length : Int) + 8 = (k : Int) + 8) ↔ lenK x = (k : Int) := by simp only [lenK]; omega
    simp only [this]
  refine ⟨gc, T, T, d'.toList.map sayR, by rw [List.length_map, hn], by rw [e1, hT], Nat.le_refl _, by rw [e1]; exact hs, hB, hg, ?_, ?_⟩
  · rw [e2, ← hG]; exact hP.map sayR
  · rw [List.pairwise_map]; exact hS

/-- The second loop: the numbers todo are still to come. -/
def Load2 (L : List EntL) (mb m r B2 : Nat) (l : List Int) (F : Int → Option Value) (G : Int → List DRec) (w wr : World) (todo : List Int) : Prop :=
  MapR 3 .i64 wr m r F todo ∧ (∀ x ∈ todo, ∀ v, F x = some v → RowV wr 2 v (G x).length ((G x).flatMap drC)) ∧ (∀ y, ∀ q ∈ G y, Bs wr q.g q.o q.d) ∧
  (∃ lk F', MapK 172 .u32 wr mb lk F' ∧ lk.length ≤ l.length ∧ lk.length + todo.length ≤ l.length ∧ (∀ k, k ∈ lk ↔ k - 8 ∈ l ∧ k - 8 ∉ todo) ∧ ∀ k v, F' k = some v → SwOk wr B2 L k v) ∧ Kp [mb] w wr ∧ B2 ≤ wr.heap.size
/-- A round of it. -/
theorem load2_end {L : List EntL} {mb m r B2 gX : Nat} {l : List Int} {F : Int → Option Value} {G : Int → List DRec} {w wr w3 w8 w9 : World} {todo : List Int} {x : Int} {v : Value} {lk : List Int} {F' : Int → Option Value} {vs : Value}
    (h : Load2 L mb m r B2 l F G w wr todo) (hx : x ∈ todo) (hxl : x ∈ l) (h3 : MapR 3 .i64 w3 m r F (todo.erase x)) (k3 : Kp [r] wr w3) (hF : F x = some v) (hv : gX ∈ v.ownBlock.toList)
    (hnd : todo.Nodup) (hap : ∀ x y u v, F x = some u → F y = some v → x ≠ y → ∀ i ∈ u.ownBlock.toList, i ∉ v.ownBlock.toList) (hFr : ∀ x v, F x = some v → ∀ i ∈ v.ownBlock.toList, m < i ∧ i < r) (hGr : ∀ y, ∀ q ∈ G y, q.g < r ∧ q.g ≠ mb ∧ ∀ z v, F z = some v → q.g ∉ v.ownBlock.toList) (hmr : m < r) (hmbm : mb < m) (hrB : r < B2) (hwm : w.heap.size = m)
    (_h8 : MapK 172 .u32 w8 mb lk F') (k8 : Kp [gX] w3 w8) (hlk : lk.length + todo.length ≤ l.length) (hks : ∀ k, k ∈ lk ↔ k - 8 ∈ l ∧ k - 8 ∉ todo) (hsw : ∀ k v, F' k = some v → SwOk w8 B2 L k v)
    (h9 : MapK 172 .u32 w9 mb (keyPut lk (x + 8)) (fun y => if y = x + 8 then some vs else F' y)) (k9 : Kp [mb] w8 w9) (hs9 : SwOk w8 B2 L (x + 8) vs) : Load2 L mb m r B2 l F G w w9 (todo.erase x) := by
  obtain ⟨_, hrows, hdig, _, hK, hB⟩ := h
  have hgx := hFr x v hF gX hv
  have hxn : x + 8 ∉ lk := fun e => by
    have := ((hks (x + 8)).1 e).2
    rw [show x + 8 - 8 = x by omega] at this
    exact this hx
  have k39 : Kp [gX, mb] w3 w9 := (k8.weaken (by simp)).trans (k9.weaken (by simp))
  have hlen : (todo.erase x).length = todo.length - 1 := List.length_erase_of_mem hx
  have htp : 0 < todo.length := List.length_pos_of_mem hx
  refine ⟨h3.kp k39 (by simp; omega) (by simp; omega), fun y hy u hu => ?_, fun y q hq => ?_, ⟨keyPut lk (x + 8), _, h9, ?_, ?_, fun k => ?_, fun k u hk => ?_⟩, ?_, Nat.le_trans hB (Nat.le_trans k3.size k39.size)⟩
  · have hyx := (hnd.mem_erase_iff.1 hy).1
    refine (((hrows y (List.mem_of_mem_erase hy) u hu).kp k3 (fun i hi => ?_)).kp k39 (fun i hi => ?_))
    · have := hFr y u hu i hi
      simp; omega
    · have h1 := hap y x u v hu hF hyx i hi
      have h2 := hFr y u hu i hi
      simp only [List.mem_cons, List.not_mem_nil, or_false, not_or]
      exact ⟨fun e => h1 (by rw [e]; exact hv), by omega⟩
  · have h1 := hGr y q hq
    refine ((hdig y q hq).kp k3 (by simp; omega)).kp k39 ?_
    simp only [List.mem_cons, List.not_mem_nil, or_false, not_or]
    exact ⟨fun e => h1.2.2 x v hF (by rw [e]; exact hv), h1.2.1⟩
  · unfold keyPut; rw [if_neg hxn]; simp; omega
  · unfold keyPut; rw [if_neg hxn]; simp; omega
  · rw [keyPut_mem, hks k, hnd.mem_erase_iff]
    constructor
    · rintro (rfl | ⟨h1, h2⟩)
      · rw [show x + 8 - 8 = x by omega]
        exact ⟨hxl, fun e => e.1 rfl⟩
      · exact ⟨h1, fun e => h2 e.2⟩
    · rintro ⟨h1, h2⟩
      by_cases e : k - 8 = x
      · exact .inl (by omega)
      · exact .inr ⟨h1, fun e2 => h2 ⟨e, e2⟩⟩
  · by_cases e : k = x + 8
    · subst e
      simp only [reduceIte, Option.some.injEq] at hk
      subst hk
      exact hs9.kp k9 (by simp; omega)
    · simp only [if_neg e] at hk
      exact (hsw k u hk).kp k9 (by simp; omega)
  · exact (hK.step k3 (by simp; omega)).step k39 (by simp; omega)
theorem load2_done {L : List EntL} {mb m r B2 : Nat} {l : List Int} {F : Int → Option Value} {G : Int → List DRec} {w wr : World} (h : Load2 L mb m r B2 l F G w wr []) (hl : ∀ y, y ∈ l ↔ ∃ x ∈ L, (x.c.digest.length : Int) = y) (hB : w.heap.size ≤ B2) : MlPost mb L w (.returned .nilIface) wr := by
  obtain ⟨_, _, _, ⟨lk, F', h1, _, _, h3, h4⟩, hK, _⟩ := h
  refine ⟨rfl, ⟨lk, F', h1, fun k => ?_, fun k v hv => (h4 k v hv).mono hB⟩, hK⟩
  rw [h3 k, hl]
  constructor
  · rintro ⟨⟨x, hx, e⟩, _⟩
    exact ⟨x, hx, by omega⟩
  · rintro ⟨x, hx, e⟩
    exact ⟨⟨x, hx, by omega⟩, by simp⟩
end Go.Proofs.YtcljffldbnoljaaGreatDoor

namespace Go.Proofs.YtcljffldbnoljaaGreatDoor
open Go.RowKit

theorem sp_app (a b : List UInt8) : (⟨a.toArray⟩ : ByteArray) ++ ⟨b.toArray⟩ = ⟨(a ++ b).toArray⟩ := by
  apply ByteArray.ext
  simp

/-- spec.Varint: what string makes of its bytes, then and later. -/
theorem specVarint_cv (n : Int) (w : World) (h0 : 0 ≤ n) (h1 : n < 18446744073709551616) :
    Calls Tryz.prog 16 #[.int .u64 n] w fun e w' => ∃ v, e = .returned v ∧ Below w.heap.size w w' ∧ Hid (∀ W', Below w'.heap.size w' W' → (convert 47 9 v).run Tryz.prog W' = .ok (.string ⟨(Lib.uvarint n.toNat).toArray⟩) W') := by
  refine (specVarint_any n w h0 h1).mono ?_
  rintro e w1 ⟨g, cap, rfl, hg, hl, hbs, hb⟩
  exact ⟨_, rfl, hb, Lib.hid (fun W' hW => conv_str (P := Tryz.prog) Tryz.underlying47 Tryz.underlying5 Tryz.underlying9 (c := cap) (hbs.old hW) rfl)⟩

end Go.Proofs.YtcljffldbnoljaaGreatDoor
