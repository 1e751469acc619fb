/-
  index.recordSet: Len, Less, Swap over rows of digests and offsets; sort.Sort: the row is sorted. Conditions: as each contract says.
  sort.Sort over index.recordSet: the records are sorted by their digests. Conditions: as the contract says.
  (cid.Cid).Hash lays its bytes anew; rows of records; rows kept by numbers in a map. Conditions: as each law says.
-/
import Derived.Test.YtcljffldbnoljaaGreatDoorJVq
import Derived.Test.YtcljffldbnoljaaGreatDoorJRf
import Derived.Shelf.GgSortFunc.SmallK
import Derived.BigRegion
import Derived.BigQuiet
import Derived.Deep.QuietTactic
import Derived.Deep.RegionWith
import Derived.Test.YtcljffldbnoljaaGreatDoorJQm
import Derived.Test.YtcljffldbnoljaaGreatDoorJOd
import Derived.Test.YtcljffldbnoljaaGreatDoorJJc
namespace Go.Proofs.YtcljffldbnoljaaGreatDoor
open Go.RowKit Go.Sort Go.Lib

/-- A digest, where its bytes lie, and an offset. -/
structure DRec where
  g : Nat
  o : Nat
  c : Nat
  d : List UInt8
  off : Nat
instance : Inhabited DRec := ⟨⟨0, 0, 0, [], 0⟩⟩
/-- A record's cells. -/
def drC (x : DRec) : List Value := [.slice (some ⟨x.g, x.o, none⟩) x.d.length x.c, .int .u64 (x.off : Nat)]
theorem drC_len (x : DRec) : (drC x).length = 2 := rfl
theorem drC_one (x : DRec) : ∀ v ∈ drC x, v.oneCell' = true := by
  intro v hv
  simp [drC] at hv
  rcases hv with rfl | rfl <;> rfl
/-- One record ahead of another. -/
def drLt (x y : DRec) : Bool := ltB x.d y.d
theorem drLt_swo : SWO drLt where
  irrefl x := ltB_irrefl x.d
  trans x y z h1 h2 := ltB_trans h1 h2
  ntrans x y z h1 h2 := by
    unfold drLt at *
    cases hc : ltB x.d z.d with
    | false => rfl
    | true =>
      by_cases hyz : ltB z.d y.d = true
      · have := ltB_trans hc hyz
        rw [h1] at this; cases this
      · have hyz' : ltB z.d y.d = false := by simpa using hyz
        have := ltB_total h2 hyz'
        rw [this] at h1
        rw [h1] at hc; cases hc
/-- A record's bytes lie where it says, not in block g. -/
def DrOk (w : World) (g : Nat) (x : DRec) : Prop := Bs w x.g x.o x.d ∧ x.g ≠ g ∧ x.g < w.heap.size ∧ x.d.length ≤ x.c ∧ x.d.length ≤ 1000
/-- Block g holds the records d. -/
def DRow (w : World) (g : Nat) (d : Array DRec) : Prop := HoldsK drC 2 w g 0 d ∧ ∀ i, i < d.size → DrOk w g d[i]!

theorem dRow_cells {w : World} {g : Nat} {d : Array DRec} (h : DRow w g d) (i : Nat) (hi : i < d.size) : w.cell? ⟨g, i * 2, none⟩ = some (.slice (some ⟨d[i]!.g, d[i]!.o, none⟩) d[i]!.d.length d[i]!.c) ∧ w.cell? ⟨g, i * 2 + 1, none⟩ = some (.int .u64 (d[i]!.off : Nat)) := by
  have c := fun c hc => (h.1.cell hi (c := c) hc).1
  simp only [Nat.zero_add] at c
  exact ⟨c 0 (by omega), c 1 (by omega)⟩

set_option maxRecDepth 100000 in
set_option maxHeartbeats 2000000 in
theorem drLess (g c i j : Nat) (d : Array DRec) (w : World) (h : DRow w g d) (hi : i < d.size) (hj : j < d.size) (_hn : d.size ≤ 1000) :
    Calls Tryz.prog 244 #[.slice (some ⟨g, 0, none⟩) d.size c, .int .i64 i, .int .i64 j] w fun e w' => e = .returned (.bool (drLt d[i]! d[j]!)) ∧ ∃ q, w' = w.drewN q := by
  have hx := (dRow_cells h i hi).1
  have hy := (dRow_cells h j hj).1
  have ox := (h.2 i hi).1
  have oy := (h.2 j hj).1
  obtain ⟨n, hn1⟩ : ∃ n, d.size = n := ⟨_, rfl⟩
  rw [hn1] at hi hj ⊢
  have hd : decide (Lib.compareBytes d[i]!.d d[j]!.d < 0) = drLt d[i]! d[j]! := rfl
  obtain ⟨x, hxe⟩ : ∃ x, d[i]! = x := ⟨_, rfl⟩
  obtain ⟨y, hye⟩ : ∃ y, d[j]! = y := ⟨_, rfl⟩
  rw [hxe] at hx ox hd ⊢
  rw [hye] at hy oy hd ⊢
  have hc := fun W (h1 : Bs W x.g x.o x.d) (h2 : Bs W y.g y.o y.d) => bytesCompare_any x.g x.o x.c y.g y.o y.c x.d y.d W h1 h2
  obtain ⟨z, hz⟩ : ∃ z, Lib.compareBytes x.d y.d = z := ⟨_, rfl⟩
  simp only [hz] at hc
  have HC := Lib.hid (And.intro hc (And.intro ox oy))
  rw [hz] at hd
  have HDd := Lib.hid hd
  clear hd
  have hiI : (i : Int) < (n : Int) := by omega
  have hjI : (j : Int) < (n : Int) := by omega
  clear h ox oy hc hn1 hxe hye hz _hn
  go_enter Tryz.func244, Tryz.ntmps244
  go_wp2_with fail
  go_quiet (first | (go_at_call 154; exact Calls.quiet_of_same ((HC.out.1 _ (HC.out.2.1.old (below_drewN (RowKit.Below.refl _ _) _)) (HC.out.2.2.old (below_drewN (RowKit.Below.refl _ _) _))).mono fun e w' h => ⟨h.1, h.2.symm⟩)))
  go_wp2_with fail
  exact bodyPost_ret (v := .bool (decide (z < 0))) (by simp [results, Tryz.results244, go_sem]) rfl ⟨by rw [HDd.out], nq, rfl⟩

theorem DrOk.kp {w w' : World} {g : Nat} {x : DRec} (h : DrOk w g x) (k : Kp [g] w w') : DrOk w' g x := ⟨h.1.kp k (by simp; exact h.2.1), h.2.1, Nat.lt_of_lt_of_le h.2.2.1 k.size, h.2.2.2⟩
theorem drSwap_world {w : World} {g i j : Nat} {d : Array DRec} (h : DRow w g d) (hi : i < d.size) (hj : j < d.size) :
    DRow (((w.setCells g (i * 2) (drC d[j]!)).setCells g (j * 2) (drC d[i]!)).drew) g (swp d i j) ∧ Kp [g] w (((w.setCells g (i * 2) (drC d[j]!)).setCells g (j * 2) (drC d[i]!)).drew) := by
  have hw := swap_worldK drC 2 drC_len w 0 0 g 0 d i j hi hj
  have hself : putRowK drC 2 (Sort.ahead w 0) g 0 d = w := putRowK_self drC 2 w g 0 d h.1
  rw [hself, Nat.zero_add, Nat.zero_add] at hw
  change _ = putRowK drC 2 w g 0 (swp d i j) at hw
  rw [show w.drewN 0 = w from rfl] at hw
  have hkp : Kp [g] w (((w.setCells g (i * 2) (drC d[j]!)).setCells g (j * 2) (drC d[i]!)).drew) := (Kp.of_setCells (.inl (by simp)) _ _ _ (Kp.of_setCells (.inl (by simp)) _ _ _ (Kp.refl _ _))).drew
  refine ⟨⟨?_, fun t ht => ?_⟩, hkp⟩
  · rw [hw]
    have hh := holdsK_putRowK drC 2 w g 0 d (swp d i j) h.1 (size_swp d i j)
    exact fun t ht => hh t ht
  · rw [size_swp] at ht
    rw [swp_get d hi hj t]
    split
    · exact (h.2 _ hi).kp hkp
    · split
      · exact (h.2 _ hj).kp hkp
      · exact (h.2 _ ht).kp hkp

set_option maxRecDepth 100000 in
set_option maxHeartbeats 2000000 in
theorem drSwap (g c i j : Nat) (d : Array DRec) (w : World) (h : DRow w g d) (hi : i < d.size) (hj : j < d.size) (_hn : d.size ≤ 1000) :
    Calls Tryz.prog 245 #[.slice (some ⟨g, 0, none⟩) d.size c, .int .i64 i, .int .i64 j] w fun e w' => e = .returned (.tuple #[]) ∧ DRow w' g (swp d i j) ∧ Kp [g] w w' := by
  have hx := dRow_cells h i hi
  have hy := dRow_cells h j hj
  have fx0 := fun c hc => (h.1.cell hi (c := c) hc).2
  have fy0 := fun c hc => (h.1.cell hj (c := c) hc).2
  simp only [Nat.zero_add] at fx0 fy0
  have fx1 : w.frozen? ⟨g, i * 2, none⟩ = false := fx0 0 (by omega)
  have fx2 : w.frozen? ⟨g, i * 2 + 1, none⟩ = false := fx0 1 (by omega)
  have fy1 : w.frozen? ⟨g, j * 2, none⟩ = false := fy0 0 (by omega)
  have fy2 : w.frozen? ⟨g, j * 2 + 1, none⟩ = false := fy0 1 (by omega)
  obtain ⟨n, hn1⟩ : ∃ n, d.size = n := ⟨_, rfl⟩
  rw [hn1]
  have x1 := hx.1
  have x2 := hx.2
  have y1 := hy.1
  have y2 := hy.2
  have H := Lib.hid (And.intro h (And.intro hn1 (And.intro hi hj)))
  have hiI : (i : Int) < (n : Int) := by omega
  have hjI : (j : Int) < (n : Int) := by omega
  clear h hx hy fx0 fy0 hi hj _hn hn1
  go_enter Tryz.func245, Tryz.ntmps245
  by_cases hij : i = j
  · subst hij
    go_wp2_with fail
    go_region
    all_goals go_wp2_with fail
    all_goals go_end0
    all_goals exact ⟨rfl, drSwap_world H.out.1 H.out.2.2.1 H.out.2.2.1⟩
  · have n1 : ¬ i * 2 = j * 2 := by omega
    have n2 : ¬ j * 2 = i * 2 := by omega
    have n3 : ¬ i * 2 + 1 = j * 2 := by omega
    have n4 : ¬ j * 2 = i * 2 + 1 := by omega
    have n5 : ¬ i * 2 = j * 2 + 1 := by omega
    have n6 : ¬ j * 2 + 1 = i * 2 := by omega
    have n7 : ¬ j = i := by omega
    go_wp2_with fail
    go_region
    all_goals go_wp2_with fail
    all_goals go_end0
    all_goals exact ⟨rfl, drSwap_world H.out.1 H.out.2.2.1 H.out.2.2.2⟩
end Go.Proofs.YtcljffldbnoljaaGreatDoor

namespace Go.Proofs.YtcljffldbnoljaaGreatDoor
open Go.RowKit Go.Sort Go.Lib

theorem lenM (rv : Value) (W : World) : (method 399 249 rv "Len").run Tryz.prog W = .ok (243, rv) W := by kernel_rfl
theorem drLen (a : Option Addr) (n c : Nat) (w : World) : Calls Tryz.prog 243 #[.slice a n c] w fun e w' => e = .returned (.int .i64 n) ∧ w' = w := by
  go_enter Tryz.func243, Tryz.ntmps243
  go_wp2_with fail
  exact bodyPost_ret (v := .int .i64 n) (by simp [results, Tryz.results243, go_sem]) rfl ⟨rfl, rfl⟩

theorem DRow.drewN {w : World} {g : Nat} {d : Array DRec} (h : DRow w g d) (q : Nat) : DRow (w.drewN q) g d := ⟨fun t ht => h.1 t ht, fun i hi => h.2 i hi⟩
theorem DRow.below {B : Nat} {w w' : World} {g : Nat} {d : Array DRec} (h : DRow w g d) (b : Below B w w') (hg : g < B) (hB : ∀ i, i < d.size → d[i]!.g < B) : DRow w' g d := by
  refine ⟨fun t ht => ?_, fun i hi => ?_⟩
  · have h1 := h.1 t ht
    exact ⟨(b.cell (p := ⟨g, 0 + t, none⟩) hg).trans h1.1, (b.frozen (p := ⟨g, 0 + t, none⟩) hg).trans h1.2⟩
  · have h1 := h.2 i hi
    exact ⟨h1.1.below b (hB i hi), h1.2.1, Nat.lt_of_lt_of_le h1.2.2.1 b.size, h1.2.2.2⟩

/-- What sort.Sort leaves. -/
def DsPost (g : Nat) (d : Array DRec) (w : World) (e : Ending) (w' : World) : Prop :=
  e = .returned (.tuple #[]) ∧ (∃ d', DRow w' g d' ∧ PermIn 0 d.size d d' ∧ SortedIn drLt 0 d.size d') ∧ Kp [g] w w'

set_option maxRecDepth 100000 in
set_option maxHeartbeats 2000000 in
theorem drSort (g c : Nat) (d : Array DRec) (w : World) (h : DRow w g d) (hn : d.size ≤ 1000) (hg : g < w.heap.size) : Calls Tryz.prog 174 #[setV (.slice (some ⟨g, 0, none⟩) d.size c)] w (DsPost g d w) := by
  obtain ⟨n, hn1⟩ : ∃ n, d.size = n := ⟨_, rfl⟩
  have hl : bitsLen n ≤ 10 := (bitsLen_le_iff n 10).2 (by omega)
  have hLen : ∀ w, Calls Tryz.prog 66 #[.int .u64 (n : Int)] w fun e w' => e = .returned (.int .i64 (bitsLen n : Nat)) ∧ w' = w := fun w => by
    have h := Tryz.bits_Len (n : Int) w (by omega) (by omega)
    rwa [Int.toNat_natCast, bitLen_eq _ (by omega)] at h
  have hB : ∀ i, i < d.size → d[i]!.g < w.heap.size := fun i hi => (h.2 i hi).2.2.1
  have H := pdqsort_I (.slice (some ⟨g, 0, none⟩) n c) w.heap.size g n (fun W D => DRow W g D ∧ ∀ i, i < D.size → D[i]!.g < w.heap.size)
    (fun W W' D hD b => ⟨hD.1.below b hg hD.2, hD.2⟩)
    (fun W D hD hs i j hi hj => by
      have hh := drSwap g c i j D W hD.1 (by omega) (by omega) (by omega)
      rw [hs] at hh
      refine hh.mono fun e w' q => ⟨q.1, ⟨q.2.1, fun k hk => ?_⟩, q.2.2⟩
      rw [size_swp] at hk
      rw [swp_get D (by omega) (by omega) k]
      split
      · exact hD.2 _ (by omega)
      · split
        · exact hD.2 _ (by omega)
        · exact hD.2 _ hk) drLt drLt_swo
    (fun W D hD hs i j hi hj => by
      have hh := drLess g c i j D W hD.1 (by omega) (by omega) (by omega)
      rw [hs] at hh
      refine hh.mono fun e w' q => ⟨q.1, ?_⟩
      obtain ⟨_, k, rfl⟩ := q
      exact ⟨⟨hD.1.drewN k, hD.2⟩, below_drewN (RowKit.Below.refl _ _) _⟩) (by omega) n 0 n (bitsLen n) (by omega) (Nat.zero_le _) (Nat.le_refl _) (by omega) w d (Nat.le_refl _) hg ⟨h, hB⟩ hn1 (Or.inl rfl)
  unfold DsPost
  rw [hn1]
  by_cases h1 : n ≤ 1
  · have d1 : decide ((n : Int) ≤ 1) = true := by rw [decide_eq_true_eq]; omega
    have d1N : decide (n ≤ 1) = true := by rw [decide_eq_true_eq]; omega
    have mN := lenM (.slice (some ⟨g, 0, none⟩) n c)
    have HX := Lib.hid h
    have HS : Hid (SortedIn drLt 0 n d) := Lib.hid fun i j _ hij hj => by omega
    have hN := Lib.hid (drLen (some ⟨g, 0, none⟩) n c)
    clear h H hLen hl hB
    go_enter Tryz.func174, Tryz.ntmps174
    go_wp2_with (first | (go_at_call 243; refine (hN.out _).mono ?_; rintro _ w1 ⟨rfl, rfl⟩))
    exact bodyPost_ret (results_none rfl _ _ _) rfl ⟨rfl, ⟨d, HX.out, permIn_refl _ _ _, HS.out⟩, Kp.refl _ _⟩
  · have d1 : decide ((n : Int) ≤ 1) = false := by rw [decide_eq_false_iff_not]; omega
    have d1N : decide (n ≤ 1) = false := by rw [decide_eq_false_iff_not]; omega
    have mN := lenM (.slice (some ⟨g, 0, none⟩) n c)
    have hN := Lib.hid (drLen (some ⟨g, 0, none⟩) n c)
    have wr : IntKind.u64.wrap (n : Int) = (n : Int) := by rw [IntKind.wrap_u64]; omega
    obtain ⟨l, hle⟩ : ∃ l, bitsLen n = l := ⟨_, rfl⟩
    rw [hle] at H
    have HL := Lib.hid hLen
    have HP := Lib.hid H
    have HE := Lib.hid hle
    clear h H hLen hl hB hle
    go_enter Tryz.func174, Tryz.ntmps174
    go_wp2_with (first | (go_at_call 243; refine (hN.out _).mono ?_; rintro _ w1 ⟨rfl, rfl⟩) | (go_at_call 66; refine (HL.out _).mono ?_; rintro _ w1 ⟨rfl, rfl⟩; rw [HE.out]) | (go_at_call 180; refine HP.out.mono ?_; rintro _ w2 ⟨rfl, h2, k2⟩; replace h2 := Lib.hid (And.intro h2 k2); clear k2))
    go_end0
    obtain ⟨⟨D', hD, hp, hs⟩, hk⟩ := h2.out
    exact ⟨rfl, ⟨D', hD.1, hp, hs⟩, hk⟩
end Go.Proofs.YtcljffldbnoljaaGreatDoor

namespace Go.Proofs.YtcljffldbnoljaaGreatDoor
open Go.RowKit Go.Sort

set_option maxRecDepth 100000 in
set_option maxHeartbeats 2000000 in
theorem cidHash_fresh (c : CidL) (l : List UInt8) (w : World) (hl : l = c.wr) (hc : c.tidy) (hd : c.digest.length ≤ 4096) (hm : l.length ≤ 1000000) (hp : 0 < l.length)
    (e0 : Er w 3) (e1 : Er w 4) (e2 : Er w 5) :
    Calls Tryz.prog 57 #[.agg #[.string ⟨l.toArray⟩]] w fun e w' => ∃ g o n cc, e = .returned (.slice (some ⟨g, o, none⟩) n cc) ∧ n = (mhWr c.code c.digest).length ∧ n ≤ cc ∧ w.heap.size ≤ g ∧ g < w'.heap.size ∧ Bs w' g o (mhWr c.code c.digest) ∧ Below w.heap.size w w' := by
  have b0 : Below w.heap.size w (w.alloc (.cells #[.string ⟨l.toArray⟩] 51)) := Old.alloc (Below.refl _ _) _
  have BA := Blk.new w 51 #[.string ⟨l.toArray⟩]
  have HL := Lib.hid (And.intro hl hc)
  clear hl hc
  go_enter Tryz.func57, Tryz.ntmps57
  go_wp2_with fail
  generalize w.alloc (.cells #[.string ⟨l.toArray⟩] 51) = W at *
  refine (cidBytes_any l W hp (by omega)).mono ?_
  rintro e w1 ⟨g, cc, rfl, hg1, hg2, hcc, hbs, b1⟩
  have b01 := Old.trans b0 b1
  have b0s := b0.size
  have BA1 := BA.old b1
  have a0 : w1.cell? ⟨w.heap.size, 0, none⟩ = some (.string ⟨l.toArray⟩) := BA1.cell 0
  clear b0 b1 BA
  go_wp2_with fail
  refine (version_any c l w1 HL.out.1 HL.out.2).mono ?_
  rintro e w2 ⟨rfl, b2⟩
  have b02 := Old.trans b01 b2
  have hbs2 := hbs.old b2
  have hg4 : w.heap.size ≤ g := Nat.le_trans b0s hg1
  have hg3 : g < w2.heap.size := Nat.lt_of_lt_of_le hg2 b2.size
  clear b01 b2 hbs BA1 a0
  by_cases h0 : c.version = 0
  · have hv : ((c.version : Int) == 0) = true := by simp [h0]
    have hw : l = mhWr c.code c.digest := by rw [HL.out.1, CidL.wr, if_pos h0]
    have HW := Lib.hid hw
    clear h0 hw
    go_wp2_with fail
    go_ret
    rw [← HW.out]
    exact ⟨g, 0, _, cc, rfl, rfl, hcc, hg4, hg3, hbs2, b02⟩
  · have hv : ((c.version : Int) == 0) = false := by simp; omega
    obtain ⟨n2, n3, n4, r1, r2, r3, r4, hlen, hdr, p2, p3, p4⟩ := wr_reads HL.out.2 h0 (by omega)
    rw [← HL.out.1] at r1 r2 hlen hdr
    have HR := Lib.hid (And.intro r1 (And.intro r2 hdr))
    clear r1 r2 r3 r4 hdr h0
    go_wp2_with fail
    refine (fromUvarint_any g 0 cc l w2 (by omega) hbs2 (e0.old b02) (e1.old b02) (e2.old b02)).mono ?_
    rw [HR.out.1]
    rintro e w3 ⟨⟨k, rfl⟩, rfl⟩
    go_wp2_with fail
    have hbs3 := (bs_from hbs2 1).drewN k
    rw [Nat.zero_add] at hbs3
    have hf := fromUvarint_any g 1 (cc - 1) (l.drop 1) (w2.drewN k) (by rw [List.length_drop]; omega) hbs3 (e0.old (below_drewN b02 k)) (e1.old (below_drewN b02 k)) (e2.old (below_drewN b02 k))
    rw [List.length_drop, HR.out.2.1] at hf
    refine hf.mono ?_
    clear hf
    rintro e w3 ⟨⟨k2, rfl⟩, rfl⟩
    go_wp2_with fail
    go_ret
    have hbs4 := bs_from hbs2 (1 + n2)
    rw [HR.out.2.2, Nat.zero_add] at hbs4
    have hln : l.length - (1 + n2) = (mhWr c.code c.digest).length := by rw [← HR.out.2.2, List.length_drop]
    exact ⟨g, 1 + n2, _, _, rfl, hln, by omega, hg4, hg3, hbs4.drewN _, below_drewN b02 _⟩


/-- A row of records. -/
def RecV (w : World) (v : Value) (S : List (List UInt8 × Nat)) : Prop := RowV w 2 v S.length (S.flatMap recC)
theorem recs_at {S : List (List UInt8 × Nat)} {i : Nat} (hi : i < S.length) : (S.flatMap recC)[i * 2]? = some (.string ⟨S[i].1.toArray⟩) ∧ (S.flatMap recC)[i * 2 + 1]? = some (.int .u64 (S[i].2 : Nat)) := by
  induction S generalizing i with
  | nil => simp at hi
  | cons a t ih =>
    cases i with
    | zero => simp [recC]
    | succ i =>
      have h := ih (i := i) (by simpa using hi)
      rw [List.flatMap_cons, List.getElem?_append_right (by simp [recC]; omega), List.getElem?_append_right (by simp [recC]; omega)]
      have e1 : (i + 1) * 2 - (recC a).length = i * 2 := by simp [recC]; omega
      have e2 : (i + 1) * 2 + 1 - (recC a).length = i * 2 + 1 := by simp [recC]; omega
      rw [e1, e2]
      simpa using h
theorem recV_at {w : World} {b : Option Addr} {n c : Nat} {S : List (List UInt8 × Nat)} (h : RecV w (.slice b n c) S) {i : Nat} (hi : i < S.length) : ∃ g, b = some ⟨g, 0, none⟩ ∧ n = S.length ∧ S.length ≤ c ∧ g < w.heap.size ∧ w.cell? ⟨g, i * 2, none⟩ = some (.string ⟨S[i].1.toArray⟩) ∧ w.cell? ⟨g, i * 2 + 1, none⟩ = some (.int .u64 (S[i].2 : Nat)) := by
  obtain ⟨h0, ⟨h1, h2⟩ | ⟨g, cap, hv, h2, h3, h4, h5, h6⟩⟩ := h
  · omega
  · cases hv
    have hc := recs_at hi
    exact ⟨g, rfl, rfl, h3, h2, h5 _ _ hc.1, h5 _ _ hc.2⟩
theorem recV_form {w : World} {v : Value} {S : List (List UInt8 × Nat)} (h : RecV w v S) : ∃ b c, v = .slice b S.length c := by
  obtain ⟨h0, ⟨rfl, h2⟩ | ⟨g, cap, rfl, _⟩⟩ := h
  · exact ⟨none, 0, by rw [h2]⟩
  · exact ⟨_, cap, rfl⟩
theorem blk_recV {w : World} {g n : Nat} {S : List (List UInt8 × Nat)} (h : Blk w g 65 (S.flatMap recC).toArray) (hn : S.length = n) (hm : n ≤ maxLen) : RecV w (.slice (some ⟨g, 0, none⟩) n n) S := by
  subst hn
  refine ⟨recs_len S, .inr ⟨g, S.length, rfl, h.lt, Nat.le_refl _, hm, fun j u hu => ?_, fun i hi => ⟨?_, h.frozen i⟩⟩⟩
  · rw [h.cell]; simpa using hu
  · rw [h.cell, List.getElem?_toArray, List.getElem?_eq_getElem (by rw [recs_len]; exact hi)]; rfl

section
variable {α : Type}
/-- A map from numbers to rows: at x the row of G x. -/
def Grp (kt : TypeId) (K : IntKind) (sz : Nat) (enc : α → List Value) (w : World) (m base : Nat) (l : List Int) (F : Int → Option Value) (G : Int → List α) : Prop :=
  MapK kt K w m l F ∧ (∀ x v, F x = some v → RowV w sz v (G x).length ((G x).flatMap enc) ∧ ∀ i ∈ v.ownBlock.toList, base ≤ i ∧ i ≠ m) ∧ (∀ x, x ∉ l → G x = []) ∧
  (∀ x y u v, F x = some u → F y = some v → x ≠ y → ∀ i ∈ u.ownBlock.toList, i ∉ v.ownBlock.toList)
variable {kt : TypeId} {K : IntKind} {sz : Nat} {enc : α → List Value} {w : World} {m base : Nat} {l : List Int} {F : Int → Option Value} {G : Int → List α}
theorem Grp.old {w' : World} (h : Grp kt K sz enc w m base l F G) (b : Below w.heap.size w w') : Grp kt K sz enc w' m base l F G :=
  ⟨h.1.old b, fun x v hx => ⟨(h.2.1 x v hx).1.old b, (h.2.1 x v hx).2⟩, h.2.2⟩
theorem grp_made (base : Nat) (w : World) : Grp kt K sz enc (w.alloc (.map #[] 0)) w.heap.size base [] (fun _ => none) (fun _ => []) :=
by
  refine ⟨mapK_made _ _ _, fun x v h => ?_, fun _ _ => rfl, fun x y u v h => ?_⟩
  · simp at h
  · simp at h
/-- An empty row is laid at a new number. -/
theorem Grp.new {t e : TypeId} (h : Grp kt K sz enc w m base l F G) (hk : Tryz.prog.underlying kt = some (.int K)) (ht : Tryz.prog.underlying t = some (.map kt e)) (hn : l.length ≤ 1000) {x : Int} (hx : (Lit.int K x).wf = true) (hxl : x ∉ l) {v : Value} (hv : RowV w sz v 0 []) (hf : ∀ i ∈ v.ownBlock.toList, base ≤ i ∧ i ≠ m) (ha : ∀ y u, F y = some u → ∀ i ∈ u.ownBlock.toList, i ∉ v.ownBlock.toList) :
    ∃ w', (Instr.mapUpdate t (.map (some m)) (.int K x) v).run Tryz.prog w = .ok () w' ∧ Grp kt K sz enc w' m base (keyPut l x) (fun y => if y = x then some v else F y) G ∧ Kp [m] w w' := by
  obtain ⟨w', hrun, hM, hK⟩ := mapK_put h.1 hk ht hn hx v
  refine ⟨w', hrun, ⟨hM, fun y u hy => ?_, fun y hy => h.2.2.1 y (fun e => hy ((keyPut_mem l x y).2 (.inr e))), fun y z u u' hy hz hne i hi => ?_⟩, hK⟩
  · by_cases e : y = x
    · subst e
      simp only [reduceIte, Option.some.injEq] at hy
      subst hy
      rw [h.2.2.1 _ hxl]
      exact ⟨hv.kp hK (fun i hi => by simp; exact (hf i hi).2), hf⟩
    · simp only [if_neg e] at hy
      exact ⟨(h.2.1 y u hy).1.kp hK (fun i hi => by simp; exact ((h.2.1 y u hy).2 i hi).2), (h.2.1 y u hy).2⟩
  · by_cases e : y = x
    · subst e
      simp only [reduceIte, Option.some.injEq] at hy
      subst hy
      simp only [if_neg (fun e : z = y => hne e.symm)] at hz
      exact fun h2 => ha z u' hz i h2 hi
    · simp only [if_neg e] at hy
      by_cases e2 : z = x
      · subst e2
        simp only [reduceIte, Option.some.injEq] at hz
        subst hz
        exact ha y u hy i hi
      · simp only [if_neg e2] at hz
        exact h.2.2.2 y z u u' hy hz hne i hi
/-- A row is longer by one. -/
theorem Grp.add {t e : TypeId} {w1 : World} (h : Grp kt K sz enc w m base l F G) (hk : Tryz.prog.underlying kt = some (.int K)) (ht : Tryz.prog.underlying t = some (.map kt e)) (hn : l.length ≤ 1000) (hbase : base ≤ w.heap.size) {x : Int} (hx : (Lit.int K x).wf = true) {u v : Value} (hu : F x = some u) (a : α) (hv : RowV w1 sz v ((G x).length + 1) ((G x).flatMap enc ++ enc a)) (hT : AppT w w1 u v) :
    ∃ w', (Instr.mapUpdate t (.map (some m)) (.int K x) v).run Tryz.prog w1 = .ok () w' ∧ Grp kt K sz enc w' m base l (fun y => if y = x then some v else F y) (fun y => if y = x then G x ++ [a] else G y) ∧ Kp (m :: u.ownBlock.toList) w w' := by
  have hmu : m ∉ u.ownBlock.toList := fun e => ((h.2.1 x u hu).2 m e).2 rfl
  have hM1 : MapK kt K w1 m l F := h.1.kp hT.1 hmu
  obtain ⟨w', hrun, hM, hK⟩ := mapK_put hM1 hk ht hn hx v
  have hxl : x ∈ l := (h.1.keys x).2 ⟨u, hu⟩
  have hkp : keyPut l x = l := by unfold keyPut; rw [if_pos hxl]
  rw [hkp] at hM
  have hmlt := h.1.lt
  have hvf : ∀ i ∈ v.ownBlock.toList, base ≤ i ∧ i ≠ m := fun i hi => by
    rcases hT.2 i hi with h1 | h1
    · exact (h.2.1 x u hu).2 i h1
    · exact ⟨by omega, by omega⟩
  refine ⟨w', hrun, ⟨hM, fun y u' hy => ?_, fun y hy => ?_, fun y z u1 u2 hy hz hne i hi => ?_⟩, (hT.1.weaken (fun i hi => .inl (by simp [hi]))).trans (hK.weaken (by simp))⟩
  · by_cases e : y = x
    · subst e
      simp only [reduceIte, Option.some.injEq] at hy
      subst hy
      simp only [reduceIte, List.length_append, List.length_cons, List.length_nil, List.flatMap_append, List.flatMap_cons, List.flatMap_nil, List.append_nil, Nat.zero_add]
      exact ⟨hv.kp hK (fun i hi => by simp; exact (hvf i hi).2), hvf⟩
    · simp only [if_neg e] at hy ⊢
      have h1 := h.2.1 y u' hy
      exact ⟨(h1.1.kp hT.1 (fun i hi => h.2.2.2 y x u' u hy hu e i hi)).kp hK (fun i hi => by simp; exact (h1.2 i hi).2), h1.2⟩
  · have e : ¬ y = x := fun e => hy (by rw [e]; exact hxl)
    simp only [if_neg e]
    exact h.2.2.1 y hy
  · have key : ∀ y u', F y = some u' → y ≠ x → ∀ i ∈ u'.ownBlock.toList, i ∉ v.ownBlock.toList := fun y u' hy e i hi h2 => by
      rcases hT.2 i h2 with h1 | h1
      · exact h.2.2.2 y x u' u hy hu e i hi h1
      · have := RowV.lt (h.2.1 y u' hy).1 i hi
        omega
    by_cases e : y = x
    · subst e
      simp only [reduceIte, Option.some.injEq] at hy
      subst hy
      simp only [if_neg (fun e : z = y => hne e.symm)] at hz
      exact fun h2 => key z u2 hz (fun e => hne e.symm) i h2 hi
    · simp only [if_neg e] at hy
      by_cases e2 : z = x
      · subst e2
        simp only [reduceIte, Option.some.injEq] at hz
        subst hz
        exact key y u1 hy e i hi
      · simp only [if_neg e2] at hz
        exact h.2.2.2 y z u1 u2 hy hz hne i hi
end
end Go.Proofs.YtcljffldbnoljaaGreatDoor
