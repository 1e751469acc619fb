/-
  impl.insertion, impl.IiGet: their walks. Conditions: as each contract says.
-/
import Derived.Test.YtdfhfaeeejijcaaDoorIz
import Derived.Test.YtdfhfaeeejijcaaDoorOd
namespace Go.Proofs.YtdfhfaeeejijcaaDoor
open Go.RowKit

/-- The items of the tree are the first k entries. -/
def Same (L : List EntL) (k : Nat) (S : List Rec) : Prop :=
  (∀ y ∈ S, ∃ (j : Nat) (hj : j < L.length), j < k ∧ y.d = L[j].c.digest ∧ y.off = L[j].off) ∧ (∀ (j : Nat) (hj : j < L.length), j < k → ∃ y ∈ S, y.d = L[j].c.digest ∧ y.off = L[j].off)
theorem Same.step {L : List EntL} {k : Nat} {S S' : List Rec} {x : Rec} (h : Same L k S) (hp : S'.Perm (x :: S)) (hk : k < L.length) (hd : x.d = L[k].c.digest) (ho : x.off = L[k].off) : Same L (k + 1) S' := by
  constructor
  · intro y hy
    rcases List.mem_cons.1 (hp.mem_iff.1 hy) with rfl | hy
    · exact ⟨k, hk, Nat.lt_succ_self _, hd, ho⟩
    · obtain ⟨j, hj, hjk, h1, h2⟩ := h.1 y hy
      exact ⟨j, hj, by omega, h1, h2⟩
  · intro j hj hjk
    by_cases hjk' : j < k
    · obtain ⟨y, hy, h1, h2⟩ := h.2 j hj hjk'
      exact ⟨y, hp.mem_iff.2 (by simp [hy]), h1, h2⟩
    · obtain rfl : j = k := by omega
      exact ⟨x, hp.mem_iff.2 (by simp), hd, ho⟩

/-- What insertion comes to. -/
def InPost (L : List EntL) (w : World) (e : Ending) (w' : World) : Prop :=
  ∃ (ib : Nat) (n : Int) (s : Tre), e = .returned (.tuple #[.pointer (some ⟨ib, 0, none⟩), .bool true]) ∧ Blk w' ib 113 #[.int .i64 n, .pointer s.adr] ∧ Tr w' s ∧ Ord s.ino ∧ Same L L.length s.ino ∧ Below w.heap.size w w'

set_option maxRecDepth 100000 in
set_option maxHeartbeats 4000000 in
theorem insertion_any (a : Option Addr) (n c : Nat) (L : List EntL) (w : World) (hL : L.length = n) (hn : n ≤ 1000) (hst : ∀ (j : Nat) (hj : j < L.length), L[j].c.st) (h : n = 0 ∨ ∃ b off, a = some ⟨b, off, none⟩ ∧ Ens w b off L) (E : E4 w) :
    Calls Tryd.prog 22 #[.slice a n c] w (InPost L w) := by
  have HF := Lib.hid (And.intro hL (And.intro hst (And.intro h E)))
  clear hL hst h E
  go_enter Tryd.func22, Tryd.ntmps22
  go_wp2_with fail
  refine (newIndex_any w).mono ?_
  rintro e w1 ⟨rfl, B1, b1⟩
  have H1 := Lib.hid (And.intro B1 b1)
  clear B1 b1
  go_wp2_with fail
  go_loopw [12] (fun i wr => ∃ (k : Nat) (s : Tre), k ≤ n ∧ i = .int .i64 k ∧ Blk wr w.heap.size 113 #[.int .i64 k, .pointer s.adr] ∧ Tr wr s ∧ Ord s.ino ∧ s.bs.Nodup ∧ w.heap.size ∉ s.bs ∧ (∀ i ∈ s.bs, w.heap.size ≤ i) ∧ Same L k s.ino ∧ Below w.heap.size w wr) (fun i _ => n - (intOf i).toNat)
  case atStart => exact ⟨0, .leaf, Nat.zero_le _, rfl, H1.out.1, trivial, List.Pairwise.nil, List.nodup_nil, by simp [Tre.bs], fun i hi => by simp [Tre.bs] at hi, ⟨fun y hy => by simp [Tre.ino] at hy, fun j _ h => absurd h (Nat.not_lt_zero _)⟩, H1.out.2⟩
  case round =>
    obtain ⟨k, s, hk, rfl, hI, hT, hO, hnd, hib, hbs, hS, hB⟩ := hrel
    by_cases hkn : k < n
    · obtain h0 | ⟨b, off, rfl, hcs⟩ := HF.out.2.2.1
      · omega
      have hkL : k < L.length := by rw [HF.out.1]; exact hkn
      obtain ⟨c0, c1, c2, c3, c4⟩ := (hcs.old hB) k hkL
      have hsk := HF.out.2.1 k hkL
      have hstep := fun S' x (hp : List.Perm S' (x :: s.ino)) hd ho => hS.step hp hkL hd ho
      obtain ⟨x, hx⟩ : ∃ x, L[k] = x := ⟨_, rfl⟩
      rw [hx] at c0 c1 c2 c3 c4 hsk hstep
      have hkI : (k : Int) < (n : Int) := by omega
      have hB1 := Old.alloc hB (.cells #[.int .u64 (x.c.version : Nat), .int .u64 (x.c.codec : Nat), .int .u64 (x.c.code : Nat), .string ⟨x.c.digest.toArray⟩, .int .u64 (x.off : Nat)] 38)
      have hI1 := hI.alloc (.cells #[.int .u64 (x.c.version : Nat), .int .u64 (x.c.codec : Nat), .int .u64 (x.c.code : Nat), .string ⟨x.c.digest.toArray⟩, .int .u64 (x.off : Nat)] 38)
      have b01 : Below wr.heap.size wr (wr.alloc (.cells #[.int .u64 (x.c.version : Nat), .int .u64 (x.c.codec : Nat), .int .u64 (x.c.code : Nat), .string ⟨x.c.digest.toArray⟩, .int .u64 (x.off : Nat)] 38)) := Old.alloc (Below.refl _ _) _
      have hT1 := Tr.old b01 hT
      have X1 := Blk.new wr 38 #[.int .u64 (x.c.version : Nat), .int .u64 (x.c.codec : Nat), .int .u64 (x.c.code : Nat), .string ⟨x.c.digest.toArray⟩, .int .u64 (x.off : Nat)]
      obtain ⟨W1, hW1⟩ : ∃ W1, wr.alloc (.cells #[.int .u64 (x.c.version : Nat), .int .u64 (x.c.codec : Nat), .int .u64 (x.c.code : Nat), .string ⟨x.c.digest.toArray⟩, .int .u64 (x.off : Nat)] 38) = W1 := ⟨_, rfl⟩
      rw [hW1] at hB1 hI1 hT1 X1
      have q0 : W1.cell? ⟨wr.heap.size, 0, none⟩ = some (.int .u64 (x.c.version : Nat)) := X1.cell 0
      have q1 : W1.cell? ⟨wr.heap.size, 1, none⟩ = some (.int .u64 (x.c.codec : Nat)) := X1.cell 1
      have q2 : W1.cell? ⟨wr.heap.size, 2, none⟩ = some (.int .u64 (x.c.code : Nat)) := X1.cell 2
      have q3 : W1.cell? ⟨wr.heap.size, 3, none⟩ = some (.string ⟨x.c.digest.toArray⟩) := X1.cell 3
      have E1 := HF.out.2.2.2.old hB1
      have HC := Lib.hid (cidIn_any x.c W1 hsk.1 (by have := hsk.2.2; omega) E1.e0 E1.e1 E1.e2 E1.e3)
      have HS := Lib.hid (And.intro hI1 (And.intro hT1 (And.intro hO (And.intro hnd (And.intro hib (And.intro hbs (And.intro hstep (And.intro hB1 (And.intro hsk X1)))))))))
      clear hcs hx hI hT hO hnd hib hbs hS hB hsk hstep hB1 hI1 hT1 X1 E1 b01
      go_wp2_with fail
      clear hW1 c0 c1 c2 c3 c4 q0 q1 q2 q3
      refine HC.out.mono ?_
      rintro e w2 ⟨rfl, b2⟩
      obtain ⟨hI1, hT1, hO, hnd, hib, hbs, hstep, hB1, hsk, X1⟩ := HS.out
      have b12 := Old.alloc b2 (.cells #[.string ⟨x.c.wr.toArray⟩] 58)
      have hB3 := Old.trans hB1 b12
      have hI3 := hI1.old b12
      have hT3 := Tr.old b12 hT1
      have X3 := X1.old b12
      have C3 := Blk.new w2 58 #[.string ⟨x.c.wr.toArray⟩]
      obtain ⟨W3, hW3⟩ : ∃ W3, w2.alloc (.cells #[.string ⟨x.c.wr.toArray⟩] 58) = W3 := ⟨_, rfl⟩
      rw [hW3] at hB3 hI3 hT3 X3 C3
      have q4 : W3.cell? ⟨wr.heap.size, 4, none⟩ = some (.int .u64 (x.off : Nat)) := X3.cell 4
      have p0 : W3.cell? ⟨w2.heap.size, 0, none⟩ = some (.string ⟨x.c.wr.toArray⟩) := C3.cell 0
      have HI := Lib.hid (iiInsert_any w.heap.size (k : Int) s x.c x.off W3 hI3 (by omega) (by omega) hT3 hnd hib hsk.1 hsk.2.2 hsk.2.1 (HF.out.2.2.2.old hB3))
      have HT := Lib.hid (And.intro hB3 (And.intro hO (And.intro hbs hstep)))
      have hws : w.heap.size ≤ W3.heap.size := hB3.size
      clear hI1 hT1 hO hnd hib hbs hstep hB1 hsk X1 b12 b2 hB3 hI3 hT3 X3 C3 HC HS
      go_wp2_with fail
      clear hW3 q4 p0
      refine HI.out.mono ?_
      rintro e w4 ⟨rfl, y, s', hyd, hyo, hI4, hT4, hp, ho, hnd4, hib4, hbs4, hk4⟩
      have HR := Lib.hid (And.intro hyd (And.intro hyo (And.intro hI4 (And.intro hT4 (And.intro hp (And.intro ho (And.intro hnd4 (And.intro hib4 (And.intro hbs4 hk4)))))))))
      clear hyd hyo hI4 hT4 hp ho hnd4 hib4 hbs4 hk4 HI
      go_wp2_with fail
      all_goals go_roundw
      case rel =>
        obtain ⟨hyd, hyo, hI4, hT4, hp, ho, hnd4, hib4, hbs4, hk4⟩ := HR.out
        obtain ⟨hB3, hO, hbs, hstep⟩ := HT.out
        refine ⟨k + 1, s', hkn, by go_num, by simpa using hI4, hT4, ho hO, hnd4, hib4, fun i hi => ?_, hstep _ y hp hyd hyo, below_kp hB3 hk4 hws (fun i hi => ?_)⟩
        · rcases hbs4 i hi with h | h
          · exact hbs i h
          · omega
        · rcases List.mem_cons.1 hi with rfl | h
          · exact Nat.le_refl _
          · exact hbs i h
      case measure => simp [intOf]; omega
    · have hkn' : k = n := by omega
      subst hkn'
      have HE := Lib.hid (And.intro hI (And.intro hT (And.intro hO (And.intro hS hB))))
      clear hI hT hO hnd hib hbs hS hB
      go_wp2_with fail
      go_ret2
      exact ⟨_, _, s, rfl, HE.out.1, HE.out.2.1, HE.out.2.2.1, by rw [HF.out.1]; exact HE.out.2.2.2.1, HE.out.2.2.2.2⟩

/-- What IiGet comes to. -/
def IgPost (L : List EntL) (d : List UInt8) (w : World) (e : Ending) (w' : World) : Prop :=
  Below w.heap.size w w' ∧ ((∃ x ∈ L, x.c.digest = d ∧ e = .returned (.tuple #[.int .u64 (x.off : Nat), .int .u8 0])) ∨ ((∀ x ∈ L, x.c.digest ≠ d) ∧ e = .returned (.tuple #[.int .u64 0, .int .u8 1])))

set_option maxRecDepth 100000 in
set_option maxHeartbeats 4000000 in
theorem impl_iiGet_any (a : Option Addr) (n c : Nat) (L : List EntL) (x : CidL) (aN : Addr) (w : World) (hL : L.length = n) (hn : n ≤ 1000) (hst : ∀ (j : Nat) (hj : j < L.length), L[j].c.st) (h : n = 0 ∨ ∃ b off, a = some ⟨b, off, none⟩ ∧ Ens w b off L) (hx : x.st) (E : E4 w) (eN : Ee w 0 aN) :
    Calls Tryd.prog 14 #[.slice a n c, .agg #[.int .u64 (x.version : Nat), .int .u64 (x.codec : Nat), .int .u64 (x.code : Nat), .string ⟨x.digest.toArray⟩]] w (IgPost L x.digest w) := by
  have b0 := Old.alloc (Below.refl w.heap.size w) (.cells #[.int .u64 (x.version : Nat), .int .u64 (x.codec : Nat), .int .u64 (x.code : Nat), .string ⟨x.digest.toArray⟩] 26)
  have B0 := Blk.new w 26 #[.int .u64 (x.version : Nat), .int .u64 (x.codec : Nat), .int .u64 (x.code : Nat), .string ⟨x.digest.toArray⟩]
  have HI := Lib.hid (insertion_any a n c L _ hL hn hst (h.imp id (fun ⟨b, off, ha, hc⟩ => ⟨b, off, ha, hc.old b0⟩)) (E.old b0))
  have H0 := Lib.hid (And.intro b0 (And.intro B0 (And.intro hx (And.intro E eN))))
  clear b0 B0 hL hn hst h hx E eN
  go_enter Tryd.func14, Tryd.ntmps14
  go_wp2_with fail
  obtain ⟨b0, B0, hx, E, eN⟩ := H0.out
  refine HI.out.mono ?_
  rintro e w1 ⟨ib, m, s, rfl, hI, hT, hO, hS, b1⟩
  have b01 := Old.trans b0 b1
  have B1 := B0.old b1
  have q0 : w1.cell? ⟨w.heap.size, 0, none⟩ = some (.int .u64 (x.version : Nat)) := B1.cell 0
  have q1 : w1.cell? ⟨w.heap.size, 1, none⟩ = some (.int .u64 (x.codec : Nat)) := B1.cell 1
  have q2 : w1.cell? ⟨w.heap.size, 2, none⟩ = some (.int .u64 (x.code : Nat)) := B1.cell 2
  have q3 : w1.cell? ⟨w.heap.size, 3, none⟩ = some (.string ⟨x.digest.toArray⟩) := B1.cell 3
  have E1 := E.old b01
  have HC := Lib.hid (cidIn_any x w1 hx.1 (by have := hx.2.2; omega) E1.e0 E1.e1 E1.e2 E1.e3)
  have HT := Lib.hid (And.intro hI (And.intro hT (And.intro hO (And.intro hS b01))))
  clear b0 B0 b1 B1 E1 hI hT hO hS b01 hx E eN HI
  go_wp2_with fail
  clear q0 q1 q2 q3
  refine HC.out.mono ?_
  rintro e w2 ⟨rfl, b2⟩
  obtain ⟨hI, hT, hO, hS, b01⟩ := HT.out
  obtain ⟨_, _, hx, E, eN⟩ := H0.out
  have b12 := Old.alloc b2 (.cells #[.string ⟨x.wr.toArray⟩] 58)
  have b03 := Old.trans b01 b12
  have HG := Lib.hid (iiGet_any ib m s x aN _ (hI.old b12) (Tr.old b12 hT) hO hx.1 hx.2.2 hx.2.1 (E.old b03) (eN.old b03))
  have HS := Lib.hid (And.intro hS (And.intro b03 eN))
  clear hI hT hO hS b01 hx E eN b12 b03 b2 HC HT
  go_wp2_with fail
  refine HG.out.mono ?_
  rintro e w4 ⟨b4, ⟨y, hy, hyd, rfl⟩ | ⟨hno, rfl⟩⟩
  · have HY := Lib.hid (And.intro hy (And.intro hyd b4))
    clear hy hyd b4
    go_wp2_with fail
    refine (found_nil w4).mono ?_
    rintro e _ ⟨rfl, rfl⟩
    go_wp2_with fail
    go_ret2
    obtain ⟨j, hj, _, h1, h2⟩ := HS.out.1.1 y HY.out.1
    exact ⟨Old.trans HS.out.2.1 HY.out.2.2, .inl ⟨L[j], List.getElem_mem hj, h1.symm.trans HY.out.2.1, by rw [← h2]; rfl⟩⟩
  · have HY := Lib.hid (And.intro hno b4)
    clear hno b4
    go_wp2_with fail
    refine (found_not aN w4 (HS.out.2.2.old (Old.trans HS.out.2.1 HY.out.2))).mono ?_
    rintro e _ ⟨rfl, rfl⟩
    go_wp2_with fail
    go_ret2
    refine ⟨Old.trans HS.out.2.1 HY.out.2, .inr ⟨fun z hz he => ?_, rfl⟩⟩
    obtain ⟨j, hj, rfl⟩ := List.getElem_of_mem hz
    obtain ⟨y, hy, h1, _⟩ := HS.out.1.2 j hj hj
    exact HY.out.1 y hy (h1.trans he)
end Go.Proofs.YtdfhfaeeejijcaaDoor
