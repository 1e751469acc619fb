/-
  The walk of spec.little: a number in 8 bytes, the lowest first. Conditions: the number is one of uint64.
  The walks of car.Characteristics.WriteTo, car.Header.WriteTo over a bytes.Buffer, of impl.C2Bytes and of FnC2Bytes. Conditions: as each contract says.
  The walks of car.Characteristics.ReadFrom, car.Header.ReadFrom over a bytes.Reader of a sound header's bytes, of impl.C2Read, laws.c2Sound and FnC2Back. Conditions: as each contract says.
-/
import Derived.Test.YtlafdmmjbkdkaaaGreatDoorJBase
import Derived.Test.YtlafdmmjbkdkaaaGreatDoorProg
import Derived.Deep.QuietTactic
import Derived.BigQuiet
import Derived.Deep.RegionWith
import Derived.Deep.RegionHeld3
import Derived.LoopTactic
import Derived.Lib.Endian
import Derived.Test.YtlafdmmjbkdkaaaGreatDoorShelf
import Derived.StillTailTactics
import Derived.Test.YtlafdmmjbkdkaaaGreatDoorJRf
namespace Go.Proofs.YtlafdmmjbkdkaaaGreatDoor
open Go.RowKit

theorem leBytes_snoc : ∀ (k v : Nat), Lib.leBytes (k + 1) v = Lib.leBytes k v ++ [(v / 256 ^ k % 256).toUInt8]
  | 0, v => by simp [Lib.leBytes]
  | k + 1, v => by
    rw [Lib.leBytes, leBytes_snoc k (v / 256), Nat.div_div_eq_div_mul, show 256 * 256 ^ k = 256 ^ (k + 1) from by rw [Nat.pow_succ, Nat.mul_comm]]
    rfl

/-- The row behind k rounds. -/
def leRow (k v : Nat) : List Value := Lib.byteCells (Lib.leBytes k v) ++ List.replicate (8 - k) (.int .u8 0)
theorem leRow_len (k v : Nat) (h : k ≤ 8) : (leRow k v).length = 8 := by
  rw [leRow, List.length_append, Lib.byteCells_length, Lib.leBytes_length, List.length_replicate]; omega
theorem leRow_step (k v : Nat) (h : k < 8) : (leRow k v).toArray.setIfInBounds k (.int .u8 (((v / 256 ^ k % 256).toUInt8.toNat : Nat) : Int)) = (leRow (k + 1) v).toArray := by
  have e1 : (Lib.byteCells (Lib.leBytes k v)).length = k := by rw [Lib.byteCells_length, Lib.leBytes_length]
  have e2 : List.replicate (8 - k) (Value.int .u8 0) = .int .u8 0 :: List.replicate (8 - (k + 1)) (.int .u8 0) := by
    rw [show 8 - k = (8 - (k + 1)) + 1 from by omega]; rfl
  rw [List.setIfInBounds_toArray, leRow, leRow, leBytes_snoc, Lib.byteCells_append, e2, List.set_append_right _ _ (by omega), e1, Nat.sub_self, List.append_assoc]
  rfl

set_option maxRecDepth 100000 in
set_option maxHeartbeats 1000000 in
theorem little_any (n : Int) (w : World) (h0 : 0 ≤ n) (_h1 : n < 18446744073709551616) :
    Calls Tryz.prog 67 #[.int .u64 n] w fun e w' => e = .returned (.string ⟨(Lib.leBytes 8 n.toNat).toArray⟩) ∧ Below w.heap.size w w' := by
  go_enter Tryz.func67, Tryz.ntmps67
  go_wp2_with fail
  go_loopw [5] (fun i wr => ∃ (k : Nat), k ≤ 8 ∧ i = .int .i64 k ∧ Blk wr w.heap.size 139 (leRow k n.toNat).toArray ∧ Below w.heap.size w wr) (fun i _ => 8 - (intOf i).toNat)
  case atStart => exact ⟨0, by omega, rfl, Blk.new _ _ _, (Below.refl _ _).alloc (Nat.le_refl _) _⟩
  case round =>
    obtain ⟨k, hk, rfl, B1, b1⟩ := hrel
    have hlen := leRow_len k n.toNat hk
    by_cases hlt : k < 8
    · have hc : ∃ v, wr.cell? ⟨w.heap.size, k, none⟩ = some v := Option.isSome_iff_exists.1 (blk_some B1 (by omega)).1
      obtain ⟨v0, hc⟩ := hc
      have hf := B1.frozen k
      go_wp2_with fail
      refine ⟨⟨k + 1, by omega, by go_num, ?_, b1.setCell (p := ⟨w.heap.size, k, none⟩) (Nat.le_refl _) _⟩, by simp [intOf]; omega⟩
      have hv : n / 2 ^ (8 * k) % 256 = (((n.toNat / 256 ^ k % 256).toUInt8.toNat : Nat) : Int) := by
        rw [Lib.toUInt8_mod, show (256 : Nat) ^ k = 2 ^ (8 * k) from by rw [Nat.pow_mul]]
        conv => lhs; rw [← Int.toNat_of_nonneg h0]
        push_cast
        rfl
      have B2 := B1.set_ k (.int .u8 (n / 2 ^ (8 * k) % 256))
      rw [hv, leRow_step k n.toNat hlt] at B2
      rw [hv]
      exact B2
    · obtain rfl : k = 8 := by omega
      have hr8 : leRow 8 n.toNat = Lib.byteCells (Lib.leBytes 8 n.toNat) := by rw [leRow]; simp
      rw [hr8] at B1
      have hcv2 := conv_str (P := Tryz.prog) Tryz.underlying45 Tryz.underlying5 Tryz.underlying9 (c := 8) (bs_blk B1) (Lib.leBytes_length _ _).symm
      go_wp2_with fail
      go_ret
      exact ⟨rfl, b1⟩

/-- A header's 40 bytes. -/
def hdBytes (a b c d e : Int) : List UInt8 := Lib.leBytes 8 a.toNat ++ Lib.leBytes 8 b.toNat ++ Lib.leBytes 8 c.toNat ++ Lib.leBytes 8 d.toNat ++ Lib.leBytes 8 e.toNat

set_option maxRecDepth 100000 in
set_option maxHeartbeats 4000000 in
theorem headBytes_any (a b c d e : Int) (w : World) (ha0 : 0 ≤ a) (ha1 : a < 18446744073709551616) (hb0 : 0 ≤ b) (hb1 : b < 18446744073709551616) (hc0 : 0 ≤ c) (hc1 : c < 18446744073709551616) (hd0 : 0 ≤ d) (hd1 : d < 18446744073709551616) (he0 : 0 ≤ e) (he1 : e < 18446744073709551616) :
    Calls Tryz.prog 44 #[.agg #[.int .u64 a, .int .u64 b, .int .u64 c, .int .u64 d, .int .u64 e]] w fun r w' => r = .returned (.string ⟨(hdBytes a b c d e).toArray⟩) ∧ Below w.heap.size w w' := by
  have B1 := Blk.new w 56 #[.int .u64 a, .int .u64 b, .int .u64 c, .int .u64 d, .int .u64 e]
  obtain ⟨f, hf⟩ : ∃ f : Int → List UInt8, f = fun n => Lib.leBytes 8 n.toNat := ⟨_, rfl⟩
  have hh : hdBytes a b c d e = f a ++ f b ++ f c ++ f d ++ f e := by rw [hf]; rfl
  rw [hh]
  clear hh
  have hfl : ∀ n, (f n).length = 8 := by intro n; rw [hf]; exact Lib.leBytes_length _ _
  have hl : ∀ n W, 0 ≤ n → n < 18446744073709551616 → Calls Tryz.prog 67 #[.int .u64 n] W fun e w' => e = .returned (.string ⟨(f n).toArray⟩) ∧ Below W.heap.size W w' := by rw [hf]; exact little_any
  have H := Lib.hid (show ∀ n W, (n = a ∨ n = b ∨ n = c ∨ n = d ∨ n = e) → Calls Tryz.prog 67 #[.int .u64 n] W fun e w' => e = .returned (.string ⟨(f n).toArray⟩) ∧ Below W.heap.size W w' from fun n W h => hl n W (by rcases h with rfl | rfl | rfl | rfl | rfl <;> assumption) (by rcases h with rfl | rfl | rfl | rfl | rfl <;> assumption))
  clear ha0 ha1 hb0 hb1 hc0 hc1 hd0 hd1 he0 he1 hl hf
  have bw : Below w.heap.size w (w.alloc (.cells #[.int .u64 a, .int .u64 b, .int .u64 c, .int .u64 d, .int .u64 e] 56)) := (Below.refl _ _).alloc (Nat.le_refl _) _
  have hlt := B1.lt
  obtain ⟨G, hG⟩ : ∃ G, w.heap.size = G := ⟨_, rfl⟩
  go_enter Tryz.func44, Tryz.ntmps44
  go_wp2_with fail
  generalize w.alloc (.cells #[.int .u64 a, .int .u64 b, .int .u64 c, .int .u64 d, .int .u64 e] 56) = W at *
  rw [hG] at B1 hlt
  clear hG
  have q0 : W.cell? ⟨G, 0, none⟩ = some (.int .u64 a) := B1.cell 0
  have q1 : W.cell? ⟨G, 1, none⟩ = some (.int .u64 b) := B1.cell 1
  have q2 : W.cell? ⟨G, 2, none⟩ = some (.int .u64 c) := B1.cell 2
  have q3 : W.cell? ⟨G, 3, none⟩ = some (.int .u64 d) := B1.cell 3
  have q4 : W.cell? ⟨G, 4, none⟩ = some (.int .u64 e) := B1.cell 4
  clear B1
  go_region_held3 (fun w' => Below W.heap.size W w' ∧ ∀ b o, b < W.heap.size → w'.cell? ⟨b, o, none⟩ = W.cell? ⟨b, o, none⟩)
    (first | exact stay_drew W | exact stay_below ‹_› ‹_› | go_keep)
    (first
      | (go_at_call 67; refine (H.out _ _ (by simp)).mono ?_; rintro _ w3 ⟨rfl, b3⟩))
  go_wp2_with fail
  go_ret
  exact ⟨by simp only [str_app]; rfl, Old.trans bw (by first | assumption | exact (‹Below W.heap.size W _ ∧ _›).1)⟩
end Go.Proofs.YtlafdmmjbkdkaaaGreatDoor

namespace Go.Proofs.YtlafdmmjbkdkaaaGreatDoor
open Go.RowKit

theorem one_bytes (l : List UInt8) : ∀ v ∈ Lib.byteCells l, v.oneCell' = true := by
  intro v hv
  obtain ⟨x, _, rfl⟩ := List.mem_map.1 hv
  rfl
theorem src_bs {w : World} {g : Nat} {l : List UInt8} (h : Bs w g 0 l) : ∀ j v, (Lib.byteCells l)[j]? = some v → w.cell? ((⟨g, 0, none⟩ : Addr).add j) = some v := by
  intro j v hj
  obtain ⟨hlt, rfl⟩ := List.getElem?_eq_some_iff.1 hj
  rw [Lib.byteCells_length] at hlt
  have := h j hlt
  have hadd : (⟨g, 0, none⟩ : Addr).add j = ⟨g, 0 + j, none⟩ := by unfold Addr.add; split <;> simp_all
  rw [hadd, this]
  simp [Lib.byteCells]
theorem put64_any (g o n c : Nat) (A zs : List Value) (v : Int) (W : World) (t : TypeId) (h : Blk W g t (A ++ zs).toArray) (ho : A.length = o) (hz : 8 ≤ zs.length) (hn : 8 ≤ n) (h0 : 0 ≤ v) (h1 : v < 18446744073709551616) :
    Calls Tryz.prog 210 #[.agg #[], .slice (some ⟨g, o, none⟩) n c, .int .u64 v] W fun e w' => e = .returned (.tuple #[]) ∧
      Blk w' g t ((A ++ Lib.byteCells (Lib.leBytes 8 v.toNat)) ++ zs.drop 8).toArray ∧ ∀ (B : Nat) (a : World), B ≤ g → B ≤ W.heap.size → Below B a W → Below B a w' := by
  have hs : ∀ j, j < 8 → (W.cell? ⟨g, o + j, none⟩).isSome = true ∧ W.frozen? ⟨g, o + j, none⟩ = false := fun j hj => blk_some h (by rw [List.length_append]; omega)
  obtain ⟨x0, c0⟩ := Option.isSome_iff_exists.1 (hs 0 (by omega)).1
  obtain ⟨x1, c1⟩ := Option.isSome_iff_exists.1 (hs 1 (by omega)).1
  obtain ⟨x2, c2⟩ := Option.isSome_iff_exists.1 (hs 2 (by omega)).1
  obtain ⟨x3, c3⟩ := Option.isSome_iff_exists.1 (hs 3 (by omega)).1
  obtain ⟨x4, c4⟩ := Option.isSome_iff_exists.1 (hs 4 (by omega)).1
  obtain ⟨x5, c5⟩ := Option.isSome_iff_exists.1 (hs 5 (by omega)).1
  obtain ⟨x6, c6⟩ := Option.isSome_iff_exists.1 (hs 6 (by omega)).1
  obtain ⟨x7, c7⟩ := Option.isSome_iff_exists.1 (hs 7 (by omega)).1
  have hc := Tryz.binary_LE_PutUint64 g o n c v.toNat (by omega) x0 x1 x2 x3 x4 x5 x6 x7 W hn c0 c1 c2 c3 c4 c5 c6 c7 (hs 0 (by omega)).2 (hs 1 (by omega)).2 (hs 2 (by omega)).2 (hs 3 (by omega)).2 (hs 4 (by omega)).2 (hs 5 (by omega)).2 (hs 6 (by omega)).2 (hs 7 (by omega)).2
  rw [Int.toNat_of_nonneg h0] at hc
  refine hc.mono ?_
  rintro e w' ⟨rfl, rfl⟩
  refine ⟨rfl, ?_, fun B a hB hBW hb => below_setCells hB _ _ _ (hb.alloc hBW _)⟩
  have hl : (Lib.byteCells (Lib.leBytes 8 v.toNat)).length = 8 := by rw [Lib.byteCells_length, Lib.leBytes_length]
  have := blk_mid (h.alloc (.cells #[] 117)) o ho (Lib.byteCells (Lib.leBytes 8 v.toNat)) (by rw [hl]; exact hz)
  rw [hl] at this
  exact this

theorem mk_bytes (k : Nat) (hk : k ≤ 1000) (z : Int) (hz : z = k) (W : World) : (Instr.makeSlice 45 (.int .i64 z) (.int .i64 z)).run Tryz.prog W = .ok (.slice (some ⟨W.heap.size, 0, none⟩) k k) (W.alloc (.cells (List.replicate k (.int .u8 0)).toArray 5)) := by
  obtain ⟨i0, hi, hz0, hz1, hz2⟩ := info_parts info5
  subst hz
  have hr := run_make (P := Tryz.prog) W 45 5 i0 (.int .u8 0) Tryz.underlying45 hi hz0 .i64 .i64 k k (by omega) (by omega) (by rw [hz2]; omega) (by omega)
  have ht0 : madeCells #[Value.int .u8 0] k = (List.replicate k (Value.int .u8 0)).toArray := by
    rw [← toList_madeCells_one (.int .u8 0) k]
  rw [← ht0]
  simpa [hz1, Value.cells] using hr

end Go.Proofs.YtlafdmmjbkdkaaaGreatDoor

namespace Go.Proofs.YtlafdmmjbkdkaaaGreatDoor
open Go.RowKit

theorem get64_any (g o n c : Nat) (v : Int) (W : World) (hn : 8 ≤ n) (h0 : 0 ≤ v) (h1 : v < 18446744073709551616) (h : Bs W g o (Lib.leBytes 8 v.toNat)) :
    Calls Tryz.prog 52 #[.agg #[], .slice (some ⟨g, o, none⟩) n c] W fun e w' => e = .returned (.int .u64 v) ∧ Below W.heap.size W w' := by
  obtain ⟨l, hl⟩ : ∃ l, Lib.leBytes 8 v.toNat = l := ⟨_, rfl⟩
  have hll : l.length = 8 := by rw [← hl, Lib.leBytes_length]
  have hv : Lib.leNat l = v.toNat := by rw [← hl]; exact Lib.leNat_leBytes 8 v.toNat (by omega)
  rw [hl] at h
  clear hl
  match l, hll with
  | [b0, b1, b2, b3, b4, b5, b6, b7], _ =>
    have hc := Tryz.binary_LE_Uint64 g o n c b0 b1 b2 b3 b4 b5 b6 b7 W hn (h 0 (by simp)) (h 1 (by simp)) (h 2 (by simp)) (h 3 (by simp)) (h 4 (by simp)) (h 5 (by simp)) (h 6 (by simp)) (h 7 (by simp))
    rw [hv, Int.toNat_of_nonneg h0] at hc
    exact hc

theorem bs_app_left {w : World} {g o : Nat} {a b : List UInt8} (h : Bs w g o (a ++ b)) : Bs w g o a := by
  intro j hj
  have := h j (by rw [List.length_append]; omega)
  rw [List.getElem_append_left hj] at this
  exact this
theorem bs_app_right {w : World} {g o k : Nat} {a b : List UInt8} (h : Bs w g o (a ++ b)) (hk : a.length = k) : Bs w g (o + k) b := by
  intro j hj
  have := h (k + j) (by rw [List.length_append]; omega)
  rw [List.getElem_append_right (by omega)] at this
  simp only [hk, Nat.add_sub_cancel_left] at this
  rw [Nat.add_assoc]
  exact this

set_option maxRecDepth 100000 in
set_option maxHeartbeats 4000000 in
theorem charRead_any (hb r g o n c : Nat) (x y : Int) (rest : List UInt8) (a0 a1 a2 a3 a4 : Value) (aE aU : Addr) (w : World) (hx : 0 ≤ x ∧ x < 18446744073709551616) (hy : 0 ≤ y ∧ y < 18446744073709551616)
    (hH : Blk w hb 77 #[a0, a1, a2, a3, a4]) (h : Rdr w r g o n c 0) (hc : Bs w g o (Lib.leBytes 8 x.toNat ++ Lib.leBytes 8 y.toNat ++ rest)) (hn : n = 16 + rest.length) (hnc : n ≤ c) (hl : n ≤ 2147483647)
    (hhr : hb ≠ r) (hg : g ≠ r) (hglt : g < w.heap.size)
    (hE : Ee w 2 aE) (hU : Ee w 7 aU) (gE : 2 ≠ r) (gU : 7 ≠ r) :
    Calls Tryz.prog 50 #[.pointer (some ⟨hb, 0, none⟩), .iface 51 (.pointer (some ⟨r, 0, none⟩))] w fun e w' =>
      e = .returned (.tuple #[.int .i64 16, .nilIface]) ∧ Rdr w' r g o n c 16 ∧ Blk w' hb 77 #[.int .u64 x, .int .u64 y, a2, a3, a4] ∧ Kp [r, hb] w w' := by
  have hmk := mk_bytes 16 (by omega) 16 rfl
  obtain ⟨zs, hzs⟩ : ∃ zs, List.replicate 16 (Value.int .u8 0) = zs := ⟨_, rfl⟩
  rw [hzs] at hmk
  have hzl : zs.length = 16 := by rw [← hzs]; rfl
  clear hzs
  have HZ := Lib.hid hzl
  clear hzl
  have HX := Lib.hid (And.intro hx (And.intro hy hn))
  clear hx hy hn
  have gEl := hE.lt
  have gUl := hU.lt
  have hHl := hH.lt
  have hrl := h.lt
  obtain ⟨V, hV⟩ : ∃ V, w.alloc (.cells zs.toArray 5) = V := ⟨_, rfl⟩
  obtain ⟨G, hG⟩ : ∃ G, w.heap.size = G := ⟨_, rfl⟩
  have bV : Below w.heap.size w V := by rw [← hV]; exact Old.alloc (Below.refl _ _) _
  have BV : Blk V G 5 ([] ++ zs).toArray := by rw [← hV, ← hG]; simpa using Blk.new w 5 zs.toArray
  have hVR := h.old bV
  have hVc := hc.old bV
  have hVH := hH.old bV
  have hr := readFull_any r g o n c 0 G 0 16 16 (Lib.leBytes 8 x.toNat ++ Lib.leBytes 8 y.toNat ++ rest) [] zs 5 aE aU V hVR hVc (by simp only [List.length_append, Lib.leBytes_length]; exact HX.out.2.2) (Nat.zero_le _) hnc (by simp only [List.length_append, Lib.leBytes_length]; have := HX.out.2.2; omega)
    BV rfl (by rw [HZ.out]; exact Nat.le_refl _) (by omega) (by omega) (by omega) (by omega) hg (hE.old bV) (hU.old bV) ⟨gE, by omega⟩ ⟨gU, by omega⟩
  have HR := Lib.hid hr
  clear hr hVR hVc BV
  go_enter Tryz.func50, Tryz.ntmps50
  go_wp2_with fail
  refine HR.out.mono ?_
  rintro e w1 ⟨hK, h1, _⟩
  obtain ⟨rfl, hR1, hB1⟩ := h1 (by have := HX.out.2.2; omega)
  have kb1 : Kb w.heap.size [r] w w1 := (Kb.of_below bV [r]).trans (hK w.heap.size [r] (.inl (by simp)) (.inr (by omega)))
  have k1 : Kp [r, hb] w w1 := kb1.kp (by simp)
  have H1 : Blk w1 hb 77 #[a0, a1, a2, a3, a4] := hH.kp (kb1.kp (l := [r]) (by simp)) (by simpa using hhr)
  have z1 := hB1.lt
  rw [List.drop_zero, List.nil_append, List.take_append_of_le_length (by simp [Lib.leBytes_length]), List.take_of_length_le (by simp [Lib.leBytes_length]), List.drop_of_length_le (by rw [HZ.out]; exact Nat.le_refl _), List.append_nil] at hB1
  have hbs := bs_blk hB1
  have hbx := bs_app_left hbs
  have hby := bs_app_right hbs (Lib.leBytes_length 8 _)
  have hGh : hb < G := by omega
  clear hK h1 HR kb1 hB1 hbs hV bV hH hVH h hc
  have hg0 := get64_any G 0 8 16 x w1.drew (Nat.le_refl _) HX.out.1.1 HX.out.1.2 (hbx.drewN 1)
  have HG0 := Lib.hid hg0
  have HS := Lib.hid (show ∀ W', Below w1.heap.size w1 W' → Blk W' hb 77 #[a0, a1, a2, a3, a4] ∧ W'.cell? ⟨hb, 0, none⟩ = some a0 ∧ W'.frozen? ⟨hb, 0, none⟩ = false from fun W' hb' => ⟨H1.old hb', (H1.old hb').cell 0, (H1.old hb').frozen 0⟩)
  clear hg0
  go_wp2_with fail
  go_region_with (go_at_call 52; refine HG0.out.mono ?_; rintro _ w2 ⟨rfl, b2⟩; have b12 : Below w1.heap.size w1 w2 := ((Below.refl _ _).drew).trans b2; obtain ⟨H2, c2, f2⟩ := HS.out w2 b12)
  go_wp2_with fail
  have hby2 : Bs w2 G 8 (Lib.leBytes 8 y.toNat) := by have := hby.old b12; rwa [Nat.zero_add] at this
  have R2 := hR1.old b12
  have k2 : Kp [r, hb] w (w2.setCell ⟨hb, 0, none⟩ (.int .u64 x)) := (k1.old b12).setCell (p := ⟨hb, 0, none⟩) (.inl (by simp)) _
  have H3 := H2.set_ 0 (.int .u64 x)
  have hby3 := hby2.far (p := ⟨hb, 0, none⟩) (by show G ≠ hb; omega) (.int .u64 x)
  have R3 : Rdr (w2.setCell ⟨hb, 0, none⟩ (.int .u64 x)) r g o n c (0 + 16) := by
    obtain ⟨p, R2⟩ := R2
    exact ⟨p, R2.far (p := ⟨hb, 0, none⟩) (fun h => hhr h.symm) _⟩
  clear hby2 R2 H2 H1 hR1 k1 hbx hby c2 f2 HS HG0 b12 b2
  generalize w2.setCell ⟨hb, 0, none⟩ (.int .u64 x) = w3 at *
  have hg0 := get64_any G 8 8 8 y w3.drew (Nat.le_refl _) HX.out.2.1.1 HX.out.2.1.2 (hby3.drewN 1)
  have HG0 := Lib.hid hg0
  have HS := Lib.hid (show ∀ W', Below w3.heap.size w3 W' → Blk W' hb 77 #[.int .u64 x, a1, a2, a3, a4] ∧ W'.cell? ⟨hb, 1, none⟩ = some a1 ∧ W'.frozen? ⟨hb, 1, none⟩ = false from fun W' hb' => ⟨H3.old hb', (H3.old hb').cell 1, (H3.old hb').frozen 1⟩)
  clear hg0 hby3
  go_wp2_with fail
  go_region_with (go_at_call 52; refine HG0.out.mono ?_; rintro _ w4 ⟨rfl, b4⟩; have b34 : Below w3.heap.size w3 w4 := ((Below.refl _ _).drew).trans b4; obtain ⟨H4, c4, f4⟩ := HS.out w4 b34)
  go_wp2_with fail
  go_ret2
  have R4 := R3.old b34
  rw [Nat.zero_add] at R4
  refine ⟨rfl, ?_, H4.set_ 1 (.int .u64 y), (k2.old b34).setCell (p := ⟨hb, 1, none⟩) (.inl (by simp)) _⟩
  obtain ⟨p, R4⟩ := R4
  exact ⟨p, R4.far (p := ⟨hb, 1, none⟩) (fun h => hhr h.symm) _⟩

set_option maxRecDepth 100000 in
set_option maxHeartbeats 4000000 in
theorem headRead_any (hb r g o n c : Nat) (x y u v z : Int) (a0 a1 a2 a3 a4 : Value) (aE aU : Addr) (w : World) (hx : 0 ≤ x ∧ x < 18446744073709551616) (hy : 0 ≤ y ∧ y < 18446744073709551616)
    (hu : 51 ≤ u ∧ u < 9223372036854775808) (hv : 0 < v ∧ v < 9223372036854775808) (hz : 0 ≤ z ∧ z < 9223372036854775808)
    (hH : Blk w hb 77 #[a0, a1, a2, a3, a4]) (h : Rdr w r g o n c 0) (hc : Bs w g o (hdBytes x y u v z)) (hn : n = 40) (hnc : n ≤ c)
    (hhr : hb ≠ r) (hg : g ≠ r) (hghb : g ≠ hb) (hglt : g < w.heap.size)
    (hE : Ee w 2 aE) (hU : Ee w 7 aU) (gE : 2 ≠ r ∧ 2 ≠ hb) (gU : 7 ≠ r ∧ 7 ≠ hb) :
    Calls Tryz.prog 30 #[.pointer (some ⟨hb, 0, none⟩), .iface 51 (.pointer (some ⟨r, 0, none⟩))] w fun e w' =>
      e = .returned (.tuple #[.int .i64 40, .nilIface]) ∧ Blk w' hb 77 #[.int .u64 x, .int .u64 y, .int .u64 u, .int .u64 v, .int .u64 z] ∧ Kp [r, hb] w w' := by
  subst hn
  have hmk := mk_bytes 24 (by omega) 24 rfl
  obtain ⟨zs, hzs⟩ : ∃ zs, List.replicate 24 (Value.int .u8 0) = zs := ⟨_, rfl⟩
  rw [hzs] at hmk
  have hzl : zs.length = 24 := by rw [← hzs]; rfl
  clear hzs
  have HZ := Lib.hid hzl
  clear hzl
  have hrest : (Lib.leBytes 8 u.toNat ++ Lib.leBytes 8 v.toNat ++ Lib.leBytes 8 z.toNat).length = 24 := by simp [Lib.leBytes_length]
  have hdb : hdBytes x y u v z = Lib.leBytes 8 x.toNat ++ Lib.leBytes 8 y.toNat ++ (Lib.leBytes 8 u.toNat ++ Lib.leBytes 8 v.toNat ++ Lib.leBytes 8 z.toNat) := by simp [hdBytes]
  have hdl : (hdBytes x y u v z).length = 40 := by simp [hdBytes, Lib.leBytes_length]
  have hch := charRead_any hb r g o 40 c x y _ a0 a1 a2 a3 a4 aE aU w hx hy hH h (by rw [← hdb]; exact hc) (by rw [hrest]) hnc (by omega) hhr hg hglt hE hU gE.1 gU.1
  have HX := Lib.hid (And.intro hx (And.intro hy (And.intro hu (And.intro hv (And.intro hz (And.intro hdl hdb))))))
  have HC := Lib.hid hch
  have gEl := hE.lt
  have gUl := hU.lt
  have hHl := hH.lt
  have hrl := h.lt
  clear hch hx hy hu hv hz hrest hdb hdl hH h
  go_enter Tryz.func30, Tryz.ntmps30
  go_wp2_with fail
  refine HC.out.mono ?_
  rintro e w1 ⟨rfl, R1, H1, k1⟩
  have hc1 := hc.kp k1 (by simp; omega)
  have hE1 := hE.kp k1 (by simp; omega)
  have hU1 := hU.kp k1 (by simp; omega)
  have s1 := k1.size
  obtain ⟨V, hV⟩ : ∃ V, w1.alloc (.cells zs.toArray 5) = V := ⟨_, rfl⟩
  obtain ⟨G, hG⟩ : ∃ G, w1.heap.size = G := ⟨_, rfl⟩
  have bV : Below w1.heap.size w1 V := by rw [← hV]; exact Old.alloc (Below.refl _ _) _
  have BV : Blk V G 5 ([] ++ zs).toArray := by rw [← hV, ← hG]; simpa using Blk.new w1 5 zs.toArray
  have hr := readFull_any r g o 40 c 16 G 0 24 24 (hdBytes x y u v z) [] zs 5 aE aU V (R1.old bV) (hc1.old bV) HX.out.2.2.2.2.2.1.symm (by omega) hnc (by rw [HX.out.2.2.2.2.2.1]; omega)
    BV rfl (by rw [HZ.out]; exact Nat.le_refl _) (by omega) (by omega) (by omega) (by omega) hg (hE1.old bV) (hU1.old bV) ⟨gE.1, by omega⟩ ⟨gU.1, by omega⟩
  have HR := Lib.hid hr
  have HB1 := H1.old bV
  have kV : Kp [r, hb] w V := k1.old bV
  clear hr hc1 hE1 hU1 HC hc
  go_wp2_with fail
  refine HR.out.mono ?_
  rintro e w2 ⟨hK, h1, _⟩
  obtain ⟨rfl, hR2, hB2⟩ := h1 (by omega)
  have kb2 : Kb w.heap.size [r, hb] w w2 := (show Kb w.heap.size [r, hb] w V from ⟨kV.os, kV.tape, kV.output, kV.size, kV.block⟩).trans (hK w.heap.size [r, hb] (.inl (by simp)) (.inr (by omega)))
  have k2 : Kp [r, hb] w w2 := kb2.kp (by simp)
  have H2 : Blk w2 hb 77 #[.int .u64 x, .int .u64 y, a2, a3, a4] := ((hK (hb + 1) [r] (.inl (by simp)) (.inr (by omega))).block hb (by omega) (by simpa using hhr)).trans HB1
  have z2 := hB2.lt
  rw [HX.out.2.2.2.2.2.2, List.drop_left' (by simp [Lib.leBytes_length]), List.nil_append, List.take_of_length_le (by simp [Lib.leBytes_length]), List.drop_of_length_le (by rw [HZ.out]; exact Nat.le_refl _), List.append_nil] at hB2
  have hbs := bs_blk hB2
  have hbu := bs_app_left (bs_app_left hbs)
  have hbv := bs_app_right (bs_app_left hbs) (Lib.leBytes_length 8 _)
  have hbz := bs_app_right (k := 16) hbs (by simp [Lib.leBytes_length])
  rw [Nat.zero_add] at hbv hbz
  clear hK h1 HR kb2 hB2 hbs hV bV kV HB1 H1 hR2 BV hmk k1
  have hwu : IntKind.i64.wrap u = u := by rw [IntKind.wrap_i64]; have := HX.out.2.2.1; omega
  have hwv : IntKind.i64.wrap v = v := by rw [IntKind.wrap_i64]; have := HX.out.2.2.2.1; omega
  have hwz : IntKind.i64.wrap z = z := by rw [IntKind.wrap_i64]; have := HX.out.2.2.2.2.1; omega
  have hdu : decide (u < 51) = false := by have := HX.out.2.2.1; simp; omega
  have hdv : decide (v ≤ 0) = false := by have := HX.out.2.2.2.1; simp; omega
  have hdz : decide (z < 0) = false := by have := HX.out.2.2.2.2.1; simp; omega
  have HGU := Lib.hid (get64_any G 0 8 24 u w2.drew (Nat.le_refl _) (by have := HX.out.2.2.1; omega) (by have := HX.out.2.2.1; omega) (hbu.drewN 1))
  go_wp2_with fail
  go_region_with (go_at_call 52; refine HGU.out.mono ?_; rintro _ w3 ⟨rfl, b3⟩)
  have b23 : Below w2.heap.size w2 w3 := ((Below.refl _ _).drew).trans b3
  have HGV := Lib.hid (get64_any G 8 8 16 v w3.drew (Nat.le_refl _) (by have := HX.out.2.2.2.1; omega) (by have := HX.out.2.2.2.1; omega) ((hbv.old b23).drewN 1))
  clear HGU b3
  go_wp2_with fail
  go_region_with (go_at_call 52; refine HGV.out.mono ?_; rintro _ w4 ⟨rfl, b4⟩)
  have b24 : Below w2.heap.size w2 w4 := Old.trans b23 (((Below.refl _ _).drew).trans b4)
  have HGZ := Lib.hid (get64_any G 16 8 8 z w4.drew (Nat.le_refl _) (by have := HX.out.2.2.2.2.1; omega) (by have := HX.out.2.2.2.2.1; omega) ((hbz.old b24).drewN 1))
  clear HGV b4
  go_wp2_with fail
  go_region_with (go_at_call 52; refine HGZ.out.mono ?_; rintro _ w5 ⟨rfl, b5⟩)
  have b25 : Below w2.heap.size w2 w5 := Old.trans b24 (((Below.refl _ _).drew).trans b5)
  have H5 := H2.old b25
  have k5 := k2.old b25
  have c2 : w5.cell? ⟨hb, 2, none⟩ = some a2 := H5.cell 2
  have c3 : w5.cell? ⟨hb, 3, none⟩ = some a3 := H5.cell 3
  have c4 : w5.cell? ⟨hb, 4, none⟩ = some a4 := H5.cell 4
  have f2 := H5.frozen 2
  have f3 := H5.frozen 3
  have f4 := H5.frozen 4
  clear HGZ b5 b24 b23 b25 H2 k2 hbu hbv hbz
  go_wp2_with fail
  go_ret2
  exact ⟨rfl, ((H5.set_ 2 _).set_ 3 _).set_ 4 _, ((k5.setCell (p := ⟨hb, 2, none⟩) (.inl (by simp)) _).setCell (p := ⟨hb, 3, none⟩) (.inl (by simp)) _).setCell (p := ⟨hb, 4, none⟩) (.inl (by simp)) _⟩

end Go.Proofs.YtlafdmmjbkdkaaaGreatDoor
