/-
  (*llrb.LLRB).InsertNoReplace, Get: their walks. Conditions: as each contract says.
  The walks of package varint: UvarintSize, PutUvarint, ToUvarint, FromUvarint. Conditions: as each contract says.
  The walks of package multihash: uvarint, readMultihashFromBuf, decode, Decode, MHFromBytes, Encode, and of errors.New. Conditions: as each contract says.
  The walks of impl.UvPut, UvSize, UvRead, spec.Varint and laws.uvOne. Conditions: as each contract says.
-/
import Derived.Test.YtcljffldbnoljaaGreatDoorJLm
import Derived.Test.YtcljffldbnoljaaGreatDoorJBase
import Derived.Test.YtcljffldbnoljaaGreatDoorShelf
import Derived.Test.YtcljffldbnoljaaGreatDoorJQf
import Derived.Deep.QuietTactic
import Derived.BigQuiet
import Derived.Deep.RegionHeld3
namespace Go.Proofs.YtcljffldbnoljaaGreatDoor
open Go.RowKit

def Tre.size : Tre → Nat
  | .leaf => 0
  | .node _ _ l r _ => l.size + r.size + 1
theorem size_uniq {w : World} : ∀ (s s2 : Tre), Tr w s → Tr w s2 → s.adr = s2.adr → s.size = s2.size
  | .leaf, .leaf, _, _, _ => rfl
  | .leaf, .node .., _, _, h => by cases h
  | .node .., .leaf, _, _, h => by cases h
  | .node b x l r k, .node b2 x2 l2 r2 k2, h, h2, e => by
    have hb : b = b2 := by simpa [Tre.adr] using e
    subst hb
    have c1 := (h.1.cell 1).symm.trans (h2.1.cell 1)
    have c2 := (h.1.cell 2).symm.trans (h2.1.cell 2)
    have e1 : l.adr = l2.adr := by simpa [Tre.ptr] using c1
    have e2 : r.adr = r2.adr := by simpa [Tre.ptr] using c2
    rw [Tre.size, Tre.size, size_uniq l l2 h.2.2.1 h2.2.2.1 e1, size_uniq r r2 h.2.2.2 h2.2.2.2 e2]
open Classical in
noncomputable def trSize (w : World) (p : Value) : Nat := if h : ∃ s : Tre, p = .pointer s.adr ∧ Tr w s then (Classical.choose h).size else 0
theorem trSize_eq {w : World} {s : Tre} (h : Tr w s) : trSize w (.pointer s.adr) = s.size := by
  have hx : ∃ s' : Tre, (.pointer s.adr : Value) = .pointer s'.adr ∧ Tr w s' := ⟨s, rfl, h⟩
  unfold trSize
  rw [dif_pos hx]
  obtain ⟨h1, h2⟩ := Classical.choose_spec hx
  exact size_uniq _ _ h2 h (by injection h1.symm)

theorem It.ne {w : World} {x : Rec} {ib : Nat} {t : TypeId} {cs : Array Value} (h : It w x) (hb : Blk w ib t cs) (hc : ∀ (i : Nat) (v : Int), cs[i]? = some (.int .u8 v) → False) : x.g ≠ ib := by
  intro e
  obtain ⟨h1, h2, _⟩ := h
  have h0 := h1 0 (by cases hd : x.d with | nil => exact absurd hd h2 | cons a t => simp)
  rw [Nat.add_zero, e, hb.cell] at h0
  exact hc _ _ h0
theorem no_byte (n : Int) (p : Option Addr) (i : Nat) (v : Int) (h : (#[.int .i64 n, .pointer p] : Array Value)[i]? = some (.int .u8 v)) : False := by
  match i with
  | 0 => simp at h
  | 1 => simp at h
  | n + 2 => simp at h

/-- What Get comes to. -/
def GetPost (s : Tre) (x : Rec) (w : World) (e : Ending) (w' : World) : Prop :=
  Below w.heap.size w w' ∧ ((∃ y ∈ s.ino, y.d = x.d ∧ e = .returned y.val) ∨ ((∀ y ∈ s.ino, y.d ≠ x.d) ∧ e = .returned .nilIface))

/-- What the insertion at the top comes to. -/
def TopPost (ib : Nat) (n : Int) (s : Tre) (x : Rec) (w : World) (e : Ending) (w' : World) : Prop :=
  e = .returned (.tuple #[]) ∧ ∃ s' : Tre, Blk w' ib 60 #[.int .i64 (n + 1), .pointer s'.adr] ∧ Tr w' s' ∧ s'.ino.Perm (x :: s.ino) ∧ (Ord s.ino → Ord s'.ino) ∧ s'.bs.Nodup ∧ ib ∉ s'.bs ∧ (∀ i ∈ s'.bs, i ∈ s.bs ∨ w.heap.size ≤ i) ∧ Kp (ib :: s.bs) w w'

set_option maxRecDepth 100000 in
set_option maxHeartbeats 4000000 in
theorem insertTop_any (ib : Nat) (n : Int) (s : Tre) (x : Rec) (w : World) (hb : Blk w ib 60 #[.int .i64 n, .pointer s.adr]) (hn0 : 0 ≤ n) (hn : n ≤ 1000000) (h : Tr w s) (nd : s.bs.Nodup) (hi : ib ∉ s.bs) (hx : It w x) :
    Calls Tryz.prog 38 #[.pointer (some ⟨ib, 0, none⟩), x.val] w (TopPost ib n s x w) := by
  have hi0 := insertRec_any ⟨ib, 0, none⟩ x s w h nd hx
  obtain ⟨sa, hsa⟩ : ∃ sa, s.adr = sa := ⟨_, rfl⟩
  rw [hsa] at hb hi0
  have q1 : w.cell? ⟨ib, 1, none⟩ = some (.pointer sa) := hb.cell 1
  have HI := Lib.hid hi0
  clear hsa hi0
  have H := Lib.hid (And.intro hb (And.intro h (And.intro nd (And.intro hi hx))))
  have hwn : IntKind.i64.wrap (n + 1) = n + 1 := by rw [IntKind.wrap_i64]; omega
  clear hb h nd hi hx
  unfold Rec.val at HI ⊢
  go_enter Tryz.func38, Tryz.ntmps38
  go_wp2_with fail
  refine HI.out.mono ?_
  rintro e w1 ⟨s', rfl, T1, hp, ho, hnd, hbs, k1, hne⟩
  have B1 := H.out.1.kp k1 H.out.2.2.2.1
  have hib : ib ∉ s'.bs := fun hm => by
    rcases hbs ib hm with h | h
    · exact H.out.2.2.2.1 h
    · have := H.out.1.lt; omega
  cases s' with
  | leaf => exact absurd rfl hne
  | node b y l r k =>
    have hbi : ¬ ib = b := fun e => hib (by simp [Tre.bs, e])
    have hib2 : ¬ b = ib := fun e => hbi e.symm
    have f0 := B1.frozen 0
    have f1 := B1.frozen 1
    have g3 := T1.1.frozen 3
    have q0 : w1.cell? ⟨ib, 0, none⟩ = some (.int .i64 n) := B1.cell 0
    have q1' : w1.cell? ⟨ib, 1, none⟩ = some (.pointer sa) := B1.cell 1
    have q3 : w1.cell? ⟨b, 3, none⟩ = some (.bool k) := T1.1.cell 3
    have hn1 : Nodes w1 (Tre.node b y l r k).bs := T1.nodes
    have nd1 := hnd
    simp only [Tre.bs, List.nodup_cons, List.mem_append, List.nodup_append] at nd1
    have V1 := B1.set_ 1 (.pointer (some ⟨b, 0, none⟩))
    have V2 := (V1.far (p := ⟨b, 3, none⟩) hbi (.bool true)).set_ 0 (.int .i64 (n + 1))
    have KK := ((((Kp.refl [ib] w1).setCell (p := ⟨ib, 1, none⟩) (.inl (by simp)) (.pointer (some ⟨b, 0, none⟩))).sub (M := [ib, b]) (fun i hi => by simp at hi ⊢; exact .inl hi)).setCell (p := ⟨b, 3, none⟩) (.inl (by simp)) (.bool true)).setCell (p := ⟨ib, 0, none⟩) (.inl (by simp)) (.int .i64 (n + 1))
    have N1 := ((T1.1.far (p := ⟨ib, 1, none⟩) hib2 (.pointer (some ⟨b, 0, none⟩))).set_ 3 (.bool true)).far (p := ⟨ib, 0, none⟩) hib2 (.int .i64 (n + 1))
    have hsub : ∀ (u : Tre), Tr w1 u → b ∉ u.bs → ib ∉ u.bs → Tr (((w1.setCell ⟨ib, 1, none⟩ (.pointer (some ⟨b, 0, none⟩))).setCell ⟨b, 3, none⟩ (.bool true)).setCell ⟨ib, 0, none⟩ (.int .i64 (n + 1))) u := by
      intro u hu hub hui
      have hin : ∀ z : Rec, It w1 z → z.g ≠ ib := fun z hz => hz.ne B1 (no_byte _ _)
      have hgo : ∀ (u : Tre), Tr w1 u → b ∉ u.bs → ib ∉ u.bs → Tr (((w1.setCell ⟨ib, 1, none⟩ (.pointer (some ⟨b, 0, none⟩))).setCell ⟨b, 3, none⟩ (.bool true)).setCell ⟨ib, 0, none⟩ (.int .i64 (n + 1))) u := by
        intro u
        induction u with
        | leaf => intros; trivial
        | node c z p q m ihp ihq =>
          intro hu hub hui
          simp only [Tre.bs, List.mem_cons, List.mem_append, not_or] at hub hui
          refine ⟨hu.1.kp KK (by simp; exact ⟨fun e => hui.1 e.symm, fun e => hub.1 e.symm⟩), ⟨hu.2.1.1.kp KK (by simp; exact ⟨hin z hu.2.1, fun e => hu.2.1.apart hn1 (by simp [Tre.bs, e])⟩), hu.2.1.2⟩, ihp hu.2.2.1 hub.2.1 hui.2.1, ihq hu.2.2.2 hub.2.2 hui.2.2⟩
      exact hgo u hu hub hui
    have hib3 := hib
    simp only [Tre.bs, List.mem_cons, List.mem_append, not_or] at hib3
    have L1 := hsub l T1.2.2.1 (fun h => nd1.1 (.inl h)) hib3.2.1
    have R1 := hsub r T1.2.2.2 (fun h => nd1.1 (.inr h)) hib3.2.2
    have hyg : y.g ≠ ib := T1.2.1.ne B1 (no_byte _ _)
    have Y1 : It (((w1.setCell ⟨ib, 1, none⟩ (.pointer (some ⟨b, 0, none⟩))).setCell ⟨b, 3, none⟩ (.bool true)).setCell ⟨ib, 0, none⟩ (.int .i64 (n + 1))) y := ⟨T1.2.1.1.kp KK (by simp; exact ⟨hyg, fun e => T1.2.1.apart hn1 (by simp [Tre.bs, e])⟩), T1.2.1.2⟩
    have HF := Lib.hid (And.intro V2 (And.intro N1 (And.intro Y1 (And.intro L1 (And.intro R1 (And.intro hp (And.intro ho (And.intro hnd (And.intro hib (And.intro hbs (And.intro k1 KK)))))))))))
    clear V1 V2 N1 Y1 L1 R1 hp ho hnd hib hbs k1 KK hsub hyg hib3 nd1 hn1 T1 B1 hne
    simp only [Tre.adr]
    go_wp2_with fail
    go_end0
    obtain ⟨V2, N1, Y1, L1, R1, hp, ho, hnd, hib, hbs, k1, KK⟩ := HF.out
    refine ⟨rfl, .node b y l r true, V2, ⟨N1, Y1, L1, R1⟩, hp, ho, hnd, hib, hbs, ?_⟩
    exact (k1.sub (fun i hi => by simp [hi])).step KK (fun i hi => by
      simp at hi
      rcases hi with rfl | rfl
      · exact .inl (by simp)
      · rcases hbs i (by simp [Tre.bs]) with h | h
        · exact .inl (by simp [h])
        · exact .inr h)
end Go.Proofs.YtcljffldbnoljaaGreatDoor

namespace Go.Proofs.YtcljffldbnoljaaGreatDoor
open Go.RowKit

theorem ret_i64 {a b : Int} (h : a = b) : Ending.returned (.int .i64 a) = .returned (.int .i64 b) := by rw [h]

set_option maxRecDepth 100000 in
theorem uvarintSize_any (n : Int) (w : World) (h0 : 0 ≤ n) (h1 : n < 18446744073709551616) :
    Calls Tryz.prog 49 #[.int .u64 n] w fun e w' => e = .returned (.int .i64 (Lib.uvarint n.toNat).length) ∧ w = w' := by
  have hl := uv_len n.toNat (by omega)
  have hb := Lib.bitLen_le n.toNat 64 (by omega) (by simp; omega)
  have HL := Lib.hid hl
  clear hl
  go_enter Tryz.func49, Tryz.ntmps49
  go_wp2_with fail
  refine (Tryz.bits_Len64 n _ h0 (by omega)).mono ?_
  rintro _ w1 ⟨rfl, rfl⟩
  generalize Lib.bitLen n.toNat = b at *
  by_cases hr : 0 < b % 7
  · have h2 : decide ((0 : Int) < (b : Int) % 7) = true := by simp; omega
    go_wp2_with fail
    go_ret
    exact ⟨ret_i64 (by rw [HL.out, if_pos (.inl hr)]; rfl), rfl⟩
  · have h2 : decide ((0 : Int) < (b : Int) % 7) = false := by simp; omega
    by_cases hq : b / 7 = 0
    · have h3 : (((b : Int) / 7) == 0) = true := by simp; omega
      go_wp2_with fail
      go_ret
      exact ⟨ret_i64 (by rw [HL.out, if_pos (.inr hq)]; rfl), rfl⟩
    · have h3 : (((b : Int) / 7) == 0) = false := by simp; omega
      go_wp2_with fail
      go_ret
      exact ⟨ret_i64 (by rw [HL.out, if_neg (by omega)]; rfl), rfl⟩

set_option maxRecDepth 100000 in
/-- PutUvarint: x's varint is laid in the slice's first cells; its length comes back. -/
theorem putUvarint_any (g o n c x : Nat) (hx : x < 18446744073709551616) (w : World) (hn : (Lib.uvarint x).length ≤ n)
    (hcell : ∀ j, j < (Lib.uvarint x).length → (w.cell? ⟨g, o + j, none⟩).isSome = true ∧ w.frozen? ⟨g, o + j, none⟩ = false) :
    Calls Tryz.prog 44 #[.slice (some ⟨g, o, none⟩) n c, .int .u64 x] w fun e w' => e = .returned (.int .i64 (Lib.uvarint x).length) ∧ w' = w.setCells g o (Lib.byteCells (Lib.uvarint x)) := by
  go_enter Tryz.func44, Tryz.ntmps44
  go_wp2_with fail
  refine (Tryz.binary_PutUvarint g o n c x hx w hn hcell).mono ?_
  rintro _ w1 ⟨rfl, rfl⟩
  go_wp2_with fail
  go_ret
  exact ⟨rfl, rfl⟩


theorem or_add (a b k : Nat) (ha : a < 128 ^ k) (hk : k ≤ 8) (hb : b < 128) (x : Int) (hx : x = ((b * 128 ^ k : Nat) : Int)) : bits .or .u64 (a : Int) x = ((a + b * 128 ^ k : Nat) : Int) := by
  subst hx
  have e : (128 : Nat) ^ k = 2 ^ (7 * k) := by rw [Nat.pow_mul]
  have h8 : 128 ^ k ≤ 128 ^ 8 := Nat.pow_le_pow_right (by omega) hk
  have e8 : (128 : Nat) ^ 8 = 72057594037927936 := by decide
  have h9 : b * 128 ^ k ≤ 127 * 128 ^ k := Nat.mul_le_mul_right _ (by omega)
  have hb' : b * 128 ^ k < 2 ^ 64 := by omega
  have h := (bits_nat .u64 64 (by decide) (fun n h1 h2 => by rw [IntKind.wrap_u64]; omega) a (b * 128 ^ k) (by omega) hb').2
  have h3 := Nat.two_pow_add_eq_or_of_lt (i := 7 * k) (b := a) (by rw [← e]; exact ha) b
  rw [h, Nat.or_comm, e, Nat.mul_comm b, ← h3, Nat.add_comm]
theorem and127 (b : Nat) (hb : b < 256) : bits .and .u8 (b : Int) 127 = ((b % 128 : Nat) : Int) := by
  have h := u8_and_nat b 127 hb (by omega)
  have h2 := Nat.and_two_pow_sub_one_eq_mod b 7
  simp only [Nat.reducePow, Nat.add_one_sub_one] at h2
  rw [show ((127 : Nat) : Int) = 127 from rfl] at h
  rw [h, h2]
theorem shl_wrap (b k : Nat) (hb : b < 128) (hk : k ≤ 8) : IntKind.u64.wrap ((b : Int) * 2 ^ (7 * k)) = ((b * 128 ^ k : Nat) : Int) := by
  have e : (128 : Nat) ^ k = 2 ^ (7 * k) := by rw [Nat.pow_mul]
  have h8 : 128 ^ k ≤ 128 ^ 8 := Nat.pow_le_pow_right (by omega) hk
  have e8 : (128 : Nat) ^ 8 = 72057594037927936 := by decide
  have h9 : b * 128 ^ k ≤ 127 * 128 ^ k := Nat.mul_le_mul_right _ (by omega)
  have e2 : ((b : Int) * 2 ^ (7 * k)) = ((b * 128 ^ k : Nat) : Int) := by rw [e]; push_cast; rfl
  rw [e2, IntKind.wrap_u64]
  omega
theorem uvRd_step (l : List UInt8) (k a : Nat) (hk : k < l.length) : uvRd (l.drop k) k a = if (k = 8 ∧ 128 ≤ l[k].toNat) ∨ 9 ≤ k then .long
    else if l[k].toNat < 128 then (if l[k].toNat = 0 ∧ 0 < k then .needless else .ok (a + l[k].toNat * 128 ^ k) (k + 1)) else uvRd (l.drop (k + 1)) (k + 1) (a + l[k].toNat % 128 * 128 ^ k) := by
  rw [List.drop_eq_getElem_cons hk, uvRd]

/-- What FromUvarint comes to. -/
def UvPost (r : UvR) (w : World) (e : Ending) (w' : World) : Prop :=
  (∃ k, w' = w.drewN k) ∧ match r with
    | .ok n s => e = .returned (.tuple #[.int .u64 n, .int .i64 s, .nilIface])
    | _ => ∃ t p, e = .returned (.tuple #[.int .u64 0, .int .i64 0, .iface t p])

theorem uvPost_ok {r : UvR} {w : World} {n s : Nat} {x y : Int} (h : r = .ok n s) (hx : x = n) (hy : y = s) : UvPost r w (.returned (.tuple #[.int .u64 x, .int .i64 y, .nilIface])) w := by
  subst h hx hy
  exact ⟨⟨0, rfl⟩, rfl⟩

set_option maxRecDepth 100000 in
set_option maxHeartbeats 1000000 in
theorem fromUvarint_any (g o c : Nat) (l : List UInt8) (w : World) (hl : l.length ≤ 4611686018427387904) (hc : Bs w g o l) (e0 : Er w 3) (e1 : Er w 4) (e2 : Er w 5) :
    Calls Tryz.prog 77 #[.slice (some ⟨g, o, none⟩) l.length c] w (UvPost (uvRd l 0 0) w) := by
  obtain ⟨t0, p0, e0⟩ := e0
  obtain ⟨t1, p1, e1⟩ := e1
  obtain ⟨t2, p2, e2⟩ := e2
  go_enter Tryz.func77, Tryz.ntmps77
  go_wp2_with fail
  go_loop [5, 6, 11] (fun x s i => ∃ (k : Nat) (a : Nat), k ≤ l.length ∧ k ≤ 9 ∧ a < 128 ^ k ∧ x = .int .u64 a ∧ s = .int .u64 (7 * k : Nat) ∧ i = .int .i64 k ∧ uvRd l 0 0 = uvRd (l.drop k) k a) (fun _ _ i => l.length - (intOf i).toNat)
  case atStart => exact ⟨0, 0, by omega, by omega, by simp, rfl, rfl, rfl, by simp⟩
  case round =>
    obtain ⟨k, a, hk, hk9, ha, rfl, rfl, rfl, hrd⟩ := hrel
    have HRD := Lib.hid hrd
    clear hrd
    by_cases hlt : k < l.length
    · have hcell : w.cell? ⟨g, o + k, none⟩ = some (.int .u8 ((l[k].toNat : Nat) : Int)) := hc k hlt
      have hb := l[k].toNat_lt
      have hst := uvRd_step l k a hlt
      have HST := Lib.hid hst
      clear hst
      generalize l[k].toNat = b at *
      by_cases hL : (k = 8 ∧ 128 ≤ b) ∨ 9 ≤ k
      · have hend : uvRd l 0 0 = .long := by rw [HRD.out, HST.out, if_pos hL]
        go_wp2_with fail
        all_goals go_quiet (fail)
        all_goals go_wp2_with fail
        all_goals go_ret3
        all_goals exact ⟨⟨_, rfl⟩, by rw [hend]; exact ⟨_, _, rfl⟩⟩
      · by_cases hN : 128 ≤ b
        · have hA := and127 b hb
          have hS := shl_wrap (b % 128) k (by omega) (by omega)
          have hO := or_add a (b % 128) k ha (by omega) (by omega) _ rfl
          have HO := Lib.hid (And.intro hA (And.intro hS hO))
          clear hA hS hO
          go_wp2_with fail
          all_goals go_round
          case rel =>
            have hpow : a + b % 128 * 128 ^ k < 128 ^ (k + 1) := by
              rw [Nat.pow_succ]
              have : b % 128 * 128 ^ k ≤ 127 * 128 ^ k := Nat.mul_le_mul_right _ (by omega)
              omega
            refine ⟨k + 1, a + b % 128 * 128 ^ k, by omega, by omega, hpow, ?_, by go_num, by go_num, by rw [HRD.out, HST.out, if_neg hL, if_neg (by omega)]⟩
            rw [HO.out.1, show IntKind.u64.wrap ((b % 128 : Nat) : Int) = ((b % 128 : Nat) : Int) from by rw [IntKind.wrap_u64]; omega, HO.out.2.1, HO.out.2.2]
          case measure => simp [intOf]; omega
        · by_cases h0 : b = 0 ∧ 0 < k
          · have hend : uvRd l 0 0 = .needless := by rw [HRD.out, HST.out, if_neg hL, if_pos (by omega), if_pos h0]
            have h01 : ((b : Int) == 0) = true := by simp [h0.1]
            go_wp2_with fail
            all_goals go_quiet (fail)
            all_goals go_wp2_with fail
            all_goals go_ret3
            all_goals exact ⟨⟨_, rfl⟩, by rw [hend]; exact ⟨_, _, rfl⟩⟩
          · have hend : uvRd l 0 0 = .ok (a + b * 128 ^ k) (k + 1) := by rw [HRD.out, HST.out, if_neg hL, if_pos (by omega), if_neg h0]
            have hS := shl_wrap b k (by omega) (by omega)
            have hO := or_add a b k ha (by omega) (by omega) _ rfl
            have HO := Lib.hid (And.intro hS hO)
            have HE := Lib.hid hend
            clear hS hO hend
            go_wp2_with fail
            all_goals go_ret3
            all_goals refine uvPost_ok HE.out ?_ ?_
            all_goals first
              | (rw [HO.out.1]; exact HO.out.2)
              | rfl
              | (push_cast; omega)
              | (exact or_add a b k ha (by omega) (by omega) _ (by rw [show k = 8 from by omega, show (128 : Nat) ^ 8 = 72057594037927936 from by decide, Int.natCast_mul]; rfl))
              | (exact or_add a b k ha (by omega) (by omega) _ (by rw [show b = 0 from by omega, Nat.zero_mul]; rfl))
              | trace_state
    · have hend : uvRd l 0 0 = .ends := by rw [HRD.out, List.drop_of_length_le (by omega)]; rfl
      go_wp2_with fail
      go_quiet (fail)
      go_wp2_with fail
      go_ret3
      exact ⟨⟨_, rfl⟩, by rw [hend]; exact ⟨_, _, rfl⟩⟩
end Go.Proofs.YtcljffldbnoljaaGreatDoor

namespace Go.Proofs.YtcljffldbnoljaaGreatDoor
open Go.RowKit

set_option maxRecDepth 100000 in
theorem errorsNew_any (s : ByteArray) (w : World) :
    Calls Tryz.prog 42 #[.string s] w fun e w' => (∃ t p, e = .returned (.iface t p)) ∧ Below w.heap.size w w' := by
  go_enter Tryz.func42, Tryz.ntmps42
  go_wp2_with fail
  go_ret
  exact ⟨⟨_, _, rfl⟩, (Below.refl _ _).alloc (Nat.le_refl _) _⟩

/-- What multihash's uvarint comes to. -/
def MuPost (r : UvR) (l : List UInt8) (g : Nat) (w : World) (e : Ending) (w' : World) : Prop :=
  Below w.heap.size w w' ∧ match r with
    | .ok x s => ∃ z y, e = .returned (.tuple #[.int .u64 x, .slice (some ⟨g, z, none⟩) (l.length - s) y, .nilIface]) ∧ l.length - s ≤ y ∧ Bs w' g z (l.drop s)
    | _ => ∃ v t p, e = .returned (.tuple #[.int .u64 0, v, .iface t p])

set_option maxRecDepth 100000 in
theorem mhUvarint_any (g o n c : Nat) (l : List UInt8) (w : World) (hn : n = l.length) (hl : l.length ≤ 4611686018427387904) (hlc : l.length ≤ c) (hc : Bs w g o l) (e0 : Er w 3) (e1 : Er w 4) (e2 : Er w 5) :
    Calls Tryz.prog 113 #[.slice (some ⟨g, o, none⟩) n c] w (MuPost (uvRd l 0 0) l g w) := by
  subst hn
  generalize hr : uvRd l 0 0 = r
  have HR := Lib.hid hr
  clear hr
  go_enter Tryz.func113, Tryz.ntmps113
  go_wp2_with fail
  refine (fromUvarint_any g o c l w hl hc e0 e1 e2).mono ?_
  rw [HR.out]
  rintro e w1 ⟨⟨k, rfl⟩, h⟩
  cases r with
  | ok x s =>
    subst h
    obtain ⟨k1, k2, k3, _⟩ := uvRd_ok0 HR.out
    have h0 : ((s : Int) == 0) = false := by simp; omega
    have hcut' : c = s → Bs w g o (l.drop s) := fun h => by have := hc.cut (k := s) hlc; rwa [if_pos h] at this
    have hcut2 : ¬ c = s → Bs w g (o + s) (l.drop s) := fun h => by have := hc.cut (k := s) hlc; rwa [if_neg h] at this
    go_wp2_with fail
    go_quiet (fail)
    all_goals go_wp2_with fail
    all_goals go_ret3
    · exact ⟨below_drewN (Below.refl _ _) _, _, _, rfl, by omega, (hcut' (by assumption)).drewN _⟩
    · exact ⟨below_drewN (Below.refl _ _) _, _, _, rfl, by omega, (hcut2 (by assumption)).drewN _⟩
  | _ =>
    obtain ⟨t, p, rfl⟩ := h
    go_wp2_with fail
    go_ret3
    exact ⟨below_drewN (Below.refl _ _) _, _, _, _, rfl⟩

/-- What readMultihashFromBuf comes to. -/
def MrPost (r : Option (Nat × List UInt8 × Nat)) (g : Nat) (w : World) (e : Ending) (w' : World) : Prop :=
  Below w.heap.size w w' ∧ match r with
    | some (code, d, n) => ∃ o c, e = .returned (.tuple #[.int .i64 n, .int .u64 code, .slice (some ⟨g, o, none⟩) d.length c, .nilIface]) ∧ d.length ≤ c ∧ Bs w' g o d
    | none => ∃ t p, e = .returned (.tuple #[.int .i64 0, .int .u64 0, .slice none 0 0, .iface t p])

theorem mrPost_some {code n g o c dl : Nat} {nn : Int} {d : List UInt8} {w w' : World} (hb : Below w.heap.size w w') (hN : nn = (n : Int)) (hL : dl = d.length) (hc : dl ≤ c) (h : Bs w' g o d) :
    MrPost (some (code, d, n)) g w (.returned (.tuple #[.int .i64 nn, .int .u64 code, .slice (some ⟨g, o, none⟩) dl c, .nilIface])) w' := by
  subst hN hL
  exact ⟨hb, o, c, rfl, hc, h⟩

set_option maxRecDepth 100000 in
set_option maxHeartbeats 2000000 in
theorem readMh_any (g o n c : Nat) (l : List UInt8) (w : World) (hn : n = l.length) (hl : l.length ≤ 2147483647) (hlc : l.length ≤ c) (hc : Bs w g o l) (e0 : Er w 3) (e1 : Er w 4) (e2 : Er w 5) (e3 : Er w 7) :
    Calls Tryz.prog 104 #[.slice (some ⟨g, o, none⟩) n c] w (MrPost (mhRd l) g w) := by
  subst hn
  by_cases h2 : l.length < 2
  · rw [mhRd_len h2]
    obtain ⟨t3, p3, e3⟩ := e3
    have hd : decide ((l.length : Int) < 2) = true := by simp; omega
    go_enter Tryz.func104, Tryz.ntmps104
    go_wp2_with fail
    go_quiet (fail)
    go_wp2_with fail
    refine bodyPost_ret (results_tmp4 rfl _ _ _) rfl ?_
    exact ⟨below_drewN (Below.refl _ _) _, _, _, rfl⟩
  · have hd : decide ((l.length : Int) < 2) = false := by simp; omega
    go_enter Tryz.func104, Tryz.ntmps104
    go_wp2_with fail
    refine (mhUvarint_any g o _ c l w rfl (by omega) hlc hc e0 e1 e2).mono ?_
    cases hr1 : uvRd l 0 0 with
    | ok x s =>
      have HR1 := Lib.hid hr1
      clear hr1
      rintro e w1 ⟨b1, z, y, rfl, hzy, hbz⟩
      obtain ⟨k1, k2, k3, _⟩ := uvRd_ok0 HR1.out
      go_wp2_with fail
      refine (mhUvarint_any g z _ y (l.drop s) w1 (by rw [List.length_drop]) (by rw [List.length_drop]; omega) (by rw [List.length_drop]; omega) hbz (e0.old b1) (e1.old b1) (e2.old b1)).mono ?_
      cases hr2 : uvRd (l.drop s) 0 0 with
      | ok x2 s2 =>
        have HR2 := Lib.hid hr2
        clear hr2
        rintro e w2 ⟨b2, z2, y2, rfl, hzy2, hbz2⟩
        obtain ⟨m1, m2, m3, m4⟩ := uvRd_ok0 HR2.out
        rw [List.length_drop] at m2
        have b12 := Old.trans b1 b2
        rw [List.drop_drop] at hbz2
        by_cases h3 : l.length - s - s2 < x2
        · have hn : mhRd l = none := by unfold mhRd; rw [HR1.out]; simp only; rw [HR2.out]; simp only; rw [if_pos h3]
          have HN := Lib.hid hn
          clear hn
          go_wp2_with fail
          all_goals refine (errorsNew_any _ _).mono ?_
          all_goals rintro e w3 ⟨⟨t, p, rfl⟩, b3⟩
          all_goals go_wp2_with fail
          all_goals refine bodyPost_ret (results_tmp4 rfl _ _ _) rfl ?_
          all_goals rw [HN.out]
          all_goals exact ⟨Old.trans b12 b3, _, _, rfl⟩
        · have hn : mhRd l = some (x, (l.drop (s + s2)).take x2, s + s2 + x2) := by unfold mhRd; rw [HR1.out]; simp only; rw [HR2.out]; simp only; rw [if_neg h3]
          have HN := Lib.hid hn
          clear hn
          have b2' : Below w2.heap.size w2 w2 := Below.refl _ _
          have hx2 : x2 ≤ y2 := by rw [List.length_drop] at hzy2; omega
          have hd2 : ((l.drop (s + s2)).take x2).length = x2 := by rw [List.length_take, List.length_drop]; omega
          go_wp2_with fail
          go_quiet (fail)
          go_wp2_with fail
          refine bodyPost_ret (results_tmp4 rfl _ _ _) rfl ?_
          rw [HN.out]
          exact mrPost_some (below_drewN b12 _) (by omega) hd2.symm hx2 ((hbz2.take x2).old b2' |>.drewN _)
      | _ =>
        have HR2 := Lib.hid hr2
        clear hr2
        rintro e w2 ⟨b2, v, t, p, rfl⟩
        go_wp2_with fail
        refine bodyPost_ret (results_tmp4 rfl _ _ _) rfl ?_
        have hn : mhRd l = none := by unfold mhRd; rw [HR1.out]; simp only; rw [HR2.out]
        rw [hn]
        exact ⟨Old.trans b1 b2, _, _, rfl⟩
    | _ =>
      have HR1 := Lib.hid hr1
      clear hr1
      rintro e w1 ⟨b1, v, t, p, rfl⟩
      go_wp2_with fail
      refine bodyPost_ret (results_tmp4 rfl _ _ _) rfl ?_
      have hn : mhRd l = none := by unfold mhRd; rw [HR1.out]
      rw [hn]
      exact ⟨b1, _, _, rfl⟩

/-- A DecodedMultihash's cells. -/
def dmCells (code : Nat) (n g o c : Nat) : Array Value := #[.int .u64 code, .string ⟨#[]⟩, .int .i64 n, .slice (some ⟨g, o, none⟩) n c]
def dmNone : Array Value := #[.int .u64 0, .string ⟨#[]⟩, .int .i64 0, .slice none 0 0]

/-- What decode comes to, of n0 bytes in block g. -/
def DcPost (r : Option (Nat × List UInt8 × Nat)) (n0 g : Nat) (w : World) (e : Ending) (w' : World) : Prop :=
  Below w.heap.size w w' ∧ match r with
    | some (code, d, n) => ∃ o c, d.length ≤ c ∧ Bs w' g o d ∧ (n = n0 → e = .returned (.tuple #[.agg (dmCells code d.length g o c), .nilIface])) ∧ (n ≠ n0 → ∃ t p, e = .returned (.tuple #[.agg (dmCells code d.length g o c), .iface t p]))
    | none => ∃ t p, e = .returned (.tuple #[.agg dmNone, .iface t p])

set_option maxRecDepth 100000 in
set_option maxHeartbeats 2000000 in
theorem mhdecode_any (g o n c : Nat) (l : List UInt8) (w : World) (hn : n = l.length) (hl : l.length ≤ 2147483647) (hlc : l.length ≤ c) (hc : Bs w g o l) (hg : g < w.heap.size) (e0 : Er w 3) (e1 : Er w 4) (e2 : Er w 5) (e3 : Er w 7) :
    Calls Tryz.prog 74 #[.slice (some ⟨g, o, none⟩) n c] w (DcPost (mhRd l) l.length g w) := by
  have HN := Lib.hid hn
  clear hn
  go_enter Tryz.func74, Tryz.ntmps74
  go_wp2_with fail
  have b0 : Below w.heap.size w (w.alloc (.cells #[.int .u64 0, .string ⟨#[]⟩, .int .i64 0, .slice none 0 0] 130)) := (Below.refl _ _).alloc (Nat.le_refl _) _
  have B0 := Blk.new w 130 #[.int .u64 0, .string ⟨#[]⟩, .int .i64 0, .slice none 0 0]
  refine (readMh_any g o n c l _ HN.out hl hlc (hc.old b0) (e0.old b0) (e1.old b0) (e2.old b0) (e3.old b0)).mono ?_
  cases hr : mhRd l with
  | none =>
    rintro e w1 ⟨b1, t, p, rfl⟩
    have b01 := Old.trans b0 b1
    have B1 := B0.old b1
    obtain ⟨c1, f1⟩ := bcell b1
    have z1 := b1.size
    simp at c1 f1 z1
    have z2 : w.heap.size < w1.heap.size := by omega
    go_wp2_with fail
    refine bodyPost_ret (ret_cell_tmp rfl rfl (B1.row [.int .u64 0, .string ⟨#[]⟩, .int .i64 0, .slice none 0 0] rfl) Tryz.underlying130 (by kernel_rfl)) rfl ?_
    rw [hr]
    refine ⟨?_, _, _, rfl⟩
    repeat (refine RowKit.Below.setCell ?_ (by simp) _)
    exact b01
  | some x =>
    obtain ⟨code, d, m⟩ := x
    rintro e w1 ⟨b1, o2, cc, rfl, hdc, hbs⟩
    have b01 := Old.trans b0 b1
    have B1 := B0.old b1
    obtain ⟨c1, f1⟩ := bcell b1
    have z1 := b1.size
    simp at c1 f1 z1
    have z2 : w.heap.size < w1.heap.size := by omega
    have hgne : g ≠ w.heap.size := by omega
    by_cases hm : m = l.length
    · have hne : (((n : Int)) != (m : Int)) = false := by rw [HN.out]; simp [hm]
      have HM := Lib.hid hm
      clear hm
      go_wp2_with fail
      refine bodyPost_ret (ret_cell_tmp rfl rfl ((B1.row [.int .u64 code, .string ⟨#[]⟩, .int .i64 d.length, .slice (some ⟨g, o2, none⟩) d.length cc] rfl).row [.int .u64 code, .string ⟨#[]⟩, .int .i64 d.length, .slice (some ⟨g, o2, none⟩) d.length cc] rfl) Tryz.underlying130 (by kernel_rfl)) rfl ?_
      rw [hr]
      refine ⟨?_, o2, cc, hdc, ?_, fun _ => rfl, fun h => absurd HM.out h⟩
      · repeat (refine RowKit.Below.setCell ?_ (by simp) _)
        exact b01
      · repeat (refine Bs.far ?_ hgne _)
        exact hbs
    · have hne : (((n : Int)) != (m : Int)) = true := by rw [HN.out]; simp; omega
      have HM := Lib.hid hm
      clear hm
      go_wp2_with fail
      refine bodyPost_ret (ret_cell_tmp rfl rfl ((B1.row [.int .u64 code, .string ⟨#[]⟩, .int .i64 d.length, .slice (some ⟨g, o2, none⟩) d.length cc] rfl).row [.int .u64 code, .string ⟨#[]⟩, .int .i64 d.length, .slice (some ⟨g, o2, none⟩) d.length cc] rfl) Tryz.underlying130 (by kernel_rfl)) rfl ?_
      rw [hr]
      refine ⟨?_, o2, cc, hdc, ?_, fun h => absurd h HM.out, fun _ => ⟨_, _, rfl⟩⟩
      · repeat (refine RowKit.Below.setCell ?_ (by simp) _)
        exact b01
      · repeat (refine Bs.far ?_ hgne _)
        exact hbs
end Go.Proofs.YtcljffldbnoljaaGreatDoor

namespace Go.Proofs.YtcljffldbnoljaaGreatDoor
open Go.RowKit

theorem ret_str {a b : List UInt8} (h : a = b) : Ending.returned (.string ⟨a.toArray⟩) = .returned (.string ⟨b.toArray⟩) := by rw [h]

set_option maxRecDepth 100000 in
set_option maxHeartbeats 1000000 in
/-- spec.Varint: the varint's bytes in a row of its own. -/
theorem specVarint_any (n : Int) (w : World) (h0 : 0 ≤ n) (h1 : n < 18446744073709551616) :
    Calls Tryz.prog 16 #[.int .u64 n] w fun e w' => ∃ g cap, e = .returned (.slice (some ⟨g, 0, none⟩) (Lib.uvarint n.toNat).length cap) ∧ w.heap.size ≤ g ∧ (Lib.uvarint n.toNat).length ≤ cap ∧ Bs w' g 0 (Lib.uvarint n.toNat) ∧ Below w.heap.size w w' := by
  obtain ⟨i0, hi, hz0, hz1, hz2⟩ := info_parts info5
  obtain ⟨x, rfl⟩ := Int.eq_ofNat_of_zero_le h0
  simp only [Int.toNat_natCast] at *
  have hL := Lib.uvarint_length64 (x := x) (by omega)
  have hpos := Lib.uvarint_pos x
  obtain ⟨B, hB⟩ : ∃ B, B = w.heap.size := ⟨_, rfl⟩
  go_enter Tryz.func16, Tryz.ntmps16
  go_wp2_with fail
  go_loopw [0, 3] (fun n v wr => ∃ (y : Nat) (pre : List UInt8), n = .int .u64 y ∧ y ≤ x ∧ Lib.uvarint x = pre ++ Lib.uvarint y ∧ wr.ownsRow w.heap.size 5 1 v pre.length (Lib.byteCells pre) ∧ Below w.heap.size w wr) (fun n _ _ => (intOf n).toNat)
  case atStart => exact ⟨x, [], rfl, Nat.le_refl _, rfl, World.ownsRow_nil _ _ _ _, Below.refl _ _⟩
  case round =>
    obtain ⟨y, pre, rfl, hy, hsp, hown, hbel⟩ := hrel
    have hpl : pre.length + (Lib.uvarint y).length = (Lib.uvarint x).length := by
      have h2 := congrArg List.length hsp
      rw [List.length_append] at h2
      omega
    have HSP := Lib.hid hsp
    clear hsp
    by_cases hbig : 128 ≤ y
    · have hor : bits .or .u8 ((y : Int) % 256) 128 = (y : Int) % 128 + 128 := Lib.u8_or128_any _ (by omega) (by omega) |>.trans (by omega)
      have hd : decide ((128 : Int) ≤ (y : Int)) = true := by simp; omega
      clear h0 h1
      go_wp2_with (at_builtin; go_must (refine wpList_append_byte wr rfl (.tmp 6) (.tmp 10) 47 rfl w.heap.size 5 i0 Tryz.underlying47 hi hz0 hz1 hz2 u3 pre rfl hown _ (y % 128 + 128).toUInt8 (by simp; omega) rfl (by omega) hbel.size ?_); intro v1 w1 hown1 hg1)
      have hb1 := grown_old hbel hown hg1
      go_roundw
      case rel => exact ⟨y / 128, pre ++ [(y % 128 + 128).toUInt8], by go_num, by omega, by rw [HSP.out, Lib.uvarint_big hbig]; simp, hown1, hb1⟩
      case measure => simp [intOf]; omega
    · have hd : decide ((128 : Int) ≤ (y : Int)) = false := by simp; omega
      have hb256 : (y : Int) % 256 = y := by omega
      clear h0 h1
      go_wp2_with (at_builtin; go_must (refine wpList_append_byte wr rfl (.tmp 14) (.tmp 17) 47 rfl w.heap.size 5 i0 Tryz.underlying47 hi hz0 hz1 hz2 u3 pre rfl hown _ y.toUInt8 (by simp; omega) rfl (by omega) hbel.size ?_); intro v1 w1 hown1 hg1)
      have hb1 := grown_old hbel hown hg1
      have hfin : pre ++ [y.toUInt8] = Lib.uvarint x := by rw [HSP.out, Lib.uvarint_small (by omega)]
      rw [hfin] at hown1
      obtain ⟨g, cap, hv, hg, _, hcap, hbs⟩ := own_form hown1 (by intro h; rw [h] at hpos; simp at hpos)
      go_ret
      exact ⟨g, cap, by rw [← hv]; rfl, hg, hcap, hbs, hb1⟩

/-- What UvRead comes to. -/
def UvReadPost (r : UvR) (w : World) (e : Ending) (w' : World) : Prop :=
  Below w.heap.size w w' ∧ e = match r with
    | .ok n s => .returned (.tuple #[.int .u64 n, .int .i64 s, .bool true])
    | _ => .returned (.tuple #[.int .u64 0, .int .i64 0, .bool false])

end Go.Proofs.YtcljffldbnoljaaGreatDoor
