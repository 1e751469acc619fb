/-
  The walks of package varint: UvarintSize, PutUvarint, ToUvarint, FromUvarint. Conditions: as each contract says.
  The walks of package multihash: uvarint, readMultihashFromBuf, decode, Decode, MHFromBytes, Encode, and of errors.New. Conditions: as each contract says.
  The walks of impl.UvPut, UvSize, UvRead, spec.Varint and laws.uvOne. Conditions: as each contract says.
  The walks of multihash.Decode, MHFromBytes, Encode and of impl.MhDecode, MhRead, MhEncode. Conditions: as each contract says.
  The walks of impl.MhEncode, spec.ReadVarint, spec.ReadMultihash, laws.mhOne, FnMhDecode and FnMhCanon. Conditions: the packages' errors are not nil (they are as start-up lays them).
-/
import Derived.Test.YtlafdmmjbkdkaaaGreatDoorJBase
import Derived.Test.YtlafdmmjbkdkaaaGreatDoorShelf
import Derived.Test.YtlafdmmjbkdkaaaGreatDoorJUv
import Derived.Deep.QuietTactic
import Derived.BigQuiet
import Derived.Deep.RegionHeld3
import Derived.Laws.CopyOwn
namespace Go.Proofs.YtlafdmmjbkdkaaaGreatDoor
open Go.RowKit

theorem ret_i64 {a b : Int} (h : a = b) : Ending.returned (.int .i64 a) = .returned (.int .i64 b) := by rw [h]

theorem or_add (a b k : Nat) (ha : a < 128 ^ k) (hk : k ≤ 8) (hb : b < 128) (x : Int) (hx : x = ((b * 128 ^ k : Nat) : Int)) : bits .or .u64 (a : Int) x = ((a + b * 128 ^ k : Nat) : Int) := by
  subst hx
  have e : (128 : Nat) ^ k = 2 ^ (7 * k) := by rw [Nat.pow_mul]
  have h8 : 128 ^ k ≤ 128 ^ 8 := Nat.pow_le_pow_right (by omega) hk
  have e8 : (128 : Nat) ^ 8 = 72057594037927936 := by decide
  have h9 : b * 128 ^ k ≤ 127 * 128 ^ k := Nat.mul_le_mul_right _ (by omega)
  have hb' : b * 128 ^ k < 2 ^ 64 := by omega
  have h := (bits_nat .u64 64 (by decide) (fun n h1 h2 => by rw [IntKind.wrap_u64]; omega) a (b * 128 ^ k) (by omega) hb').2
  have h3 := Nat.two_pow_add_eq_or_of_lt (i := 7 * k) (b := a) (by rw [← e]; exact ha) b
  rw [h, Nat.or_comm, e, Nat.mul_comm b, ← h3, Nat.add_comm]
theorem and127 (b : Nat) (hb : b < 256) : bits .and .u8 (b : Int) 127 = ((b % 128 : Nat) : Int) := by
  have h := u8_and_nat b 127 hb (by omega)
  have h2 := Nat.and_two_pow_sub_one_eq_mod b 7
  simp only [Nat.reducePow, Nat.add_one_sub_one] at h2
  rw [show ((127 : Nat) : Int) = 127 from rfl] at h
  rw [h, h2]
theorem shl_wrap (b k : Nat) (hb : b < 128) (hk : k ≤ 8) : IntKind.u64.wrap ((b : Int) * 2 ^ (7 * k)) = ((b * 128 ^ k : Nat) : Int) := by
  have e : (128 : Nat) ^ k = 2 ^ (7 * k) := by rw [Nat.pow_mul]
  have h8 : 128 ^ k ≤ 128 ^ 8 := Nat.pow_le_pow_right (by omega) hk
  have e8 : (128 : Nat) ^ 8 = 72057594037927936 := by decide
  have h9 : b * 128 ^ k ≤ 127 * 128 ^ k := Nat.mul_le_mul_right _ (by omega)
  have e2 : ((b : Int) * 2 ^ (7 * k)) = ((b * 128 ^ k : Nat) : Int) := by rw [e]; push_cast; rfl
  rw [e2, IntKind.wrap_u64]
  omega
theorem uvRd_step (l : List UInt8) (k a : Nat) (hk : k < l.length) : uvRd (l.drop k) k a = if (k = 8 ∧ 128 ≤ l[k].toNat) ∨ 9 ≤ k then .long
    else if l[k].toNat < 128 then (if l[k].toNat = 0 ∧ 0 < k then .needless else .ok (a + l[k].toNat * 128 ^ k) (k + 1)) else uvRd (l.drop (k + 1)) (k + 1) (a + l[k].toNat % 128 * 128 ^ k) := by
  rw [List.drop_eq_getElem_cons hk, uvRd]

/-- What FromUvarint comes to. -/
def UvPost (r : UvR) (w : World) (e : Ending) (w' : World) : Prop :=
  (∃ k, w' = w.drewN k) ∧ match r with
    | .ok n s => e = .returned (.tuple #[.int .u64 n, .int .i64 s, .nilIface])
    | _ => ∃ t p, e = .returned (.tuple #[.int .u64 0, .int .i64 0, .iface t p])

theorem uvPost_ok {r : UvR} {w : World} {n s : Nat} {x y : Int} (h : r = .ok n s) (hx : x = n) (hy : y = s) : UvPost r w (.returned (.tuple #[.int .u64 x, .int .i64 y, .nilIface])) w := by
  subst h hx hy
  exact ⟨⟨0, rfl⟩, rfl⟩

set_option maxRecDepth 100000 in
set_option maxHeartbeats 1000000 in
theorem fromUvarint_any (g o c : Nat) (l : List UInt8) (w : World) (hl : l.length ≤ 4611686018427387904) (hc : Bs w g o l) (e0 : Er w 10) (e1 : Er w 11) (e2 : Er w 19) :
    Calls Tryz.prog 143 #[.slice (some ⟨g, o, none⟩) l.length c] w (UvPost (uvRd l 0 0) w) := by
  obtain ⟨t0, p0, e0⟩ := e0
  obtain ⟨t1, p1, e1⟩ := e1
  obtain ⟨t2, p2, e2⟩ := e2
  go_enter Tryz.func143, Tryz.ntmps143
  go_wp2_with fail
  go_loop [5, 6, 11] (fun x s i => ∃ (k : Nat) (a : Nat), k ≤ l.length ∧ k ≤ 9 ∧ a < 128 ^ k ∧ x = .int .u64 a ∧ s = .int .u64 (7 * k : Nat) ∧ i = .int .i64 k ∧ uvRd l 0 0 = uvRd (l.drop k) k a) (fun _ _ i => l.length - (intOf i).toNat)
  case atStart => exact ⟨0, 0, by omega, by omega, by simp, rfl, rfl, rfl, by simp⟩
  case round =>
    obtain ⟨k, a, hk, hk9, ha, rfl, rfl, rfl, hrd⟩ := hrel
    have HRD := Lib.hid hrd
    clear hrd
    by_cases hlt : k < l.length
    · have hcell : w.cell? ⟨g, o + k, none⟩ = some (.int .u8 ((l[k].toNat : Nat) : Int)) := hc k hlt
      have hb := l[k].toNat_lt
      have hst := uvRd_step l k a hlt
      have HST := Lib.hid hst
      clear hst
      generalize l[k].toNat = b at *
      by_cases hL : (k = 8 ∧ 128 ≤ b) ∨ 9 ≤ k
      · have hend : uvRd l 0 0 = .long := by rw [HRD.out, HST.out, if_pos hL]
        go_wp2_with fail
        all_goals go_quiet (fail)
        all_goals go_wp2_with fail
        all_goals go_ret3
        all_goals exact ⟨⟨_, rfl⟩, by rw [hend]; exact ⟨_, _, rfl⟩⟩
      · by_cases hN : 128 ≤ b
        · have hA := and127 b hb
          have hS := shl_wrap (b % 128) k (by omega) (by omega)
          have hO := or_add a (b % 128) k ha (by omega) (by omega) _ rfl
          have HO := Lib.hid (And.intro hA (And.intro hS hO))
          clear hA hS hO
          go_wp2_with fail
          all_goals go_round
          case rel =>
            have hpow : a + b % 128 * 128 ^ k < 128 ^ (k + 1) := by
              rw [Nat.pow_succ]
              have : b % 128 * 128 ^ k ≤ 127 * 128 ^ k := Nat.mul_le_mul_right _ (by omega)
              omega
            refine ⟨k + 1, a + b % 128 * 128 ^ k, by omega, by omega, hpow, ?_, by go_num, by go_num, by rw [HRD.out, HST.out, if_neg hL, if_neg (by omega)]⟩
            rw [HO.out.1, show IntKind.u64.wrap ((b % 128 : Nat) : Int) = ((b % 128 : Nat) : Int) from by rw [IntKind.wrap_u64]; omega, HO.out.2.1, HO.out.2.2]
          case measure => simp [intOf]; omega
        · by_cases h0 : b = 0 ∧ 0 < k
          · have hend : uvRd l 0 0 = .needless := by rw [HRD.out, HST.out, if_neg hL, if_pos (by omega), if_pos h0]
            have h01 : ((b : Int) == 0) = true := by simp [h0.1]
            go_wp2_with fail
            all_goals go_quiet (fail)
            all_goals go_wp2_with fail
            all_goals go_ret3
            all_goals exact ⟨⟨_, rfl⟩, by rw [hend]; exact ⟨_, _, rfl⟩⟩
          · have hend : uvRd l 0 0 = .ok (a + b * 128 ^ k) (k + 1) := by rw [HRD.out, HST.out, if_neg hL, if_pos (by omega), if_neg h0]
            have hS := shl_wrap b k (by omega) (by omega)
            have hO := or_add a b k ha (by omega) (by omega) _ rfl
            have HO := Lib.hid (And.intro hS hO)
            have HE := Lib.hid hend
            clear hS hO hend
            go_wp2_with fail
            all_goals go_ret3
            all_goals refine uvPost_ok HE.out ?_ ?_
            all_goals first
              | (rw [HO.out.1]; exact HO.out.2)
              | rfl
              | (push_cast; omega)
              | (exact or_add a b k ha (by omega) (by omega) _ (by rw [show k = 8 from by omega, show (128 : Nat) ^ 8 = 72057594037927936 from by decide, Int.natCast_mul]; rfl))
              | (exact or_add a b k ha (by omega) (by omega) _ (by rw [show b = 0 from by omega, Nat.zero_mul]; rfl))
              | trace_state
    · have hend : uvRd l 0 0 = .ends := by rw [HRD.out, List.drop_of_length_le (by omega)]; rfl
      go_wp2_with fail
      go_quiet (fail)
      go_wp2_with fail
      go_ret3
      exact ⟨⟨_, rfl⟩, by rw [hend]; exact ⟨_, _, rfl⟩⟩
end Go.Proofs.YtlafdmmjbkdkaaaGreatDoor

namespace Go.Proofs.YtlafdmmjbkdkaaaGreatDoor
open Go.RowKit

set_option maxRecDepth 100000 in
theorem errorsNew_any (s : ByteArray) (w : World) :
    Calls Tryz.prog 29 #[.string s] w fun e w' => (∃ t p, e = .returned (.iface t p)) ∧ Below w.heap.size w w' := by
  go_enter Tryz.func29, Tryz.ntmps29
  go_wp2_with fail
  go_ret
  exact ⟨⟨_, _, rfl⟩, (Below.refl _ _).alloc (Nat.le_refl _) _⟩

/-- What multihash's uvarint comes to. -/
def MuPost (r : UvR) (l : List UInt8) (g : Nat) (w : World) (e : Ending) (w' : World) : Prop :=
  Below w.heap.size w w' ∧ match r with
    | .ok x s => ∃ z y, e = .returned (.tuple #[.int .u64 x, .slice (some ⟨g, z, none⟩) (l.length - s) y, .nilIface]) ∧ l.length - s ≤ y ∧ Bs w' g z (l.drop s)
    | _ => ∃ v t p, e = .returned (.tuple #[.int .u64 0, v, .iface t p])

set_option maxRecDepth 100000 in
theorem mhUvarint_any (g o n c : Nat) (l : List UInt8) (w : World) (hn : n = l.length) (hl : l.length ≤ 4611686018427387904) (hlc : l.length ≤ c) (hc : Bs w g o l) (e0 : Er w 10) (e1 : Er w 11) (e2 : Er w 19) :
    Calls Tryz.prog 177 #[.slice (some ⟨g, o, none⟩) n c] w (MuPost (uvRd l 0 0) l g w) := by
  subst hn
  generalize hr : uvRd l 0 0 = r
  have HR := Lib.hid hr
  clear hr
  go_enter Tryz.func177, Tryz.ntmps177
  go_wp2_with fail
  refine (fromUvarint_any g o c l w hl hc e0 e1 e2).mono ?_
  rw [HR.out]
  rintro e w1 ⟨⟨k, rfl⟩, h⟩
  cases r with
  | ok x s =>
    subst h
    obtain ⟨k1, k2, k3, _⟩ := uvRd_ok0 HR.out
    have h0 : ((s : Int) == 0) = false := by simp; omega
    have hcut' : c = s → Bs w g o (l.drop s) := fun h => by have := hc.cut (k := s) hlc; rwa [if_pos h] at this
    have hcut2 : ¬ c = s → Bs w g (o + s) (l.drop s) := fun h => by have := hc.cut (k := s) hlc; rwa [if_neg h] at this
    go_wp2_with fail
    go_quiet (fail)
    all_goals go_wp2_with fail
    all_goals go_ret3
    · exact ⟨below_drewN (Below.refl _ _) _, _, _, rfl, by omega, (hcut' (by assumption)).drewN _⟩
    · exact ⟨below_drewN (Below.refl _ _) _, _, _, rfl, by omega, (hcut2 (by assumption)).drewN _⟩
  | _ =>
    obtain ⟨t, p, rfl⟩ := h
    go_wp2_with fail
    go_ret3
    exact ⟨below_drewN (Below.refl _ _) _, _, _, _, rfl⟩

/-- What readMultihashFromBuf comes to. -/
def MrPost (r : Option (Nat × List UInt8 × Nat)) (g : Nat) (w : World) (e : Ending) (w' : World) : Prop :=
  Below w.heap.size w w' ∧ match r with
    | some (code, d, n) => ∃ o c, e = .returned (.tuple #[.int .i64 n, .int .u64 code, .slice (some ⟨g, o, none⟩) d.length c, .nilIface]) ∧ d.length ≤ c ∧ Bs w' g o d
    | none => ∃ t p, e = .returned (.tuple #[.int .i64 0, .int .u64 0, .slice none 0 0, .iface t p])

theorem mrPost_some {code n g o c dl : Nat} {nn : Int} {d : List UInt8} {w w' : World} (hb : Below w.heap.size w w') (hN : nn = (n : Int)) (hL : dl = d.length) (hc : dl ≤ c) (h : Bs w' g o d) :
    MrPost (some (code, d, n)) g w (.returned (.tuple #[.int .i64 nn, .int .u64 code, .slice (some ⟨g, o, none⟩) dl c, .nilIface])) w' := by
  subst hN hL
  exact ⟨hb, o, c, rfl, hc, h⟩

set_option maxRecDepth 100000 in
set_option maxHeartbeats 2000000 in
theorem readMh_any (g o n c : Nat) (l : List UInt8) (w : World) (hn : n = l.length) (hl : l.length ≤ 2147483647) (hlc : l.length ≤ c) (hc : Bs w g o l) (e0 : Er w 10) (e1 : Er w 11) (e2 : Er w 19) (e3 : Er w 22) :
    Calls Tryz.prog 166 #[.slice (some ⟨g, o, none⟩) n c] w (MrPost (mhRd l) g w) := by
  subst hn
  by_cases h2 : l.length < 2
  · rw [mhRd_len h2]
    obtain ⟨t3, p3, e3⟩ := e3
    have hd : decide ((l.length : Int) < 2) = true := by simp; omega
    go_enter Tryz.func166, Tryz.ntmps166
    go_wp2_with fail
    go_quiet (fail)
    go_wp2_with fail
    refine bodyPost_ret (results_tmp4 rfl _ _ _) rfl ?_
    exact ⟨below_drewN (Below.refl _ _) _, _, _, rfl⟩
  · have hd : decide ((l.length : Int) < 2) = false := by simp; omega
    go_enter Tryz.func166, Tryz.ntmps166
    go_wp2_with fail
    refine (mhUvarint_any g o _ c l w rfl (by omega) hlc hc e0 e1 e2).mono ?_
    cases hr1 : uvRd l 0 0 with
    | ok x s =>
      have HR1 := Lib.hid hr1
      clear hr1
      rintro e w1 ⟨b1, z, y, rfl, hzy, hbz⟩
      obtain ⟨k1, k2, k3, _⟩ := uvRd_ok0 HR1.out
      go_wp2_with fail
      refine (mhUvarint_any g z _ y (l.drop s) w1 (by rw [List.length_drop]) (by rw [List.length_drop]; omega) (by rw [List.length_drop]; omega) hbz (e0.old b1) (e1.old b1) (e2.old b1)).mono ?_
      cases hr2 : uvRd (l.drop s) 0 0 with
      | ok x2 s2 =>
        have HR2 := Lib.hid hr2
        clear hr2
        rintro e w2 ⟨b2, z2, y2, rfl, hzy2, hbz2⟩
        obtain ⟨m1, m2, m3, m4⟩ := uvRd_ok0 HR2.out
        rw [List.length_drop] at m2
        have b12 := Old.trans b1 b2
        rw [List.drop_drop] at hbz2
        by_cases h3 : l.length - s - s2 < x2
        · have hn : mhRd l = none := by unfold mhRd; rw [HR1.out]; simp only; rw [HR2.out]; simp only; rw [if_pos h3]
          have HN := Lib.hid hn
          clear hn
          go_wp2_with fail
          all_goals refine (errorsNew_any _ _).mono ?_
          all_goals rintro e w3 ⟨⟨t, p, rfl⟩, b3⟩
          all_goals go_wp2_with fail
          all_goals refine bodyPost_ret (results_tmp4 rfl _ _ _) rfl ?_
          all_goals rw [HN.out]
          all_goals exact ⟨Old.trans b12 b3, _, _, rfl⟩
        · have hn : mhRd l = some (x, (l.drop (s + s2)).take x2, s + s2 + x2) := by unfold mhRd; rw [HR1.out]; simp only; rw [HR2.out]; simp only; rw [if_neg h3]
          have HN := Lib.hid hn
          clear hn
          have b2' : Below w2.heap.size w2 w2 := Below.refl _ _
          have hx2 : x2 ≤ y2 := by rw [List.length_drop] at hzy2; omega
          have hd2 : ((l.drop (s + s2)).take x2).length = x2 := by rw [List.length_take, List.length_drop]; omega
          go_wp2_with fail
          go_quiet (fail)
          go_wp2_with fail
          refine bodyPost_ret (results_tmp4 rfl _ _ _) rfl ?_
          rw [HN.out]
          exact mrPost_some (below_drewN b12 _) (by omega) hd2.symm hx2 ((hbz2.take x2).old b2' |>.drewN _)
      | _ =>
        have HR2 := Lib.hid hr2
        clear hr2
        rintro e w2 ⟨b2, v, t, p, rfl⟩
        go_wp2_with fail
        refine bodyPost_ret (results_tmp4 rfl _ _ _) rfl ?_
        have hn : mhRd l = none := by unfold mhRd; rw [HR1.out]; simp only; rw [HR2.out]
        rw [hn]
        exact ⟨Old.trans b1 b2, _, _, rfl⟩
    | _ =>
      have HR1 := Lib.hid hr1
      clear hr1
      rintro e w1 ⟨b1, v, t, p, rfl⟩
      go_wp2_with fail
      refine bodyPost_ret (results_tmp4 rfl _ _ _) rfl ?_
      have hn : mhRd l = none := by unfold mhRd; rw [HR1.out]
      rw [hn]
      exact ⟨b1, _, _, rfl⟩

/-- A DecodedMultihash's cells. -/
def dmCells (code : Nat) (n g o c : Nat) : Array Value := #[.int .u64 code, .string ⟨#[]⟩, .int .i64 n, .slice (some ⟨g, o, none⟩) n c]
def dmNone : Array Value := #[.int .u64 0, .string ⟨#[]⟩, .int .i64 0, .slice none 0 0]

/-- What decode comes to, of n0 bytes in block g. -/
def DcPost (r : Option (Nat × List UInt8 × Nat)) (n0 g : Nat) (w : World) (e : Ending) (w' : World) : Prop :=
  Below w.heap.size w w' ∧ match r with
    | some (code, d, n) => ∃ o c, d.length ≤ c ∧ Bs w' g o d ∧ (n = n0 → e = .returned (.tuple #[.agg (dmCells code d.length g o c), .nilIface])) ∧ (n ≠ n0 → ∃ t p, e = .returned (.tuple #[.agg (dmCells code d.length g o c), .iface t p]))
    | none => ∃ t p, e = .returned (.tuple #[.agg dmNone, .iface t p])

set_option maxRecDepth 100000 in
set_option maxHeartbeats 2000000 in
theorem mhdecode_any (g o n c : Nat) (l : List UInt8) (w : World) (hn : n = l.length) (hl : l.length ≤ 2147483647) (hlc : l.length ≤ c) (hc : Bs w g o l) (hg : g < w.heap.size) (e0 : Er w 10) (e1 : Er w 11) (e2 : Er w 19) (e3 : Er w 22) :
    Calls Tryz.prog 176 #[.slice (some ⟨g, o, none⟩) n c] w (DcPost (mhRd l) l.length g w) := by
  have HN := Lib.hid hn
  clear hn
  go_enter Tryz.func176, Tryz.ntmps176
  go_wp2_with fail
  have b0 : Below w.heap.size w (w.alloc (.cells #[.int .u64 0, .string ⟨#[]⟩, .int .i64 0, .slice none 0 0] 290)) := (Below.refl _ _).alloc (Nat.le_refl _) _
  have B0 := Blk.new w 290 #[.int .u64 0, .string ⟨#[]⟩, .int .i64 0, .slice none 0 0]
  refine (readMh_any g o n c l _ HN.out hl hlc (hc.old b0) (e0.old b0) (e1.old b0) (e2.old b0) (e3.old b0)).mono ?_
  cases hr : mhRd l with
  | none =>
    rintro e w1 ⟨b1, t, p, rfl⟩
    have b01 := Old.trans b0 b1
    have B1 := B0.old b1
    obtain ⟨c1, f1⟩ := bcell b1
    have z1 := b1.size
    simp at c1 f1 z1
    have z2 : w.heap.size < w1.heap.size := by omega
    go_wp2_with fail
    refine bodyPost_ret (ret_cell_tmp rfl rfl (B1.row [.int .u64 0, .string ⟨#[]⟩, .int .i64 0, .slice none 0 0] rfl) Tryz.underlying290 (by kernel_rfl)) rfl ?_
    rw [hr]
    refine ⟨?_, _, _, rfl⟩
    repeat (refine RowKit.Below.setCell ?_ (by simp) _)
    exact b01
  | some x =>
    obtain ⟨code, d, m⟩ := x
    rintro e w1 ⟨b1, o2, cc, rfl, hdc, hbs⟩
    have b01 := Old.trans b0 b1
    have B1 := B0.old b1
    obtain ⟨c1, f1⟩ := bcell b1
    have z1 := b1.size
    simp at c1 f1 z1
    have z2 : w.heap.size < w1.heap.size := by omega
    have hgne : g ≠ w.heap.size := by omega
    by_cases hm : m = l.length
    · have hne : (((n : Int)) != (m : Int)) = false := by rw [HN.out]; simp [hm]
      have HM := Lib.hid hm
      clear hm
      go_wp2_with fail
      refine bodyPost_ret (ret_cell_tmp rfl rfl ((B1.row [.int .u64 code, .string ⟨#[]⟩, .int .i64 d.length, .slice (some ⟨g, o2, none⟩) d.length cc] rfl).row [.int .u64 code, .string ⟨#[]⟩, .int .i64 d.length, .slice (some ⟨g, o2, none⟩) d.length cc] rfl) Tryz.underlying290 (by kernel_rfl)) rfl ?_
      rw [hr]
      refine ⟨?_, o2, cc, hdc, ?_, fun _ => rfl, fun h => absurd HM.out h⟩
      · repeat (refine RowKit.Below.setCell ?_ (by simp) _)
        exact b01
      · repeat (refine Bs.far ?_ hgne _)
        exact hbs
    · have hne : (((n : Int)) != (m : Int)) = true := by rw [HN.out]; simp; omega
      have HM := Lib.hid hm
      clear hm
      go_wp2_with fail
      refine bodyPost_ret (ret_cell_tmp rfl rfl ((B1.row [.int .u64 code, .string ⟨#[]⟩, .int .i64 d.length, .slice (some ⟨g, o2, none⟩) d.length cc] rfl).row [.int .u64 code, .string ⟨#[]⟩, .int .i64 d.length, .slice (some ⟨g, o2, none⟩) d.length cc] rfl) Tryz.underlying290 (by kernel_rfl)) rfl ?_
      rw [hr]
      refine ⟨?_, o2, cc, hdc, ?_, fun h => absurd h HM.out, fun _ => ⟨_, _, rfl⟩⟩
      · repeat (refine RowKit.Below.setCell ?_ (by simp) _)
        exact b01
      · repeat (refine Bs.far ?_ hgne _)
        exact hbs
end Go.Proofs.YtlafdmmjbkdkaaaGreatDoor

namespace Go.Proofs.YtlafdmmjbkdkaaaGreatDoor
open Go.RowKit

theorem ret_str {a b : List UInt8} (h : a = b) : Ending.returned (.string ⟨a.toArray⟩) = .returned (.string ⟨b.toArray⟩) := by rw [h]

set_option maxRecDepth 100000 in
set_option maxHeartbeats 1000000 in
/-- spec.Varint: the varint's bytes in a row of its own. -/
theorem specVarint_any (n : Int) (w : World) (h0 : 0 ≤ n) (h1 : n < 18446744073709551616) :
    Calls Tryz.prog 26 #[.int .u64 n] w fun e w' => ∃ g cap, e = .returned (.slice (some ⟨g, 0, none⟩) (Lib.uvarint n.toNat).length cap) ∧ w.heap.size ≤ g ∧ (Lib.uvarint n.toNat).length ≤ cap ∧ Bs w' g 0 (Lib.uvarint n.toNat) ∧ Below w.heap.size w w' := by
  obtain ⟨i0, hi, hz0, hz1, hz2⟩ := info_parts info5
  obtain ⟨x, rfl⟩ := Int.eq_ofNat_of_zero_le h0
  simp only [Int.toNat_natCast] at *
  have hL := Lib.uvarint_length64 (x := x) (by omega)
  have hpos := Lib.uvarint_pos x
  obtain ⟨B, hB⟩ : ∃ B, B = w.heap.size := ⟨_, rfl⟩
  go_enter Tryz.func26, Tryz.ntmps26
  go_wp2_with fail
  go_loopw [0, 3] (fun n v wr => ∃ (y : Nat) (pre : List UInt8), n = .int .u64 y ∧ y ≤ x ∧ Lib.uvarint x = pre ++ Lib.uvarint y ∧ wr.ownsRow w.heap.size 5 1 v pre.length (Lib.byteCells pre) ∧ Below w.heap.size w wr) (fun n _ _ => (intOf n).toNat)
  case atStart => exact ⟨x, [], rfl, Nat.le_refl _, rfl, World.ownsRow_nil _ _ _ _, Below.refl _ _⟩
  case round =>
    obtain ⟨y, pre, rfl, hy, hsp, hown, hbel⟩ := hrel
    have hpl : pre.length + (Lib.uvarint y).length = (Lib.uvarint x).length := by
      have h2 := congrArg List.length hsp
      rw [List.length_append] at h2
      omega
    have HSP := Lib.hid hsp
    clear hsp
    by_cases hbig : 128 ≤ y
    · have hor : bits .or .u8 ((y : Int) % 256) 128 = (y : Int) % 128 + 128 := Lib.u8_or128_any _ (by omega) (by omega) |>.trans (by omega)
      have hd : decide ((128 : Int) ≤ (y : Int)) = true := by simp; omega
      clear h0 h1
      go_wp2_with (at_builtin; go_must (refine wpList_append_byte wr rfl (.tmp 6) (.tmp 10) 45 rfl w.heap.size 5 i0 Tryz.underlying45 hi hz0 hz1 hz2 u3 pre rfl hown _ (y % 128 + 128).toUInt8 (by simp; omega) rfl (by omega) hbel.size ?_); intro v1 w1 hown1 hg1)
      have hb1 := grown_old hbel hown hg1
      go_roundw
      case rel => exact ⟨y / 128, pre ++ [(y % 128 + 128).toUInt8], by go_num, by omega, by rw [HSP.out, Lib.uvarint_big hbig]; simp, hown1, hb1⟩
      case measure => simp [intOf]; omega
    · have hd : decide ((128 : Int) ≤ (y : Int)) = false := by simp; omega
      have hb256 : (y : Int) % 256 = y := by omega
      clear h0 h1
      go_wp2_with (at_builtin; go_must (refine wpList_append_byte wr rfl (.tmp 14) (.tmp 17) 45 rfl w.heap.size 5 i0 Tryz.underlying45 hi hz0 hz1 hz2 u3 pre rfl hown _ y.toUInt8 (by simp; omega) rfl (by omega) hbel.size ?_); intro v1 w1 hown1 hg1)
      have hb1 := grown_old hbel hown hg1
      have hfin : pre ++ [y.toUInt8] = Lib.uvarint x := by rw [HSP.out, Lib.uvarint_small (by omega)]
      rw [hfin] at hown1
      obtain ⟨g, cap, hv, hg, _, hcap, hbs⟩ := own_form hown1 (by intro h; rw [h] at hpos; simp at hpos)
      go_ret
      exact ⟨g, cap, by rw [← hv]; rfl, hg, hcap, hbs, hb1⟩

/-- What UvRead comes to. -/
def UvReadPost (r : UvR) (w : World) (e : Ending) (w' : World) : Prop :=
  Below w.heap.size w w' ∧ e = match r with
    | .ok n s => .returned (.tuple #[.int .u64 n, .int .i64 s, .bool true])
    | _ => .returned (.tuple #[.int .u64 0, .int .i64 0, .bool false])

end Go.Proofs.YtlafdmmjbkdkaaaGreatDoor

namespace Go.Proofs.YtlafdmmjbkdkaaaGreatDoor
open Go.RowKit

/-- What Decode comes to, of n0 bytes in block g. -/
def DePost (r : Option (Nat × List UInt8 × Nat)) (n0 g : Nat) (w : World) (e : Ending) (w' : World) : Prop :=
  Below w.heap.size w w' ∧ match r with
    | some (code, d, n) => (n = n0 → ∃ b o c, e = .returned (.tuple #[.pointer (some ⟨b, 0, none⟩), .nilIface]) ∧ Blk w' b 290 (dmCells code d.length g o c) ∧ d.length ≤ c ∧ Bs w' g o d) ∧ (n ≠ n0 → ∃ t p, e = .returned (.tuple #[.pointer none, .iface t p]))
    | none => ∃ t p, e = .returned (.tuple #[.pointer none, .iface t p])

set_option maxRecDepth 100000 in
set_option maxHeartbeats 2000000 in
theorem mhDecode_any (g o n c : Nat) (l : List UInt8) (w : World) (hn : n = l.length) (hl : l.length ≤ 2147483647) (hlc : l.length ≤ c) (hc : Bs w g o l) (hg : g < w.heap.size) (e0 : Er w 10) (e1 : Er w 11) (e2 : Er w 19) (e3 : Er w 22) :
    Calls Tryz.prog 165 #[.slice (some ⟨g, o, none⟩) n c] w (DePost (mhRd l) l.length g w) := by
  have HN := Lib.hid hn
  clear hn
  go_enter Tryz.func165, Tryz.ntmps165
  go_wp2_with fail
  refine (mhdecode_any g o n c l _ HN.out hl hlc hc hg e0 e1 e2 e3).mono ?_
  cases hr : mhRd l with
  | none =>
    rintro e w1 ⟨b1, t, p, rfl⟩
    unfold dmNone
    go_wp2_with fail
    go_ret2
    rw [hr]
    exact ⟨Old.alloc b1 _, _, _, rfl⟩
  | some x =>
    obtain ⟨code, d, m⟩ := x
    rintro e w1 ⟨b1, o2, cc, hdc, hbs, hy, hno⟩
    by_cases hm : m = l.length
    · obtain rfl := hy hm
      clear hy hno
      have HM := Lib.hid hm
      clear hm
      unfold dmCells
      go_wp2_with fail
      go_ret2
      rw [hr]
      exact ⟨Old.alloc b1 _, fun _ => ⟨_, o2, cc, rfl, Blk.new _ _ _, hdc, hbs.alloc _⟩, fun h => absurd HM.out h⟩
    · obtain ⟨t, p, rfl⟩ := hno hm
      clear hy hno
      have HM := Lib.hid hm
      clear hm
      unfold dmCells
      go_wp2_with fail
      go_ret2
      rw [hr]
      exact ⟨Old.alloc b1 _, fun h => absurd h HM.out, fun _ => ⟨_, _, rfl⟩⟩

/-- What MhDecode comes to. -/
def mdOf (r : Option (Nat × List UInt8 × Nat)) (n0 : Nat) : Value :=
  match r with
  | some (code, d, n) => if n = n0 then .tuple #[.int .u64 code, .string ⟨d.toArray⟩, .bool true] else .tuple #[.int .u64 0, .string ⟨#[]⟩, .bool false]
  | none => .tuple #[.int .u64 0, .string ⟨#[]⟩, .bool false]

/-- What MHFromBytes comes to. -/
def MfPost (r : Option (Nat × List UInt8 × Nat)) (g o c : Nat) (w : World) (e : Ending) (w' : World) : Prop :=
  Below w.heap.size w w' ∧ match r with
    | some (_, _, n) => e = .returned (.tuple #[.int .i64 n, .slice (some ⟨g, o, none⟩) n c, .nilIface])
    | none => ∃ t p, e = .returned (.tuple #[.int .i64 0, .slice none 0 0, .iface t p])

set_option maxRecDepth 100000 in
set_option maxHeartbeats 2000000 in
theorem mhFromBytes_any (g o n c : Nat) (l : List UInt8) (w : World) (hn : n = l.length) (hl : l.length ≤ 2147483647) (hlc : l.length ≤ c) (hc : Bs w g o l) (e0 : Er w 10) (e1 : Er w 11) (e2 : Er w 19) (e3 : Er w 22) :
    Calls Tryz.prog 144 #[.slice (some ⟨g, o, none⟩) n c] w (MfPost (mhRd l) g o c w) := by
  have HN := Lib.hid hn
  clear hn
  go_enter Tryz.func144, Tryz.ntmps144
  go_wp2_with fail
  refine (readMh_any g o n c l _ HN.out hl hlc hc e0 e1 e2 e3).mono ?_
  cases hr : mhRd l with
  | none =>
    rintro e w1 ⟨b1, t, p, rfl⟩
    go_wp2_with fail
    go_ret3
    rw [hr]
    exact ⟨b1, _, _, rfl⟩
  | some x =>
    obtain ⟨code, d, m⟩ := x
    have hmc : m ≤ c := by
      obtain ⟨_, _, _, _, _, _, hm, _⟩ := mhRd_some hr
      omega
    rintro e w1 ⟨b1, o2, cc, rfl, hdc, hbs⟩
    go_wp2_with fail
    go_quiet (fail)
    go_wp2_with fail
    go_ret3
    rw [hr]
    exact ⟨below_drewN b1 _, rfl⟩

/-- What MhRead comes to. -/
def mreadOf (r : Option (Nat × List UInt8 × Nat)) : Value :=
  match r with
  | some (_, _, n) => .tuple #[.int .i64 n, .bool true]
  | none => .tuple #[.int .i64 0, .bool false]

end Go.Proofs.YtlafdmmjbkdkaaaGreatDoor

namespace Go.Proofs.YtlafdmmjbkdkaaaGreatDoor
open Go.RowKit

/-- What spec.ReadVarint comes to. -/
def rvOf (r : UvR) : Value :=
  match r with
  | .ok n s => .tuple #[.int .u64 n, .int .i64 s, .int .i64 0]
  | .ends => .tuple #[.int .u64 0, .int .i64 0, .int .i64 1]
  | .long => .tuple #[.int .u64 0, .int .i64 0, .int .i64 2]
  | .needless => .tuple #[.int .u64 0, .int .i64 0, .int .i64 3]

theorem str_mid (l : List UInt8) {a b n : Nat} (h : b = a + n) : (⟨l.toArray⟩ : ByteArray).extract a b = ⟨((l.drop a).take n).toArray⟩ := by
  subst h
  rw [ByteArray.extract_mk]
  simp [List.take_drop]
theorem ret_tup4 {s t : ByteArray} {a b : Int} {c : Int} {k : Bool} (h : s = t) (hb : a = b) : Ending.returned (.tuple #[.int .u64 c, .string s, .int .i64 a, .bool k]) = .returned (.tuple #[.int .u64 c, .string t, .int .i64 b, .bool k]) := by rw [h, hb]
/-- What spec.ReadMultihash comes to. -/
def smOf (r : Option (Nat × List UInt8 × Nat)) : Value :=
  match r with
  | some (code, d, n) => .tuple #[.int .u64 code, .string ⟨d.toArray⟩, .int .i64 n, .bool true]
  | none => .tuple #[.int .u64 0, .string ⟨#[]⟩, .int .i64 0, .bool false]

end Go.Proofs.YtlafdmmjbkdkaaaGreatDoor
