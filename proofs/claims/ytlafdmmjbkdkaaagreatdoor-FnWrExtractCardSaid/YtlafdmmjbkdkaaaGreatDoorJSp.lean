/-
  The walks of spec.MultihashBytes, spec.CidBytes. Conditions: as each contract says.
  The walk of spec.Section. Conditions: as the contract says.
  The walks of Cid.Prefix, Cid.Hash, impl.cidOut (of an identifier that is tidy). Conditions: as each contract says.
  The walks of multihash.Cast, cid.CidFromBytes (of bytes that begin with an identifier), impl.CdRead, laws.cdOne. Conditions: as each contract says.
  The walks of impl.CdRead (of a text that begins with an identifier), laws.cdOne, spec.Tidy, laws.cdGood, laws.FnCdParts. Conditions: as each contract says.
  The walks of laws.zzFits1, zzFits2. Conditions: as each contract says.
  A slice of blocks that a call is handed: what its cells hold; the walks of laws.zzFits6, zzFits5, seGood. Conditions: as each lemma says.
-/
import Derived.Test.YtlafdmmjbkdkaaaGreatDoorJUvW
import Derived.Deep.RegionWith
import Derived.Deep.RegionHeld3
import Derived.Lib.Builder
import Derived.Lib.BufferWrite
import Derived.Recover
import Derived.StillTailTactics
import Derived.Test.YtlafdmmjbkdkaaaGreatDoorJBase
import Derived.Test.YtlafdmmjbkdkaaaGreatDoorJUv
import Derived.Deep.QuietTactic
import Derived.BigQuiet
namespace Go.Proofs.YtlafdmmjbkdkaaaGreatDoor
open Go.RowKit

theorem sp_app (a b : List UInt8) : (⟨a.toArray⟩ : ByteArray) ++ ⟨b.toArray⟩ = ⟨(a ++ b).toArray⟩ := by
  apply ByteArray.ext
  simp

/-- spec.Varint: what string makes of its bytes, then and later. -/
theorem specVarint_cv (n : Int) (w : World) (h0 : 0 ≤ n) (h1 : n < 18446744073709551616) :
    Calls Tryz.prog 26 #[.int .u64 n] w fun e w' => ∃ v, e = .returned v ∧ Below w.heap.size w w' ∧ Hid (∀ W', Below w'.heap.size w' W' → (convert 45 9 v).run Tryz.prog W' = .ok (.string ⟨(Lib.uvarint n.toNat).toArray⟩) W') := by
  refine (specVarint_any n w h0 h1).mono ?_
  rintro e w1 ⟨g, cap, rfl, hg, hl, hbs, hb⟩
  exact ⟨_, rfl, hb, Lib.hid (fun W' hW => conv_str (P := Tryz.prog) Tryz.underlying45 Tryz.underlying5 Tryz.underlying9 (c := cap) (hbs.old hW) rfl)⟩

set_option maxRecDepth 100000 in
set_option maxHeartbeats 2000000 in
theorem specMhBytes_any (code : Nat) (d : List UInt8) (w : World) (hc : code < 18446744073709551616) (hd : d.length ≤ 1000000000) :
    Calls Tryz.prog 47 #[.int .u64 code, .string ⟨d.toArray⟩] w fun e w' => e = .returned (.string ⟨(mhWr code d).toArray⟩) ∧ Below w.heap.size w w' := by
  have happ := sp_app
  have hA := fun W => specVarint_cv (code : Int) W (by omega) (by omega)
  have hB := fun W => specVarint_cv (d.length : Int) W (by omega) (by omega)
  rw [Int.toNat_natCast] at hA hB
  have hw : mhWr code d = Lib.uvarint code ++ Lib.uvarint d.length ++ d := rfl
  have hl1 := Lib.uvarint_length64 hc
  have hl2 := Lib.uvarint_length64 (x := d.length) (by omega)
  rw [hw]
  obtain ⟨U, hU⟩ : ∃ U, Lib.uvarint code = U := ⟨_, rfl⟩
  obtain ⟨V, hV⟩ : ∃ V, Lib.uvarint d.length = V := ⟨_, rfl⟩
  rw [hU] at hA hl1 ⊢
  rw [hV] at hB hl2 ⊢
  have H := Lib.hid (And.intro hA hB)
  clear hA hB hU hV hw
  have hwn : IntKind.u64.wrap (d.length : Int) = d.length := by rw [IntKind.wrap_u64]; omega
  go_enter Tryz.func47, Tryz.ntmps47
  go_wp2_with fail
  go_region_with (go_at_call 26; (first | ((with_reducible refine (H.out.1 _).mono ?_); rintro _ wA ⟨vA, rfl, hbA, HA⟩; have iA := HA.out wA (Below.refl _ _)) | ((with_reducible refine (H.out.2 _).mono ?_); rintro _ wB ⟨vB, rfl, hbB, HB⟩; have iB := HB.out wB (Below.refl _ _); have iA2 := HA.out wB hbB)))
  all_goals go_wp2_with fail
  all_goals go_ret
  all_goals refine ⟨?_, Old.trans (((Below.refl w.heap.size w).drew).trans hbA) hbB⟩
  all_goals rw [List.append_assoc]
  all_goals rfl

set_option maxRecDepth 100000 in
set_option maxHeartbeats 4000000 in
theorem specCidBytes_any (x : CidL) (w : World) (hx : x.tidy) (hd : x.digest.length ≤ 1000000) :
    Calls Tryz.prog 27 #[.agg #[.int .u64 x.version, .int .u64 x.codec, .int .u64 x.code, .string ⟨x.digest.toArray⟩]] w fun e w' => e = .returned (.string ⟨x.wr.toArray⟩) ∧ Below w.heap.size w w' := by
  have b0 := Old.alloc (Below.refl w.heap.size w) (.cells #[.int .u64 (x.version : Nat), .int .u64 (x.codec : Nat), .int .u64 (x.code : Nat), .string ⟨x.digest.toArray⟩] 38)
  have B0 := Blk.new w 38 #[.int .u64 (x.version : Nat), .int .u64 (x.codec : Nat), .int .u64 (x.code : Nat), .string ⟨x.digest.toArray⟩]
  have hcode : x.code < 9223372036854775808 ∧ x.codec < 9223372036854775808 := by rcases hx with ⟨_, h1, h2, _⟩ | ⟨_, h1, h2⟩ <;> omega
  have hM := fun W => specMhBytes_any x.code x.digest W (by omega) (by omega)
  have hml : (mhWr x.code x.digest).length ≤ 2000000 := by
    have h1 := Lib.uvarint_length64 (x := x.code) (by omega)
    have h2 := Lib.uvarint_length64 (x := x.digest.length) (by omega)
    simp only [mhWr, List.length_append]; omega
  by_cases hv : x.version = 0
  · have hw : x.wr = mhWr x.code x.digest := by rw [CidL.wr, if_pos hv]
    have hv0 : ((x.version : Int) == 0) = true := by simp [hv]
    rw [hw]
    have HM := Lib.hid (And.intro hM hv)
    clear hM hw hx hv
    go_enter Tryz.func27, Tryz.ntmps27
    go_wp2_with fail
    refine (HM.out.1 _).mono ?_
    rintro e w1 ⟨rfl, b1⟩
    go_wp2_with fail
    go_ret
    exact ⟨rfl, Old.trans b0 b1⟩
  · have hw : x.wr = Lib.uvarint 1 ++ Lib.uvarint x.codec ++ mhWr x.code x.digest := by rw [CidL.wr, if_neg hv]
    have hv0 : ((x.version : Int) == 0) = false := by simp [hv]
    rw [hw]
    have happ := sp_app
    have hA := fun W => specVarint_cv 1 W (by omega) (by omega)
    have hB := fun W => specVarint_cv (x.codec : Int) W (by omega) (by omega)
    rw [Int.toNat_natCast] at hB
    rw [show Int.toNat 1 = 1 from rfl] at hA
    have hl1 := Lib.uvarint_length64 (x := 1) (by omega)
    have hl2 := Lib.uvarint_length64 (x := x.codec) (by omega)
    obtain ⟨U, hU⟩ : ∃ U, Lib.uvarint 1 = U := ⟨_, rfl⟩
    obtain ⟨V, hV⟩ : ∃ V, Lib.uvarint x.codec = V := ⟨_, rfl⟩
    obtain ⟨m, hm⟩ : ∃ m, mhWr x.code x.digest = m := ⟨_, rfl⟩
    rw [hU] at hA hl1 ⊢
    rw [hV] at hB hl2 ⊢
    rw [hm] at hM hml ⊢
    have H := Lib.hid (And.intro hA (And.intro hB hM))
    clear hA hB hM hU hV hm hw hx hv
    go_enter Tryz.func27, Tryz.ntmps27
    go_wp2_with fail
    generalize w.alloc (.cells #[.int .u64 (x.version : Nat), .int .u64 (x.codec : Nat), .int .u64 (x.code : Nat), .string ⟨x.digest.toArray⟩] 38) = W at *
    have q1 : W.cell? ⟨w.heap.size, 1, none⟩ = some (.int .u64 (x.codec : Nat)) := B0.cell 1
    have q2 : W.cell? ⟨w.heap.size, 2, none⟩ = some (.int .u64 (x.code : Nat)) := B0.cell 2
    have q3 : W.cell? ⟨w.heap.size, 3, none⟩ = some (.string ⟨x.digest.toArray⟩) := B0.cell 3
    have z0 := B0.lt
    go_region_held (fun w' => Below W.heap.size W w' ∧ ∀ b o, b < W.heap.size → w'.cell? ⟨b, o, none⟩ = W.cell? ⟨b, o, none⟩) (first | assumption | exact stay_drew W | exact stay_below ‹_› ‹_› | go_keep) (first | (go_at_call 26; (first | ((with_reducible refine (H.out.1 _).mono ?_); rintro _ wA ⟨vA, rfl, hbA, HA⟩; have iA := HA.out wA (Below.refl _ _)) | ((with_reducible refine (H.out.2.1 _).mono ?_); rintro _ wB ⟨vB, rfl, hbB, HB⟩; have iB := HB.out wB (Below.refl _ _); have iA2 := HA.out wB hbB))) | (go_at_call 47; refine (H.out.2.2 _).mono ?_; rintro _ wC ⟨rfl, hbC⟩; have iB2 := HB.out wC hbC; have iA3 := HA.out wC (Old.trans hbB hbC)))
    all_goals go_wp2_with fail
    all_goals go_ret
    all_goals refine ⟨?_, Old.trans b0 (Old.trans (Old.trans (((Below.refl W.heap.size W).drew).trans hbA) hbB) hbC)⟩
    all_goals rw [List.append_assoc]
    all_goals rfl
end Go.Proofs.YtlafdmmjbkdkaaaGreatDoor

namespace Go.Proofs.YtlafdmmjbkdkaaaGreatDoor
open Go.RowKit

theorem wr_len2 {c : CidL} (hc : c.tidy) (hd : c.digest.length ≤ 4096) : c.wr.length ≤ 5000 ∧ 0 < c.wr.length := by
  have h1 := Lib.uvarint_length64 (x := c.code) (by rcases hc with ⟨_, _, h, _⟩ | ⟨_, _, h⟩ <;> omega)
  have h2 := Lib.uvarint_length64 (x := c.digest.length) (by omega)
  have h3 := Lib.uvarint_length64 (x := c.codec) (by rcases hc with ⟨_, h, _⟩ | ⟨_, h, _⟩ <;> omega)
  have h4 := Lib.uvarint_length64 (x := 1) (by omega)
  have h5 := Lib.uvarint_pos c.code
  unfold CidL.wr
  split
  · simp only [mhWr, List.length_append]; omega
  · simp only [mhWr, List.length_append]; omega

/-- A block: its identifier and its data. -/
structure BlkL where
  c : CidL
  data : List UInt8
/-- Its section. -/
def BlkL.sec (b : BlkL) : List UInt8 := Lib.uvarint (b.c.wr.length + b.data.length) ++ (b.c.wr ++ b.data)
/-- Its value, its cells. -/
def BlkL.val (b : BlkL) : Array Value := #[.int .u64 (b.c.version : Nat), .int .u64 (b.c.codec : Nat), .int .u64 (b.c.code : Nat), .string ⟨b.c.digest.toArray⟩, .string ⟨b.data.toArray⟩]

set_option maxRecDepth 100000 in
set_option maxHeartbeats 4000000 in
theorem specSection_any (y : BlkL) (w : World) (hx : y.c.tidy) (hd : y.c.digest.length ≤ 4096) (hda : y.data.length ≤ 1000000) :
    Calls Tryz.prog 13 #[.agg y.val] w fun e w' => e = .returned (.string ⟨y.sec.toArray⟩) ∧ Below w.heap.size w w' := by
  have b0 := Old.alloc (Below.refl w.heap.size w) (.cells y.val 41)
  have B0 := Blk.new w 41 y.val
  have hC := fun W => specCidBytes_any y.c W hx (by omega)
  have hwl := wr_len2 hx hd
  have hA := fun W => specVarint_cv ((y.c.wr.length + y.data.length : Nat) : Int) W (by omega) (by omega)
  rw [Int.toNat_natCast] at hA
  have hs : y.sec = Lib.uvarint (y.c.wr.length + y.data.length) ++ (y.c.wr ++ y.data) := rfl
  have hl1 := Lib.uvarint_length64 (x := y.c.wr.length + y.data.length) (by omega)
  obtain ⟨U, hU⟩ : ∃ U, Lib.uvarint (y.c.wr.length + y.data.length) = U := ⟨_, rfl⟩
  rw [hU] at hA hl1 hs
  rw [hs]
  obtain ⟨R, hR⟩ : ∃ R, y.c.wr = R := ⟨_, rfl⟩
  rw [hR] at hA hC hwl ⊢
  have hRl := hwl.1
  have happ := sp_app
  obtain ⟨⟨v, c, k, d⟩, da⟩ := y
  simp only [BlkL.val] at *
  obtain ⟨T, hT⟩ : ∃ T : Int, (R.length : Int) + (da.length : Int) = T := ⟨_, rfl⟩
  have hTn : ((R.length + da.length : Nat) : Int) = T := by omega
  rw [hTn] at hA
  have hwn : IntKind.i64.wrap T = T := by rw [IntKind.wrap_i64]; omega
  have hwu : IntKind.u64.wrap T = T := by rw [IntKind.wrap_u64]; omega
  have hT0 : 0 ≤ T := by omega
  have hT1 : T ≤ 1000000000 := by omega
  have H := Lib.hid (And.intro hA hC)
  have HW := Lib.hid (And.intro hwn (And.intro hwu hT))
  clear hA hC hU hR hs hwl hx hwn hwu hT hTn
  go_enter Tryz.func13, Tryz.ntmps13
  go_wp2_with fail
  generalize w.alloc (.cells #[.int .u64 (v : Nat), .int .u64 (c : Nat), .int .u64 (k : Nat), .string ⟨d.toArray⟩, .string ⟨da.toArray⟩] 41) = W at *
  refine (H.out.2 W).mono ?_
  rintro e w1 ⟨rfl, b1⟩
  have B1 := B0.old b1
  have q4 : w1.cell? ⟨w.heap.size, 4, none⟩ = some (.string ⟨da.toArray⟩) := B1.cell 4
  have z1 := B1.lt
  have hwn := HW.out.1
  have hwu := HW.out.2.1
  have hT := HW.out.2.2
  go_wp2_with fail
  go_region_held (fun w' => w'.cell? ⟨w.heap.size, 4, none⟩ = some (.string ⟨da.toArray⟩)) (first | assumption | exact (hbA.cell (p := ⟨w.heap.size, 4, none⟩) z1).trans q4 | go_keep) (first | (go_at_call 26; refine (H.out.1 _).mono ?_; rintro _ wA ⟨vA, rfl, hbA, HA⟩; have iA := HA.out wA (Below.refl _ _)))
  all_goals go_wp2_with fail
  all_goals go_ret
  all_goals refine ⟨?_, Old.trans b0 (Old.trans b1 (((Below.refl w1.heap.size w1).drew).trans hbA))⟩
  all_goals rfl
end Go.Proofs.YtlafdmmjbkdkaaaGreatDoor

namespace Go.Proofs.YtlafdmmjbkdkaaaGreatDoor
open Go.RowKit

theorem bs_from {w : World} {g o : Nat} {l : List UInt8} (h : Bs w g o l) (k : Nat) : Bs w g (o + k) (l.drop k) := by
  intro j hj
  simp only [List.length_drop] at hj
  rw [List.getElem_drop, show o + k + j = o + (k + j) from by omega]
  exact h (k + j) (by omega)
end Go.Proofs.YtlafdmmjbkdkaaaGreatDoor

namespace Go.Proofs.YtlafdmmjbkdkaaaGreatDoor
open Go.RowKit

set_option maxRecDepth 100000 in
set_option maxHeartbeats 2000000 in
theorem mhCast_any (g o n c : Nat) (m d : List UInt8) (code : Nat) (w : World) (hn : n = m.length) (hl : m.length ≤ 2147483647) (hlc : m.length ≤ c) (hc : Bs w g o m) (hg : g < w.heap.size) (hr : mhRd m = some (code, d, m.length))
    (e0 : Er w 10) (e1 : Er w 11) (e2 : Er w 19) (e3 : Er w 22) :
    Calls Tryz.prog 142 #[.slice (some ⟨g, o, none⟩) n c] w fun e w' => e = .returned (.tuple #[.slice (some ⟨g, o, none⟩) n c, .nilIface]) ∧ Below w.heap.size w w' := by
  have HN := Lib.hid hn
  have hdec := mhDecode_any g o n c m w hn hl hlc hc hg e0 e1 e2 e3
  rw [hr] at hdec
  have HD := Lib.hid hdec
  clear hdec hn hr hc
  go_enter Tryz.func142, Tryz.ntmps142
  go_wp2_with fail
  refine HD.out.mono ?_
  rintro e w1 ⟨b1, hy, _⟩
  obtain ⟨b, o2, cc, rfl, B1, _, _⟩ := hy rfl
  clear hy
  go_wp2_with fail
  go_ret2
  exact ⟨rfl, b1⟩

/-- What bytes are that begin with an identifier of version 0. -/
theorem cdRd_v0 {l : List UInt8} {x : CidL} {k : Nat} (h : cdRd l = some (x, k)) (hv : isV0 l = true) : k = 34 ∧ 34 ≤ l.length ∧ l[0]? = some 18 ∧ l[1]? = some 32 ∧ x.wr = l.take 34 ∧ mhRd (l.take 34) = some (18, x.digest, 34) := by
  obtain ⟨ht, h1, h2, h3, h4, h5⟩ := cdRd_some h
  rw [cdRd, if_pos hv] at h
  split at h
  · cases h
  · injection h with h
    injection h with h6 h7
    subst h6 h7
    simp [isV0] at hv
    have hw := wr_v0 ht rfl
    refine ⟨rfl, h1, hv.1.2, hv.2, h4.symm, ?_⟩
    rw [h4, CidL.wr, if_pos rfl]
    have := mhRd_mhWr 18 ((l.drop 2).take 32) [] (by omega) (by have := hw.2.1; simp only at this; omega)
    rw [List.append_nil] at this
    rw [this]
    have hl := h5
    rw [CidL.wr, if_pos rfl] at hl
    rw [← hl]
/-- What bytes are that begin with an identifier of version 1. -/
theorem cdRd_v1 {l : List UInt8} {x : CidL} {k : Nat} (h : cdRd l = some (x, k)) (hv : isV0 l = false) : ∃ m j, l[0]? = some 1 ∧ 3 < l.length ∧ uvRd l 0 0 = .ok 1 1 ∧ uvRd (l.drop 1) 0 0 = .ok x.codec m ∧ mhRd (l.drop (1 + m)) = some (x.code, x.digest, j) ∧ k = 1 + m + j ∧ k ≤ l.length ∧ x.wr = l.take k ∧ 1 + m + 1 < l.length := by
  obtain ⟨ht, h1, h2, h3, h4, h5⟩ := cdRd_some h
  rw [cdRd, hv, if_neg (by simp)] at h
  split at h
  · rename_i v n1 u1
    split at h
    · rename_i hv1
      split at h
      · rename_i codec m u2
        split at h
        · rename_i code d j u3
          injection h with h
          injection h with h6 h7
          subst h6 h7 hv1
          obtain ⟨a1, a2, a3, a4⟩ := uvRd_ok0 u1
          obtain ⟨b1, b2, b3, b4⟩ := uvRd_ok0 u2
          obtain ⟨_, _, _, _, _, c1, c2, c3, c4, _⟩ := mhRd_some u3
          obtain ⟨f1, f2⟩ := uvRd_canon0 u1
          rw [uv1] at f1 f2
          simp only [List.length_cons, List.length_nil] at f2
          subst f2
          rw [List.length_drop] at b2 c2
          refine ⟨m, j, ?_, by omega, u1, u2, u3, rfl, h1, h4.symm, by omega⟩
          match l, f1 with
          | y :: l', f1 => simp at f1; simp [f1]
        · cases h
      · cases h
    · cases h
  · cases h

set_option maxRecDepth 100000 in
set_option maxHeartbeats 2000000 in
theorem cidFromBytes_ok (g o n c : Nat) (l : List UInt8) (x : CidL) (k : Nat) (w : World) (hn : n = l.length) (hl : l.length ≤ 2147483647) (hlc : l.length ≤ c) (hc : Bs w g o l) (hg : g < w.heap.size) (hr : cdRd l = some (x, k))
    (e0 : Er w 10) (e1 : Er w 11) (e2 : Er w 19) (e3 : Er w 22) :
    Calls Tryz.prog 125 #[.slice (some ⟨g, o, none⟩) n c] w fun e w' => e = .returned (.tuple #[.int .i64 k, .agg #[.string ⟨x.wr.toArray⟩], .nilIface]) ∧ Below w.heap.size w w' := by
  have q0 : ∀ y, l[0]? = some y → w.cell? ⟨g, o, none⟩ = some (.int .u8 ((y.toNat : Nat) : Int)) := by
    intro y hy
    obtain ⟨h, rfl⟩ := List.getElem?_eq_some_iff.1 hy
    exact hc 0 h
  have q1 : ∀ y, l[1]? = some y → w.cell? ⟨g, o + 1, none⟩ = some (.int .u8 ((y.toNat : Nat) : Int)) := by
    intro y hy
    obtain ⟨h, rfl⟩ := List.getElem?_eq_some_iff.1 hy
    exact hc 1 h
  by_cases hv : isV0 l = true
  · obtain ⟨rfl, h34, y0, y1, hw, hm⟩ := cdRd_v0 hr hv
    have q0 := q0 _ y0
    have q1 := q1 _ y1
    have hlt : (l.take 34).length = 34 := by simp; omega
    have HN := Lib.hid (And.intro hn (And.intro hm (And.intro hlt hw)))
    have hd2 : 2 < n := by omega
    have hd34 : 34 ≤ n := by omega
    have hcap : 34 ≤ c := by omega
    have bA : Below w.heap.size w (w.alloc (.cells #[.string ⟨#[]⟩] 193)) := Old.alloc (Below.refl _ _) _
    have BA := Blk.new w 193 #[.string ⟨#[]⟩]
    clear hm hw hr y0 y1 hv hn hlt
    go_enter Tryz.func125, Tryz.ntmps125
    go_wp2_with fail
    generalize w.alloc (.cells #[.string ⟨#[]⟩] 193) = W at *
    have hc1 : Bs W g o (l.take 34) := (hc.old bA).take 34
    refine (mhCast_any g o 34 c (l.take 34) x.digest 18 W HN.out.2.2.1.symm (by rw [HN.out.2.2.1]; omega) (by rw [HN.out.2.2.1]; exact hcap) hc1 (Nat.lt_of_lt_of_le hg bA.size) (by rw [HN.out.2.2.1]; exact HN.out.2.1) (e0.old bA) (e1.old bA) (e2.old bA) (e3.old bA)).mono ?_
    rintro e w1 ⟨rfl, b1⟩
    have b01 := Old.trans bA b1
    have BX := BA.old b1
    have qX : w1.cell? ⟨w.heap.size, 0, none⟩ = some (.string ⟨#[]⟩) := BX.cell 0
    have fX := BX.frozen 0
    have hcv : (convert 250 9 (.slice (some ⟨g, o, none⟩) 34 c)).run Tryz.prog w1.drew = .ok (.string ⟨(l.take 34).toArray⟩) w1.drew := conv_str (P := Tryz.prog) Tryz.underlying250 Tryz.underlying5 Tryz.underlying9 (n := 34) (c := c) ((hc1.old b1).drewN 1) HN.out.2.2.1.symm
    clear BA b1 bA hc hc1 q0 q1
    go_wp2_with fail
    refine wp_region_noPanic ?_
    go_region_with (fail)
    all_goals refine NoPanic.normal ?_
    all_goals go_wp2_with fail
    rw [HN.out.2.2.2]
    refine bodyPost_ret (ret_tmp_cell_tmp rfl rfl (BX.set_ 0 (.string ⟨(l.take 34).toArray⟩)) Tryz.underlying193 (by kernel_rfl)) rfl ?_
    exact ⟨rfl, RowKit.Below.drew (b01.setCell (p := ⟨w.heap.size, 0, none⟩) (Nat.le_refl _) _)⟩
  · obtain ⟨m, j, y0, h3, r1, r2, r3, hk, hkl, hw, hml⟩ := cdRd_v1 hr (by simpa using hv)
    have q0 := q0 _ y0
    have HN := Lib.hid (And.intro hn (And.intro r1 (And.intro r2 (And.intro r3 hw))))
    have hd2 : 2 < n := by omega
    have bA : Below w.heap.size w (w.alloc (.cells #[.string ⟨#[]⟩] 193)) := Old.alloc (Below.refl _ _) _
    have BA := Blk.new w 193 #[.string ⟨#[]⟩]
    clear hr y0 hv r1 r2 r3 hw
    have hcn : n ≤ c := by omega
    have hmn : 1 + m ≤ n := by omega
    have hmc : c ≠ 1 + m := by omega
    have hc1' : c ≠ 1 := by omega
    clear hn
    go_enter Tryz.func125, Tryz.ntmps125
    go_wp2_with fail
    generalize w.alloc (.cells #[.string ⟨#[]⟩] 193) = W at *
    have hc1 := hc.old bA
    have hf := fromUvarint_any g o c l W (by omega) hc1 (e0.old bA) (e1.old bA) (e2.old bA)
    rw [HN.out.2.1, ← HN.out.1] at hf
    refine hf.mono ?_
    clear hf
    rintro e w1 ⟨⟨k1, rfl⟩, rfl⟩
    go_wp2_with fail
    have hbs2 := (bs_from hc1 1).drewN k1
    have hf := fromUvarint_any g (o + 1) (c - 1) (l.drop 1) (W.drewN k1) (by rw [List.length_drop]; omega) hbs2 (e0.old (below_drewN bA k1)) (e1.old (below_drewN bA k1)) (e2.old (below_drewN bA k1))
    rw [List.length_drop, HN.out.2.2.1, ← HN.out.1] at hf
    refine hf.mono ?_
    clear hf hbs2
    rintro e w2 ⟨⟨k2, rfl⟩, rfl⟩
    go_wp2_with fail
    have hbs3 := (bs_from hc1 (1 + m)).drewN (k1 + k2)
    have b3 := below_drewN bA (k1 + k2)
    have hmf := mhFromBytes_any g (o + (1 + m)) (n - (1 + m)) (c - (1 + m)) (l.drop (1 + m)) (W.drewN (k1 + k2)) (by rw [List.length_drop, HN.out.1]) (by rw [List.length_drop]; omega) (by rw [List.length_drop, ← HN.out.1]; omega) hbs3 (e0.old b3) (e1.old b3) (e2.old b3) (e3.old b3)
    rw [HN.out.2.2.2.1] at hmf
    refine hmf.mono ?_
    clear hmf hbs3
    rintro e w3 ⟨b4, rfl⟩
    have b04 := Old.trans b3 b4
    have BX := (BA.drewN (k1 + k2)).old b4
    have qX : w3.cell? ⟨w.heap.size, 0, none⟩ = some (.string ⟨#[]⟩) := BX.cell 0
    have fX := BX.frozen 0
    have hkn : (l.take k).length = k := by rw [List.length_take, Nat.min_eq_left hkl]
    have hcv : (convert 45 9 (.slice (some ⟨g, o, none⟩) k c)).run Tryz.prog w3.drew = .ok (.string ⟨(l.take k).toArray⟩) w3.drew := conv_str (P := Tryz.prog) Tryz.underlying45 Tryz.underlying5 Tryz.underlying9 (n := k) (c := c) ((((hc1.drewN (k1 + k2)).old b4).take k).drewN 1) hkn.symm
    have hk' : 1 + m + j = k := hk.symm
    have hkN : k ≤ n := by rw [HN.out.1]; exact hkl
    have hkI : (1 : Int) + m + j = k := by omega
    have HK := Lib.hid hk
    clear BA b3 b4 bA hc hc1 q0 hk hkn
    go_wp2_with fail
    refine wp_region_noPanic ?_
    go_region_with (fail)
    all_goals refine NoPanic.normal ?_
    all_goals go_wp2_with fail
    all_goals rw [HN.out.2.2.2.2]
    all_goals refine bodyPost_ret (ret_tmp_cell_tmp rfl rfl (BX.set_ 0 (.string ⟨(l.take k).toArray⟩)) Tryz.underlying193 (by kernel_rfl)) rfl ?_
    all_goals exact ⟨rfl, RowKit.Below.drew (b04.setCell (p := ⟨w.heap.size, 0, none⟩) (Nat.le_refl _) _)⟩

end Go.Proofs.YtlafdmmjbkdkaaaGreatDoor

namespace Go.Proofs.YtlafdmmjbkdkaaaGreatDoor
open Go.RowKit

theorem ba_app (a b : List UInt8) : (⟨a.toArray⟩ : ByteArray) ++ ⟨b.toArray⟩ = ⟨(a ++ b).toArray⟩ := by
  apply ByteArray.ext
  simp

/-- An identifier as the thin package has it. -/
abbrev cidV (x : CidL) : Value := .agg #[.int .u64 x.version, .int .u64 x.codec, .int .u64 x.code, .string ⟨x.digest.toArray⟩]

set_option maxRecDepth 100000 in
theorem zzFits1_any (a b c : Value) (d : List UInt8) (w : World) (hd : d.length ≤ 9223372036854775807) :
    Calls Tryz.prog 22 #[.agg #[a, b, c, .string ⟨d.toArray⟩]] w fun e w' => e = .returned (.bool (decide (d.length ≤ 2147483647))) ∧ Below w.heap.size w w' := by
  go_enter Tryz.func22, Tryz.ntmps22
  go_wp2_with fail
  all_goals go_ret
  all_goals refine ⟨?_, (Below.refl _ _).alloc (Nat.le_refl _) _⟩
  all_goals simp
  all_goals omega

/-- Whether an identifier is tidy. -/
def tidyB (v c k : Int) (d : List UInt8) : Bool := if v = 0 then (decide (c = 112) && decide (k = 18) && decide (d.length = 32)) else (decide (v = 1) && decide (c < 9223372036854775808) && decide (k < 9223372036854775808))

set_option maxRecDepth 100000 in
set_option maxHeartbeats 2000000 in
theorem tidy_any (v c k : Int) (d : List UInt8) (w : World) (_ : d.length ≤ 9223372036854775807) :
    Calls Tryz.prog 11 #[.agg #[.int .u64 v, .int .u64 c, .int .u64 k, .string ⟨d.toArray⟩]] w fun e w' => e = .returned (.bool (tidyB v c k d)) ∧ Below w.heap.size w w' := by
  go_enter Tryz.func11, Tryz.ntmps11
  go_wp2_with fail
  all_goals go_ret
  all_goals refine ⟨?_, (Below.refl _ _).alloc (Nat.le_refl _) _⟩
  all_goals simp_all [tidyB]
  · exact Bool.eq_iff_iff.2 (by simp; omega)
  · omega

theorem tidyB_iff (x : CidL) : tidyB x.version x.codec x.code x.digest = true ↔ x.tidy := by
  unfold tidyB CidL.tidy
  by_cases h : (x.version : Int) = 0
  · rw [if_pos h]; simp; omega
  · rw [if_neg h]; simp; omega

end Go.Proofs.YtlafdmmjbkdkaaaGreatDoor

namespace Go.Proofs.YtlafdmmjbkdkaaaGreatDoor
open Go.RowKit

set_option maxRecDepth 100000 in
theorem zzFits1_b (a b c : Value) (d : List UInt8) (w : World) (hd : d.length ≤ 9223372036854775807) :
    Calls Tryz.prog 22 #[.agg #[a, b, c, .string ⟨d.toArray⟩]] w fun e w' => e = .returned (.bool (decide (d.length ≤ 2147483647))) ∧ Below w.heap.size w w' := by
  go_enter Tryz.func22, Tryz.ntmps22
  go_wp2_with fail
  all_goals go_ret
  all_goals refine ⟨?_, (Below.refl _ _).alloc (Nat.le_refl _) _⟩
  all_goals simp
  all_goals omega

set_option maxRecDepth 100000 in
set_option maxHeartbeats 2000000 in
theorem zzFits2_any (a : Option Addr) (n c : Nat) (L : List CidL) (w : World) (hL : L.length = n) (hn : n ≤ 9223372036854775807) (hf : ∀ x ∈ L, x.fit) (h : n = 0 ∨ ∃ b off, a = some ⟨b, off, none⟩ ∧ Cs w b off L) :
    Calls Tryz.prog 9 #[.slice a n c] w fun e w' => (∃ B, e = .returned (.bool B) ∧ (B = true → n ≤ 2147483647)) ∧ Below w.heap.size w w' := by
  by_cases hz : n ≤ 2147483647
  · have hzd : decide ((2147483647 : Int) < (n : Int)) = false := by simp; omega
    have HF := Lib.hid (And.intro hL (And.intro hf h))
    clear hL hf h
    go_enter Tryz.func9, Tryz.ntmps9
    go_wp2_with fail
    go_loopw [10] (fun i wr => ∃ k : Nat, k ≤ n ∧ i = .int .i64 k ∧ Below w.heap.size w wr) (fun i _ => n - (intOf i).toNat)
    case atStart => exact ⟨0, Nat.zero_le _, rfl, Below.refl _ _⟩
    case round =>
      obtain ⟨k, hk, rfl, hB⟩ := hrel
      by_cases hkn : k < n
      · obtain h0 | ⟨b, off, rfl, hcs⟩ := HF.out.2.2
        · omega
        · have hkL : k < L.length := by rw [HF.out.1]; exact hkn
          obtain ⟨c0, c1, c2, c3⟩ := (hcs.old hB) k hkL
          have hfit := HF.out.2.1 L[k] (List.getElem_mem hkL)
          obtain ⟨x, hx⟩ : ∃ x, L[k] = x := ⟨_, rfl⟩
          rw [hx] at c0 c1 c2 c3 hfit
          have hkI : (k : Int) < (n : Int) := by omega
          have HX := Lib.hid hfit
          clear hcs hfit hx
          have hB1 := Old.alloc hB (.cells #[.int .u64 (x.version : Nat), .int .u64 (x.codec : Nat), .int .u64 (x.code : Nat), .string ⟨x.digest.toArray⟩] 38)
          go_wp2_with fail
          refine (zzFits1_b _ _ _ _ _ HX.out.2.2.2).mono ?_
          rintro e w1 ⟨rfl, b1⟩
          have hB2 := Old.trans hB1 b1
          obtain ⟨Z, hZ⟩ : ∃ Z, decide (x.digest.length ≤ 2147483647) = Z := ⟨_, rfl⟩
          rw [hZ]
          clear hZ c0 c1 c2 c3
          cases Z
          · go_wp2_with fail
            go_ret
            exact ⟨⟨_, rfl, fun h => by cases h⟩, hB2⟩
          · go_wp2_with fail
            all_goals go_roundw
            case rel => exact ⟨k + 1, hkn, by go_num, hB2⟩
            case measure => simp [intOf]; omega
      · have hkn' : k = n := by omega
        subst hkn'
        go_wp2_with fail
        go_ret
        exact ⟨⟨_, rfl, fun _ => hz⟩, hB⟩
  · have hzd : decide ((2147483647 : Int) < (n : Int)) = true := by simp; omega
    have HF := Lib.hid hz
    clear hz h
    go_enter Tryz.func9, Tryz.ntmps9
    go_wp2_with fail
    go_ret
    exact ⟨⟨_, rfl, fun h => by cases h⟩, Below.refl _ _⟩
end Go.Proofs.YtlafdmmjbkdkaaaGreatDoor

namespace Go.Proofs.YtlafdmmjbkdkaaaGreatDoor
open Go.RowKit Go.ChangeShapes Go.WideShapes Go.ChangeAt Go.Joins Go.Deep

/-- A block that a call can be handed. -/
def BlkL.fit (x : BlkL) : Prop := x.c.fit ∧ x.data.length ≤ 9223372036854775807

/-- From cell off of block b on lie the blocks L, one behind the other. -/
def Bks (w : World) (b off : Nat) (L : List BlkL) : Prop := ∀ (i : Nat) (h : i < L.length), w.cell? ⟨b, off + i * 5, none⟩ = some (.int .u64 (L[i].c.version : Nat)) ∧ w.cell? ⟨b, off + i * 5 + 1, none⟩ = some (.int .u64 (L[i].c.codec : Nat)) ∧
  w.cell? ⟨b, off + i * 5 + 2, none⟩ = some (.int .u64 (L[i].c.code : Nat)) ∧ w.cell? ⟨b, off + i * 5 + 3, none⟩ = some (.string ⟨L[i].c.digest.toArray⟩) ∧ w.cell? ⟨b, off + i * 5 + 4, none⟩ = some (.string ⟨L[i].data.toArray⟩)
theorem Bks.old {w w' : World} {b off : Nat} {L : List BlkL} (h : Bks w b off L) (hb : Below w.heap.size w w') : Bks w' b off L := fun i hi => by
  obtain ⟨h0, h1, h2, h3, h4⟩ := h i hi
  have hlt : b < w.heap.size := World.block_lt_of_cell? w _ h0
  exact ⟨(hb.cell (p := ⟨b, _, none⟩) hlt).trans h0, (hb.cell (p := ⟨b, _, none⟩) hlt).trans h1, (hb.cell (p := ⟨b, _, none⟩) hlt).trans h2, (hb.cell (p := ⟨b, _, none⟩) hlt).trans h3, (hb.cell (p := ⟨b, _, none⟩) hlt).trans h4⟩

instance : Inhabited BlkL := ⟨⟨⟨0, 0, 0, []⟩, []⟩⟩

/-- One block's cells. -/
theorem open_block_cells {H : Type} {enc : TypeId × Value → H} {P : Program} {w : World} {base : Nat} {spare : Nat → Bool} {held : Bool} {e : TypeId} {g0 g1 f0 f1 f2 f3 : Field} {fuel : Nat} {cs : List Value} {x : DataW H × List MemPlace}
    (he : P.underlying e = some (.struct #[g0, g1])) (p0 : g0.offset = 0) (p1 : g1.offset = 4) (k0 : P.cellsOf g0.type = 4) (k1 : P.cellsOf g1.type = 1) (hc : P.underlying g0.type = some (.struct #[f0, f1, f2, f3])) (o0 : f0.offset = 0) (o1 : f1.offset = 1) (o2 : f2.offset = 2) (o3 : f3.offset = 3)
    (c0 : P.cellsOf f0.type = 1) (c1 : P.cellsOf f1.type = 1) (c2 : P.cellsOf f2.type = 1) (c3 : P.cellsOf f3.type = 1) (t0 : P.underlying f0.type = some (.int .u64)) (t1 : P.underlying f1.type = some (.int .u64)) (t2 : P.underlying f2.type = some (.int .u64)) (t3 : P.underlying f3.type = some .string) (t4 : P.underlying g1.type = some .string)
    (h : DataW.trod enc P w base spare held fuel e cs = some x) :
    ∃ y : BlkL, y.fit ∧ cs[0]? = some (.int .u64 (y.c.version : Nat)) ∧ cs[1]? = some (.int .u64 (y.c.codec : Nat)) ∧ cs[2]? = some (.int .u64 (y.c.code : Nat)) ∧ cs[3]? = some (.string ⟨y.c.digest.toArray⟩) ∧ cs[4]? = some (.string ⟨y.data.toArray⟩) := by
  obtain ⟨z0, z1, n, _, _, q0, q1⟩ := trod_struct2 he h
  rw [p0, k0] at q0
  rw [p1, k1] at q1
  obtain ⟨y0, y1, y2, y3, k, _, _, g0, g1, g2, g3⟩ := trod_struct4 hc q0
  rw [o0, c0] at g0
  rw [o1, c1] at g1
  rw [o2, c2] at g2
  rw [o3, c3] at g3
  obtain ⟨n0, e0, _, w0⟩ := DataW.trod_int t0 g0
  obtain ⟨n1, e1, _, w1⟩ := DataW.trod_int t1 g1
  obtain ⟨n2, e2, _, w2⟩ := DataW.trod_int t2 g2
  obtain ⟨s3, e3, _, w3⟩ := DataW.trod_string t3 g3
  obtain ⟨s4, e4, _, w4⟩ := DataW.trod_string t4 q1
  have r0 := take1 e0
  have r1 := take1 e1
  have r2 := take1 e2
  have r3 := take1 e3
  have r4 := take1 e4
  rw [List.getElem?_take_of_lt (by omega), List.getElem?_drop] at r0 r1 r2 r3
  have b0' : 0 ≤ n0 ∧ n0 < 18446744073709551616 := by simp [Lit.wf, IntKind.max, IntKind.min, IntKind.signed, IntKind.bits] at w0; omega
  have b1' : 0 ≤ n1 ∧ n1 < 18446744073709551616 := by simp [Lit.wf, IntKind.max, IntKind.min, IntKind.signed, IntKind.bits] at w1; omega
  have b2' : 0 ≤ n2 ∧ n2 < 18446744073709551616 := by simp [Lit.wf, IntKind.max, IntKind.min, IntKind.signed, IntKind.bits] at w2; omega
  refine ⟨⟨⟨n0.toNat, n1.toNat, n2.toNat, s3.data.toList⟩, s4.data.toList⟩, ⟨⟨by simp only; omega, by simp only; omega, by simp only; omega, w3⟩, w4⟩, ?_, ?_, ?_, ?_, ?_⟩
  · simp only [Int.toNat_of_nonneg b0'.1]; exact r0
  · simp only [Int.toNat_of_nonneg b1'.1]; exact r1
  · simp only [Int.toNat_of_nonneg b2'.1]; exact r2
  · exact r3
  · exact r4

theorem open_blocks {H : Type} {enc : TypeId × Value → H} {P : Program} {w : World} {base : Nat} {spare : Nat → Bool} {held : Bool} {r : Reach} {b0 : Nat} {t e : TypeId} {g0 g1 f0 f1 f2 f3 : Field} {v : Value} {d : DataW H} {p : List MemPlace}
    (ht : P.underlying t = some (.slice e)) (he : P.underlying e = some (.struct #[g0, g1])) (ce : P.cellsOf e = 5) (p0 : g0.offset = 0) (p1 : g1.offset = 4) (k0 : P.cellsOf g0.type = 4) (k1 : P.cellsOf g1.type = 1) (hc : P.underlying g0.type = some (.struct #[f0, f1, f2, f3])) (o0 : f0.offset = 0) (o1 : f1.offset = 1) (o2 : f2.offset = 2) (o3 : f3.offset = 3)
    (c0 : P.cellsOf f0.type = 1) (c1 : P.cellsOf f1.type = 1) (c2 : P.cellsOf f2.type = 1) (c3 : P.cellsOf f3.type = 1) (t0 : P.underlying f0.type = some (.int .u64)) (t1 : P.underlying f1.type = some (.int .u64)) (t2 : P.underlying f2.type = some (.int .u64)) (t3 : P.underlying f3.type = some .string) (t4 : P.underlying g1.type = some .string)
    (hv : Value.okWide P w r b0 t v) (h : DataW.Trod enc P w base spare held t v d p) :
    ∃ (a : Option Addr) (n c : Nat) (L : List BlkL), v = .slice a n c ∧ L.length = n ∧ n ≤ 9223372036854775807 ∧ (∀ x ∈ L, x.fit) ∧ (n = 0 ∨ ∃ b off, a = some ⟨b, off, none⟩ ∧ Bks w b off L) := by
  obtain ⟨a, len, cap, rfl⟩ := okWide_slice ht hv
  obtain ⟨fuel, hf⟩ := h
  rcases open_slice ht hf with ⟨hcs, _⟩ | ⟨a', len', cap', m, n, D, Pl, hcs, _, hl, hm, hmm, _, hx⟩
  · simp [Value.cells] at hcs
    obtain ⟨rfl, rfl, rfl⟩ := hcs
    exact ⟨none, 0, 0, [], rfl, rfl, by omega, by simp, .inl rfl⟩
  · simp [Value.cells] at hcs
    obtain ⟨rfl, rfl, rfl⟩ := hcs
    have hlm : len ≤ m := by rw [hmm]; split <;> omega
    have each : ∀ i, i < len → ∃ x : BlkL, x.fit ∧ w.cell? (a'.add (i * 5)) = some (.int .u64 (x.c.version : Nat)) ∧ w.cell? (a'.add (i * 5 + 1)) = some (.int .u64 (x.c.codec : Nat)) ∧ w.cell? (a'.add (i * 5 + 2)) = some (.int .u64 (x.c.code : Nat)) ∧ w.cell? (a'.add (i * 5 + 3)) = some (.string ⟨x.c.digest.toArray⟩) ∧ w.cell? (a'.add (i * 5 + 4)) = some (.string ⟨x.data.toArray⟩) := by
      intro i hi
      obtain ⟨cs', h1, h2⟩ := hx i (by omega)
      rw [ce] at h1
      obtain ⟨_, hlen, hcell⟩ := World.cells?_some h1
      obtain ⟨y, hy, r0, r1, r2, r3, r4⟩ := open_block_cells he p0 p1 k0 k1 hc o0 o1 o2 o3 c0 c1 c2 c3 t0 t1 t2 t3 t4 h2
      have q0 := hcell 0 (by omega)
      have q1 := hcell 1 (by omega)
      have q2 := hcell 2 (by omega)
      have q3 := hcell 3 (by omega)
      have q4 := hcell 4 (by omega)
      rw [add_add] at q0 q1 q2 q3 q4
      rw [r0] at q0
      rw [r1] at q1
      rw [r2] at q2
      rw [r3] at q3
      rw [r4] at q4
      exact ⟨y, hy, q0, q1, q2, q3, q4⟩
    obtain ⟨f, hF⟩ := choose_lt each
    refine ⟨some a', len, cap, (List.range len).map f, rfl, by simp, by have : cap ≤ 9223372036854775807 := hm; omega, ?_, ?_⟩
    · intro x hxm
      obtain ⟨i, hi, rfl⟩ := List.mem_map.1 hxm
      exact (hF i (List.mem_range.1 hi)).1
    · by_cases h0 : len = 0
      · exact .inl h0
      · right
        obtain ⟨b, off, sp⟩ := a'
        have hs : sp = none := by
          have := (hF 0 (by omega)).2.1
          cases sp with
          | none => rfl
          | some _ =>
            exfalso
            unfold World.cell? at this
            split at this
            · simp [Addr.add] at this
            · cases this
        subst hs
        refine ⟨b, off, rfl, fun i hi => ?_⟩
        simp only [List.length_map, List.length_range] at hi
        obtain ⟨_, g0, g1, g2, g3, g4⟩ := hF i hi
        have hadd : ∀ j, (⟨b, off, none⟩ : Addr).add j = ⟨b, off + j, none⟩ := fun j => by unfold Addr.add; split <;> simp_all
        rw [hadd] at g0 g1 g2 g3 g4
        simp only [List.getElem_map, List.getElem_range]
        exact ⟨g0, g1, g2, g3, g4⟩

set_option maxRecDepth 100000 in
set_option maxHeartbeats 2000000 in
theorem zzFits6_b (y : BlkL) (w : World) (hf : y.fit) :
    Calls Tryz.prog 23 #[.agg y.val] w fun e w' => (∃ B, e = .returned (.bool B) ∧ (B = true → y.data.length ≤ 2147483647)) ∧ Below w.heap.size w w' := by
  obtain ⟨⟨v, k, u, d⟩, D⟩ := y
  unfold BlkL.val
  simp only
  have hd : d.length ≤ 9223372036854775807 := hf.1.2.2.2
  have hD : D.length ≤ 9223372036854775807 := hf.2
  clear hf
  have b0 := (Below.refl w.heap.size w).alloc (Nat.le_refl _) (.cells #[.int .u64 (v : Nat), .int .u64 (k : Nat), .int .u64 (u : Nat), .string ⟨d.toArray⟩, .string ⟨D.toArray⟩] 41)
  have B0 := Blk.new w 41 #[.int .u64 (v : Nat), .int .u64 (k : Nat), .int .u64 (u : Nat), .string ⟨d.toArray⟩, .string ⟨D.toArray⟩]
  go_enter Tryz.func23, Tryz.ntmps23
  go_wp2_with fail
  generalize w.alloc (.cells #[.int .u64 (v : Nat), .int .u64 (k : Nat), .int .u64 (u : Nat), .string ⟨d.toArray⟩, .string ⟨D.toArray⟩] 41) = W at *
  refine (zzFits1_b _ _ _ _ W hd).mono ?_
  rintro e w1 ⟨rfl, b1⟩
  have b2 := Old.trans b0 b1
  have c4 : w1.cell? ⟨w.heap.size, 4, none⟩ = some (.string ⟨D.toArray⟩) := (B0.old b1).cell 4
  clear b0 b1 B0
  obtain ⟨Z, hZ⟩ : ∃ Z, decide (d.length ≤ 2147483647) = Z := ⟨_, rfl⟩
  rw [hZ]
  clear hZ
  cases Z
  · go_wp2_with fail
    go_ret
    exact ⟨⟨_, rfl, fun h => by cases h⟩, b2⟩
  by_cases hz : D.length ≤ 2147483647
  · have hzd : decide ((2147483647 : Int) < (D.length : Int)) = false := by simp; omega
    have HD := Lib.hid hz
    clear hz
    go_wp2_with fail
    go_ret
    exact ⟨⟨_, rfl, fun _ => HD.out⟩, b2⟩
  · have hzd : decide ((2147483647 : Int) < (D.length : Int)) = true := by simp; omega
    clear hz
    go_wp2_with fail
    go_ret
    exact ⟨⟨_, rfl, fun h => by cases h⟩, b2⟩

set_option maxRecDepth 100000 in
set_option maxHeartbeats 2000000 in
theorem zzFits5_any (a : Option Addr) (n c : Nat) (L : List BlkL) (w : World) (hL : L.length = n) (hn : n ≤ 9223372036854775807) (hf : ∀ x ∈ L, x.fit) (h : n = 0 ∨ ∃ b off, a = some ⟨b, off, none⟩ ∧ Bks w b off L) :
    Calls Tryz.prog 10 #[.slice a n c] w fun e w' => (∃ B, e = .returned (.bool B) ∧ (B = true → n ≤ 2147483647)) ∧ Below w.heap.size w w' := by
  by_cases hz : n ≤ 2147483647
  · have hzd : decide ((2147483647 : Int) < (n : Int)) = false := by simp; omega
    have HF := Lib.hid (And.intro hL (And.intro hf h))
    clear hL hf h
    go_enter Tryz.func10, Tryz.ntmps10
    go_wp2_with fail
    go_loopw [10] (fun i wr => ∃ k : Nat, k ≤ n ∧ i = .int .i64 k ∧ Below w.heap.size w wr) (fun i _ => n - (intOf i).toNat)
    case atStart => exact ⟨0, Nat.zero_le _, rfl, Below.refl _ _⟩
    case round =>
      obtain ⟨k, hk, rfl, hB⟩ := hrel
      by_cases hkn : k < n
      · obtain h0 | ⟨b, off, rfl, hcs⟩ := HF.out.2.2
        · omega
        · have hkL : k < L.length := by rw [HF.out.1]; exact hkn
          obtain ⟨c0, c1, c2, c3, c4⟩ := (hcs.old hB) k hkL
          have hfit := HF.out.2.1 L[k] (List.getElem_mem hkL)
          obtain ⟨x, hx⟩ : ∃ x, L[k] = x := ⟨_, rfl⟩
          rw [hx] at c0 c1 c2 c3 c4 hfit
          have hkI : (k : Int) < (n : Int) := by omega
          have HX := Lib.hid (fun W => zzFits6_b x W hfit)
          clear hcs hfit hx
          have hB1 := Old.alloc hB (.cells #[.int .u64 (x.c.version : Nat), .int .u64 (x.c.codec : Nat), .int .u64 (x.c.code : Nat), .string ⟨x.c.digest.toArray⟩, .string ⟨x.data.toArray⟩] 41)
          go_wp2_with fail
          refine (HX.out _).mono ?_
          rintro e w1 ⟨⟨Z, rfl, hZ⟩, b1⟩
          have hB2 := Old.trans hB1 b1
          clear hZ c0 c1 c2 c3 c4
          cases Z
          · go_wp2_with fail
            go_ret
            exact ⟨⟨_, rfl, fun h => by cases h⟩, hB2⟩
          · go_wp2_with fail
            all_goals go_roundw
            case rel => exact ⟨k + 1, hkn, by go_num, hB2⟩
            case measure => simp [intOf]; omega
      · have hkn' : k = n := by omega
        subst hkn'
        go_wp2_with fail
        go_ret
        exact ⟨⟨_, rfl, fun _ => hz⟩, hB⟩
  · have hzd : decide ((2147483647 : Int) < (n : Int)) = true := by simp; omega
    have HF := Lib.hid hz
    clear hz h
    go_enter Tryz.func10, Tryz.ntmps10
    go_wp2_with fail
    go_ret
    exact ⟨⟨_, rfl, fun h => by cases h⟩, Below.refl _ _⟩
end Go.Proofs.YtlafdmmjbkdkaaaGreatDoor
