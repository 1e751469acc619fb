/-
  The walks of spec.MultihashBytes, spec.CidBytes. Conditions: as each contract says.
-/
import Derived.Test.YtaionnajhgjekaaDoorCdW
import Derived.Test.YtaionnajhgjekaaDoorUvI
import Derived.Deep.RegionWith
import Derived.Deep.RegionHeld3
namespace Go.Proofs.YtaionnajhgjekaaDoor
open Go.RowKit

theorem sp_app (a b : List UInt8) : (⟨a.toArray⟩ : ByteArray) ++ ⟨b.toArray⟩ = ⟨(a ++ b).toArray⟩ := by
  apply ByteArray.ext
  simp

/-- spec.Varint: what string makes of its bytes, then and later. -/
theorem specVarint_cv (n : Int) (w : World) (h0 : 0 ≤ n) (h1 : n < 18446744073709551616) :
    Calls Tryd.prog 30 #[.int .u64 n] w fun e w' => ∃ v, e = .returned v ∧ Below w.heap.size w w' ∧ Hid (∀ W', Below w'.heap.size w' W' → (convert 48 9 v).run Tryd.prog W' = .ok (.string ⟨(Lib.uvarint n.toNat).toArray⟩) W') := by
  refine (specVarint_any n w h0 h1).mono ?_
  rintro e w1 ⟨g, cap, rfl, hg, hl, hbs, hb⟩
  exact ⟨_, rfl, hb, Lib.hid (fun W' hW => conv_str (P := Tryd.prog) Tryd.underlying48 Tryd.underlying5 Tryd.underlying9 (c := cap) (hbs.old hW) rfl)⟩

set_option maxRecDepth 100000 in
set_option maxHeartbeats 2000000 in
theorem specMhBytes_any (code : Nat) (d : List UInt8) (w : World) (hc : code < 18446744073709551616) (hd : d.length ≤ 1000000000) :
    Calls Tryd.prog 42 #[.int .u64 code, .string ⟨d.toArray⟩] w fun e w' => e = .returned (.string ⟨(mhWr code d).toArray⟩) ∧ Below w.heap.size w w' := by
  have happ := sp_app
  have hA := fun W => specVarint_cv (code : Int) W (by omega) (by omega)
  have hB := fun W => specVarint_cv (d.length : Int) W (by omega) (by omega)
  rw [Int.toNat_natCast] at hA hB
  have hw : mhWr code d = Lib.uvarint code ++ Lib.uvarint d.length ++ d := rfl
  have hl1 := Lib.uvarint_length64 hc
  have hl2 := Lib.uvarint_length64 (x := d.length) (by omega)
  rw [hw]
  obtain ⟨U, hU⟩ : ∃ U, Lib.uvarint code = U := ⟨_, rfl⟩
  obtain ⟨V, hV⟩ : ∃ V, Lib.uvarint d.length = V := ⟨_, rfl⟩
  rw [hU] at hA hl1 ⊢
  rw [hV] at hB hl2 ⊢
  have H := Lib.hid (And.intro hA hB)
  clear hA hB hU hV hw
  have hwn : IntKind.u64.wrap (d.length : Int) = d.length := by rw [IntKind.wrap_u64]; omega
  go_enter Tryd.func42, Tryd.ntmps42
  go_wp2_with fail
  go_region_with (go_at_call 30; (first | ((with_reducible refine (H.out.1 _).mono ?_); rintro _ wA ⟨vA, rfl, hbA, HA⟩; have iA := HA.out wA (Below.refl _ _)) | ((with_reducible refine (H.out.2 _).mono ?_); rintro _ wB ⟨vB, rfl, hbB, HB⟩; have iB := HB.out wB (Below.refl _ _); have iA2 := HA.out wB hbB)))
  all_goals go_wp2_with fail
  all_goals go_ret
  all_goals refine ⟨?_, Old.trans (((Below.refl w.heap.size w).drew).trans hbA) hbB⟩
  all_goals rw [List.append_assoc]
  all_goals rfl

set_option maxRecDepth 100000 in
set_option maxHeartbeats 4000000 in
theorem specCidBytes_any (x : CidL) (w : World) (hx : x.tidy) (hd : x.digest.length ≤ 1000000) :
    Calls Tryd.prog 29 #[.agg #[.int .u64 x.version, .int .u64 x.codec, .int .u64 x.code, .string ⟨x.digest.toArray⟩]] w fun e w' => e = .returned (.string ⟨x.wr.toArray⟩) ∧ Below w.heap.size w w' := by
  have b0 := Old.alloc (Below.refl w.heap.size w) (.cells #[.int .u64 (x.version : Nat), .int .u64 (x.codec : Nat), .int .u64 (x.code : Nat), .string ⟨x.digest.toArray⟩] 38)
  have B0 := Blk.new w 38 #[.int .u64 (x.version : Nat), .int .u64 (x.codec : Nat), .int .u64 (x.code : Nat), .string ⟨x.digest.toArray⟩]
  have hcode : x.code < 9223372036854775808 ∧ x.codec < 9223372036854775808 := by rcases hx with ⟨_, h1, h2, _⟩ | ⟨_, h1, h2⟩ <;> omega
  have hM := fun W => specMhBytes_any x.code x.digest W (by omega) (by omega)
  have hml : (mhWr x.code x.digest).length ≤ 2000000 := by
    have h1 := Lib.uvarint_length64 (x := x.code) (by omega)
    have h2 := Lib.uvarint_length64 (x := x.digest.length) (by omega)
    simp only [mhWr, List.length_append]; omega
  by_cases hv : x.version = 0
  · have hw : x.wr = mhWr x.code x.digest := by rw [CidL.wr, if_pos hv]
    have hv0 : ((x.version : Int) == 0) = true := by simp [hv]
    rw [hw]
    have HM := Lib.hid (And.intro hM hv)
    clear hM hw hx hv
    go_enter Tryd.func29, Tryd.ntmps29
    go_wp2_with fail
    refine (HM.out.1 _).mono ?_
    rintro e w1 ⟨rfl, b1⟩
    go_wp2_with fail
    go_ret
    exact ⟨rfl, Old.trans b0 b1⟩
  · have hw : x.wr = Lib.uvarint 1 ++ Lib.uvarint x.codec ++ mhWr x.code x.digest := by rw [CidL.wr, if_neg hv]
    have hv0 : ((x.version : Int) == 0) = false := by simp [hv]
    rw [hw]
    have happ := sp_app
    have hA := fun W => specVarint_cv 1 W (by omega) (by omega)
    have hB := fun W => specVarint_cv (x.codec : Int) W (by omega) (by omega)
    rw [Int.toNat_natCast] at hB
    rw [show Int.toNat 1 = 1 from rfl] at hA
    have hl1 := Lib.uvarint_length64 (x := 1) (by omega)
    have hl2 := Lib.uvarint_length64 (x := x.codec) (by omega)
    obtain ⟨U, hU⟩ : ∃ U, Lib.uvarint 1 = U := ⟨_, rfl⟩
    obtain ⟨V, hV⟩ : ∃ V, Lib.uvarint x.codec = V := ⟨_, rfl⟩
    obtain ⟨m, hm⟩ : ∃ m, mhWr x.code x.digest = m := ⟨_, rfl⟩
    rw [hU] at hA hl1 ⊢
    rw [hV] at hB hl2 ⊢
    rw [hm] at hM hml ⊢
    have H := Lib.hid (And.intro hA (And.intro hB hM))
    clear hA hB hM hU hV hm hw hx hv
    go_enter Tryd.func29, Tryd.ntmps29
    go_wp2_with fail
    generalize w.alloc (.cells #[.int .u64 (x.version : Nat), .int .u64 (x.codec : Nat), .int .u64 (x.code : Nat), .string ⟨x.digest.toArray⟩] 38) = W at *
    have q1 : W.cell? ⟨w.heap.size, 1, none⟩ = some (.int .u64 (x.codec : Nat)) := B0.cell 1
    have q2 : W.cell? ⟨w.heap.size, 2, none⟩ = some (.int .u64 (x.code : Nat)) := B0.cell 2
    have q3 : W.cell? ⟨w.heap.size, 3, none⟩ = some (.string ⟨x.digest.toArray⟩) := B0.cell 3
    have z0 := B0.lt
    go_region_held (fun w' => Below W.heap.size W w' ∧ ∀ b o, b < W.heap.size → w'.cell? ⟨b, o, none⟩ = W.cell? ⟨b, o, none⟩) (first | assumption | exact stay_drew W | exact stay_below ‹_› ‹_› | go_keep) (first | (go_at_call 30; (first | ((with_reducible refine (H.out.1 _).mono ?_); rintro _ wA ⟨vA, rfl, hbA, HA⟩; have iA := HA.out wA (Below.refl _ _)) | ((with_reducible refine (H.out.2.1 _).mono ?_); rintro _ wB ⟨vB, rfl, hbB, HB⟩; have iB := HB.out wB (Below.refl _ _); have iA2 := HA.out wB hbB))) | (go_at_call 42; refine (H.out.2.2 _).mono ?_; rintro _ wC ⟨rfl, hbC⟩; have iB2 := HB.out wC hbC; have iA3 := HA.out wC (Old.trans hbB hbC)))
    all_goals go_wp2_with fail
    all_goals go_ret
    all_goals refine ⟨?_, Old.trans b0 (Old.trans (Old.trans (((Below.refl W.heap.size W).drew).trans hbA) hbB) hbC)⟩
    all_goals rw [List.append_assoc]
    all_goals rfl
end Go.Proofs.YtaionnajhgjekaaDoor
