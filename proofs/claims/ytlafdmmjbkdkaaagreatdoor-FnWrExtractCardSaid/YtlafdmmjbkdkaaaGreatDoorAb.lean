/-
  The walks of spec.Link and spec.HeaderBytes (of version 1). Conditions: as each contract says.
-/
import Derived.Test.YtlafdmmjbkdkaaaGreatDoorAa
import Derived.Test.YtlafdmmjbkdkaaaGreatDoorGr
import Derived.Test.YtlafdmmjbkdkaaaGreatDoorJUv
namespace Go.Proofs.YtlafdmmjbkdkaaaGreatDoor
open Go.RowKit

theorem lkB_form (b : List UInt8) : hdL 192 42 ++ (hdL 64 (b.length + 1) ++ 0 :: b) = lkB b := by
  unfold lkB
  have h : hdL 192 42 = [216, 42] := by decide
  rw [h]
  simp

theorem ba_lit (l : List UInt8) (a : Array UInt8) (h : l.toArray = a) : (⟨a⟩ : ByteArray) = ⟨l.toArray⟩ := by rw [h]

set_option maxRecDepth 100000 in
set_option maxHeartbeats 4000000 in
theorem specLink_any (x : CidL) (w : World) (hx : x.tidy) (hd : x.digest.length ≤ 200) :
    Calls Tryz.prog 25 #[.agg #[.int .u64 x.version, .int .u64 x.codec, .int .u64 x.code, .string ⟨x.digest.toArray⟩]] w fun e w' => e = .returned (.string ⟨(lkB x.wr).toArray⟩) ∧ Below w.heap.size w w' := by
  have b0 := Old.alloc (Below.refl w.heap.size w) (.cells #[.int .u64 (x.version : Nat), .int .u64 (x.codec : Nat), .int .u64 (x.code : Nat), .string ⟨x.digest.toArray⟩] 38)
  have hC := fun W => specCidBytes_any x W hx (by omega)
  have hwl := wr_lt255 hx hd
  rw [← lkB_form x.wr]
  obtain ⟨R, hR⟩ : ∃ R, x.wr = R := ⟨_, rfl⟩
  rw [hR] at hC hwl ⊢
  have h6 := fun W => head_6 42 (by omega) W
  have h2 := fun W => head_2 (R.length + 1) (by omega) W
  have hn : ((R.length + 1 : Nat) : Int) = (R.length : Int) + 1 := by omega
  rw [hn] at h2
  have hw1 : IntKind.u64.wrap (R.length : Int) = (R.length : Int) := by rw [IntKind.wrap_u64]; omega
  have hw2 : IntKind.u64.wrap ((R.length : Int) + 1) = (R.length : Int) + 1 := by rw [IntKind.wrap_u64]; omega
  have hRl : R.length < 255 := hwl.1
  have hz0 : (⟨#[0]⟩ : ByteArray) = ⟨[(0 : UInt8)].toArray⟩ := rfl
  have l6 : (hdL 192 42).length ≤ 2 := by rw [hdL_len]; have := hdJ_le 42; omega
  have l2 : (hdL 64 (R.length + 1)).length ≤ 2 := by rw [hdL_len]; have := hdJ_le (R.length + 1); omega
  obtain ⟨A, hA⟩ : ∃ A, hdL 192 42 = A := ⟨_, rfl⟩
  obtain ⟨B, hB⟩ : ∃ B, hdL 64 (R.length + 1) = B := ⟨_, rfl⟩
  rw [hA] at h6 l6 ⊢
  rw [hB] at h2 l2 ⊢
  have happ := sp_app
  have H := Lib.hid (And.intro hC (And.intro h6 h2))
  clear hC h6 h2 hx hd hwl hR hA hB hn
  go_enter Tryz.func25, Tryz.ntmps25
  go_wp2_with fail
  refine (H.out.1 _).mono ?_
  rintro e w1 ⟨rfl, b1⟩
  go_wp2_with fail
  refine (H.out.2.1 _).mono ?_
  rintro e w2 ⟨rfl, b2⟩
  go_wp2_with fail
  refine (H.out.2.2 _).mono ?_
  rintro e w3 ⟨rfl, b3⟩
  go_wp2_with fail
  go_ret
  exact ⟨rfl, Old.trans b0 (Old.trans b1 (Old.trans b2 b3))⟩

/-- A header of version 1. -/
def hdrB (M : List (List UInt8)) : List UInt8 := Lib.uvarint (hdT M).length ++ hdT M
/-- What stands ahead of the links. -/
def hdP (n : Nat) : List UInt8 := 162 :: 101 :: 114 :: 111 :: 111 :: 116 :: 115 :: hdL 128 n
theorem hdT_form (M : List (List UInt8)) : hdT M = hdP M.length ++ lksB M ++ [103, 118, 101, 114, 115, 105, 111, 110, 1] := by
  unfold hdT hdP
  simp

set_option maxRecDepth 100000 in
set_option maxHeartbeats 4000000 in
theorem specHeader_any (a : Option Addr) (n c : Nat) (L : List CidL) (w : World) (hL : L.length = n) (hn : n ≤ 100) (h : n = 0 ∨ ∃ b off, a = some ⟨b, off, none⟩ ∧ Cs w b off L) (ht : ∀ x ∈ L, x.tidy ∧ x.digest.length ≤ 200) :
    Calls Tryz.prog 12 #[.slice a n c, .int .u64 1] w fun e w' => e = .returned (.string ⟨(hdrB (wrR L)).toArray⟩) ∧ Below w.heap.size w w' := by
  obtain ⟨Z, hZ⟩ : ∃ Z, hdrB (wrR L) = Z := ⟨_, rfl⟩
  rw [hZ]
  have HZ := Lib.hid hZ
  clear hZ
  have e52 : hdL 160 2 = [162] := by decide
  have e35 : hdL 96 5 = [101] := by decide
  have e37 : hdL 96 7 = [103] := by decide
  have e01 : hdL 0 1 = [1] := by decide
  have h52 := fun W => head_5 2 (by omega) W
  have h35 := fun W => head_3 5 (by omega) W
  have h37 := fun W => head_3 7 (by omega) W
  have h01 := fun W => head_0 1 (by omega) W
  rw [e52] at h52
  rw [e35] at h35
  rw [e37] at h37
  rw [e01] at h01
  have h4n := fun W => head_4 n (by omega) W
  have hwn : IntKind.u64.wrap (n : Int) = (n : Int) := by rw [IntKind.wrap_u64]; omega
  have hML := wrR_len L
  have hlk : (lksB (wrR L)).length ≤ n * 260 := by
    have := lksB_le (wrR L) 255 (fun b hb => by
      obtain ⟨x, hx, rfl⟩ := List.mem_map.1 hb
      have := wr_lt255 (ht x hx).1 (ht x hx).2
      omega)
    rw [hML, hL] at this
    omega
  obtain ⟨P, hP⟩ : ∃ P, hdP n = P := ⟨_, rfl⟩
  have hPl : P.length ≤ 9 := by rw [← hP]; unfold hdP; simp only [List.length_cons, hdL_len]; have := hdJ_le n; omega
  have hP2 : (162 : UInt8) :: 101 :: 114 :: 111 :: 111 :: 116 :: 115 :: hdL 128 n = P := hP
  obtain ⟨A, hA⟩ : ∃ A, hdL 128 n = A := ⟨_, rfl⟩
  rw [hA] at h4n hP2
  have hAl : A.length ≤ 2 := by rw [← hA, hdL_len]; have := hdJ_le n; omega
  have happ := sp_app
  have hF : hdT (wrR L) = P ++ lksB (wrR L) ++ [103, 118, 101, 114, 115, 105, 111, 110, 1] := by rw [hdT_form, hML, hL, hP]
  have H := Lib.hid (And.intro h52 (And.intro h35 (And.intro h37 (And.intro h01 h4n))))
  have HF := Lib.hid (And.intro hL (And.intro h (And.intro ht (And.intro hlk (And.intro hML (And.intro hP2 hF))))))
  clear h52 h35 h37 h01 h4n hL h ht hlk hML hP2 hF e52 e35 e37 e01 hP hA
  go_enter Tryz.func12, Tryz.ntmps12
  go_wp2_with fail
  refine (H.out.1 _).mono ?_
  rintro e w1 ⟨rfl, b1⟩
  go_wp2_with fail
  refine (H.out.2.1 _).mono ?_
  rintro e w2 ⟨rfl, b2⟩
  go_wp2_with fail
  refine (H.out.2.2.2.2 _).mono ?_
  rintro e w3 ⟨rfl, b3⟩
  go_wp2_with fail
  have b03 := Old.trans b1 (Old.trans b2 b3)
  clear b1 b2 b3
  go_loopw [5, 19] (fun v i wr => ∃ (k : Nat) (F : List UInt8), k ≤ n ∧ i = .int .i64 k ∧ v = .string ⟨F.toArray⟩ ∧ Hid (F = P ++ lksB (wrR (L.take k))) ∧ F.length ≤ 9 + k * 260 ∧ Below w.heap.size w wr) (fun _ i _ => n - (intOf i).toNat)
  case atStart =>
    refine ⟨0, P, Nat.zero_le _, rfl, ?_, Lib.hid (by simp [wrR, lksB]), by omega, b03⟩
    rw [← HF.out.2.2.2.2.2.1]
  case round =>
    obtain ⟨k, F, hk, rfl, rfl, hFF, hFl, hW⟩ := hrel
    by_cases hkn : k < n
    · obtain h0 | ⟨b, off, rfl, hcs⟩ := HF.out.2.1
      · omega
      have hkL : k < L.length := by rw [HF.out.1]; exact hkn
      obtain ⟨c0, c1, c2, c3⟩ := (hcs.old hW) k hkL
      have htd := HF.out.2.2.1 _ (List.getElem_mem hkL)
      obtain ⟨x, hx⟩ : ∃ x, L[k] = x := ⟨_, rfl⟩
      rw [hx] at c0 c1 c2 c3 htd
      have hkI : (k : Int) < (n : Int) := by omega
      have hli := fun W => specLink_any x W htd.1 htd.2
      have hwl := wr_lt255 htd.1 htd.2
      have hll : (lkB x.wr).length ≤ 260 := by rw [lkB_len]; have := hdJ_le (x.wr.length + 1); omega
      have HX := Lib.hid (And.intro hli hx)
      have hW1 := Old.alloc hW (.cells #[.int .u64 (x.version : Nat), .int .u64 (x.codec : Nat), .int .u64 (x.code : Nat), .string ⟨x.digest.toArray⟩] 38)
      have B1 := Blk.new wr 38 #[.int .u64 (x.version : Nat), .int .u64 (x.codec : Nat), .int .u64 (x.code : Nat), .string ⟨x.digest.toArray⟩]
      obtain ⟨K, hK⟩ : ∃ K, lkB x.wr = K := ⟨_, rfl⟩
      rw [hK] at hll
      have HK := Lib.hid hK
      clear hcs hli htd hx hwl hW hK
      go_wp2_with fail
      clear c0 c1 c2 c3
      generalize wr.alloc (.cells #[.int .u64 (x.version : Nat), .int .u64 (x.codec : Nat), .int .u64 (x.code : Nat), .string ⟨x.digest.toArray⟩] 38) = W1 at *
      refine (HX.out.1 W1).mono ?_
      rw [HK.out]
      rintro e w2 ⟨rfl, b2⟩
      have hW2 := Old.trans hW1 b2
      clear hW1 B1 b2
      go_wp2_with fail
      go_roundw
      case rel =>
        refine ⟨k + 1, F ++ K, hkn, by go_num, rfl, Lib.hid ?_, by rw [List.length_append]; omega, hW2⟩
        rw [hFF.out, ← HK.out, ← HX.out.2, List.take_succ_eq_append_getElem hkL]
        unfold wrR
        rw [List.map_append, lksB_append]
        simp [lksB]
      case measure => simp [intOf]; omega
    · have hkn' : k = n := by omega
      subst hkn'
      have hFe : F = P ++ lksB (wrR L) := by rw [hFF.out, List.take_of_length_le (by rw [HF.out.1]; exact Nat.le_refl _)]
      clear hFF
      have HFe := Lib.hid hFe
      clear hFe
      go_wp2_with fail
      refine (H.out.2.2.1 _).mono ?_
      rintro e w4 ⟨rfl, b4⟩
      go_wp2_with fail
      refine (H.out.2.2.2.1 _).mono ?_
      rintro e w5 ⟨rfl, b5⟩
      have b05 := Old.trans hW (Old.trans b4 b5)
      clear b4 b5 hW
      obtain ⟨G, hG⟩ : ∃ G, F ++ [103, 118, 101, 114, 115, 105, 111, 110, 1] = G := ⟨_, rfl⟩
      have hGl : G.length ≤ 9 + k * 260 + 9 := by rw [← hG, List.length_append]; simp; omega
      have hGT : hdT (wrR L) = G := by rw [HF.out.2.2.2.2.2.2, ← HFe.out, hG]
      have hvv := specVarint_cv ((G.length : Nat) : Int) w5 (by omega) (by omega)
      rw [Int.toNat_natCast] at hvv
      have hul := Lib.uvarint_length64 (x := G.length) (by omega)
      have hwu : IntKind.u64.wrap (G.length : Int) = (G.length : Int) := by rw [IntKind.wrap_u64]; omega
      have hgl9 : (F.length : Int) + 9 = (G.length : Int) := by rw [← hG, List.length_append]; simp
      have HV := Lib.hid (And.intro hvv (And.intro hGT hG))
      clear hvv hGT hG
      go_wp2_with fail
      rw [HV.out.2.2]
      refine HV.out.1.mono ?_
      rintro e w6 ⟨vv, rfl, b6, hcv⟩
      have icv := hcv.out w6 (Below.refl _ _)
      have b06 := Old.trans b05 b6
      obtain ⟨U, hU⟩ : ∃ U, Lib.uvarint G.length = U := ⟨_, rfl⟩
      rw [hU] at icv hul
      have HU := Lib.hid hU
      clear hcv b05 b6 hU
      go_wp2_with fail
      go_ret
      refine ⟨?_, b06⟩
      rw [← HZ.out, hdrB, HV.out.2.1, HU.out]
      rfl
end Go.Proofs.YtlafdmmjbkdkaaaGreatDoor
