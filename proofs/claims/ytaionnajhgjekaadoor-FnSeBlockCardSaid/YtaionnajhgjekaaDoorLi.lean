/-
  The walks of impl.LdWrite, util.LdSize, impl.LdSize. Conditions: as each contract says.
-/
import Derived.Test.YtaionnajhgjekaaDoorLw
namespace Go.Proofs.YtaionnajhgjekaaDoor
open Go.RowKit

/-- A section: the length of all parts as a varint, the parts. -/
def ldWr (S : List (List UInt8)) : List UInt8 := Lib.uvarint S.flatten.length ++ S.flatten

set_option maxRecDepth 100000 in
set_option maxHeartbeats 2000000 in
theorem ldWrite_any (a : Option Addr) (n c : Nat) (S : List (List UInt8)) (w : World) (hL : S.length = n) (hn : n ≤ 1000) (h : n = 0 ∨ ∃ b off, a = some ⟨b, off, none⟩ ∧ So w b off S) (hl : ∀ s ∈ S, s.length ≤ 1000000) (ht : S.flatten.length ≤ 900000000) :
    Calls Tryd.prog 9 #[.slice a n c] w fun e w' => e = .returned (.string ⟨(ldWr S).toArray⟩) ∧ Below w.heap.size w w' := by
  have b1 := Old.alloc (Below.refl w.heap.size w) (.cells #[.slice none 0 0, .int .i64 0, .int .i8 0] 52)
  have B1 := BuS.fresh w
  have HF := Lib.hid (And.intro hL (And.intro h (And.intro hl ht)))
  clear hL h hl ht
  go_enter Tryd.func9, Tryd.ntmps9
  go_wp2_with fail
  generalize w.alloc (.cells #[.slice none 0 0, .int .i64 0, .int .i8 0] 52) = w1 at *
  have zb := B1.lt
  refine (bytesOf_any a n c S w1 HF.out.1 hn (HF.out.2.1.imp id (fun ⟨b, off, ha, hc⟩ => ⟨b, off, ha, hc.old b1⟩)) (fun s hs => by have := HF.out.2.2.1 s hs; omega)).mono ?_
  rintro e w2 ⟨⟨A, cap, rfl, hA⟩, b2⟩
  have b02 := Old.trans b1 b2
  have B2 := B1.old b2
  have hlw : Calls Tryd.prog 20 #[.iface 56 (.pointer (some ⟨w.heap.size, 0, none⟩)), .slice A n cap] w2 fun e w' => e = .returned .nilIface ∧ (∃ row, BuS w' w.heap.size row (ldWr S)) ∧ Kp [w.heap.size] w2 w' := ldWriteU_any w.heap.size w1.heap.size n cap A S w2 HF.out.1 hn hA HF.out.2.2.1 zb b2.size B2 HF.out.2.2.2
  have HL := Lib.hid hlw
  clear hlw hA B1 B2 b1
  go_wp2_with fail
  refine HL.out.mono ?_
  rintro e w3 ⟨rfl, ⟨row, B3⟩, K3⟩
  have b03 := below_kp b02 K3 b02.size (by intro i hi; simp at hi; omega)
  go_wp2_with fail
  refine (Tryd.Buffer_String_at _ _ _ w.heap.size 0 _ w3 B3.isBuffer).mono ?_
  rintro e w4 ⟨rfl, k, rfl⟩
  go_wp2_with fail
  go_ret
  exact ⟨rfl, below_drewN b03 k⟩

set_option maxRecDepth 100000 in
set_option maxHeartbeats 2000000 in
theorem ldSizeU_any (lo n cap : Nat) (A : Option Addr) (S : List (List UInt8)) (w : World) (hL : S.length = n) (hn : n ≤ 1000) (hS : Svs w lo A n S) (hl : ∀ s ∈ S, s.length ≤ 1000000) (ht : S.flatten.length ≤ 900000000) :
    Calls Tryd.prog 27 #[.slice A n cap] w fun e w' => e = .returned (.int .u64 (ldWr S).length) ∧ w = w' := by
  obtain ⟨T, hT⟩ : ∃ T, S.flatten.length = T := ⟨_, rfl⟩
  have hwl : (ldWr S).length = (Lib.uvarint T).length + T := by rw [ldWr, List.length_append, hT]
  have hul := Lib.uvarint_length 4 T (Nat.lt_of_le_of_lt (hT ▸ ht) (by decide))
  have hus := fun W => uvarintSize_any (T : Int) W (by omega) (by omega)
  rw [Int.toNat_natCast] at hus
  obtain ⟨U, hU⟩ : ∃ U, (Lib.uvarint T).length = U := ⟨_, rfl⟩
  rw [hU] at hul hus hwl
  rw [hwl]
  have HF := Lib.hid (And.intro hL (And.intro hS (And.intro hl (And.intro hT hus))))
  have hTl : T ≤ 900000000 := by omega
  clear hL hS hl ht hT hwl hus hU
  go_enter Tryd.func27, Tryd.ntmps27
  go_wp2_with fail
  go_loop [3, 9] (fun s i => ∃ k : Nat, k ≤ n ∧ i = .int .i64 k ∧ s = .int .u64 (S.take k).flatten.length) (fun _ i => n - (intOf i).toNat)
  case atStart => exact ⟨0, Nat.zero_le _, rfl, rfl⟩
  case round =>
    obtain ⟨k, hk, rfl, rfl⟩ := hrel
    by_cases hkn : k < n
    · obtain h0 | ⟨g, rfl, hlg, hg⟩ := HF.out.2.1
      · omega
      have hkL : k < S.length := by rw [HF.out.1]; exact hkn
      obtain ⟨u, c0, gk, ck, rfl, _, _, _, _⟩ := hg k hkL
      have hft := flat_take S k hkL
      have hfl := flat_len2 (S.take k) (fun t ht => HF.out.2.2.1 t (List.mem_of_mem_take ht))
      have hxl := HF.out.2.2.1 S[k] (List.getElem_mem hkL)
      rw [List.length_take] at hfl
      obtain ⟨x, hx⟩ : ∃ x, S[k] = x := ⟨_, rfl⟩
      rw [hx] at c0 hft hxl
      obtain ⟨F, hF⟩ : ∃ F, (S.take k).flatten = F := ⟨_, rfl⟩
      rw [hF] at hfl hft
      rw [hF]
      have hF5 : F.length ≤ 1000000000 := by omega
      have hkI : (k : Int) < (n : Int) := by omega
      have HX := Lib.hid hft
      clear hg hx hft hF hfl
      go_wp2_with fail
      all_goals go_round
      case rel => exact ⟨k + 1, hkn, by go_num, by rw [HX.out, List.length_append]; go_num⟩
      case measure => simp [intOf]; omega
    · have hkn' : n = k := by omega
      subst hkn'
      rw [List.take_of_length_le (by rw [HF.out.1]; exact Nat.le_refl _), HF.out.2.2.2.1]
      go_wp2_with fail
      refine (HF.out.2.2.2.2 _).mono ?_
      rintro e w2 ⟨rfl, rfl⟩
      go_wp2_with fail
      go_ret
      exact ⟨show Ending.returned (.int .u64 ((T : Int) + (U : Int))) = .returned (.int .u64 ((U + T : Nat) : Int)) from congrArg (fun x : Int => Ending.returned (.int .u64 x)) (by omega), rfl⟩

set_option maxRecDepth 100000 in
set_option maxHeartbeats 2000000 in
theorem ldSize_any (a : Option Addr) (n c : Nat) (S : List (List UInt8)) (w : World) (hL : S.length = n) (hn : n ≤ 1000) (h : n = 0 ∨ ∃ b off, a = some ⟨b, off, none⟩ ∧ So w b off S) (hl : ∀ s ∈ S, s.length ≤ 1000000) (ht : S.flatten.length ≤ 900000000) :
    Calls Tryd.prog 12 #[.slice a n c] w fun e w' => e = .returned (.int .u64 (ldWr S).length) ∧ Below w.heap.size w w' := by
  obtain ⟨L, hLL⟩ : ∃ L, (ldWr S).length = L := ⟨_, rfl⟩
  rw [hLL]
  have HLL := Lib.hid hLL
  have HF := Lib.hid (And.intro hL (And.intro h (And.intro hl ht)))
  clear hL h hl ht hLL
  go_enter Tryd.func12, Tryd.ntmps12
  go_wp2_with fail
  refine (bytesOf_any a n c S w HF.out.1 hn HF.out.2.1 (fun s hs => by have := HF.out.2.2.1 s hs; omega)).mono ?_
  rintro e w2 ⟨⟨A, cap, rfl, hA⟩, b2⟩
  have hls := ldSizeU_any w.heap.size n cap A S w2 HF.out.1 hn hA HF.out.2.2.1 HF.out.2.2.2
  rw [HLL.out] at hls
  have HL := Lib.hid hls
  clear hls hA
  go_wp2_with fail
  refine HL.out.mono ?_
  rintro e w3 ⟨rfl, rfl⟩
  go_wp2_with fail
  go_ret
  exact ⟨rfl, b2⟩
end Go.Proofs.YtaionnajhgjekaaDoor
