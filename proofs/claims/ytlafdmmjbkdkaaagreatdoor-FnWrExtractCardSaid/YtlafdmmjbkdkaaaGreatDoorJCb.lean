/-
  cbor.Decoder: decodeUint, decodeLen of the three first bytes that the pragma has; pushPhase. Conditions: as each contract says.
  bytes.Reader.ReadAt; internalio.offsetReadSeeker: its Read over that. Conditions: as each contract says.
  internalio.NewOffsetReadSeeker over a bytes.Reader; util.LdReadSize and util.LdRead over that, where the bytes begin with the pragma of version 2. Conditions: as each contract says.
  cbor.Decoder over the stream of the pragma's ten bytes: Readn1, decodeString, stepHelper_acceptValue at the three first bytes. Conditions: as each contract says.
-/
import Derived.Test.YtlafdmmjbkdkaaaGreatDoorJRf
import Derived.Lib.ConvBytes
import Derived.Deep.AppendLies
import Derived.Stop.Asserts
namespace Go.Proofs.YtlafdmmjbkdkaaaGreatDoor
open Go.RowKit

/-- The cells of a Decoder over the stream in block s. -/
def decC (s sk lf sl : Nat) (ph : Int) (ll : Nat) : Array Value := #[.bool true, .bool false, .int .i64 0, .bool false, .bool false, .bool false, .bool false, .iface 218 (.pointer (some ⟨s, 0, none⟩)), .slice (some ⟨sk, 0, none⟩) sl 10, .int .u8 ph, .slice (some ⟨lf, 0, none⟩) ll 10]

set_option maxRecDepth 100000 in
theorem du2 (a : Value) (w : World) : Calls Tryz.prog 137 #[a, .int .u8 2] w fun e w' => e = .returned (.tuple #[.int .u64 2, .nilIface]) ∧ w' = w := by
  go_enter Tryz.func137, Tryz.ntmps137
  go_wp2_with fail
  go_ret2
  exact ⟨rfl, rfl⟩

set_option maxRecDepth 100000 in
theorem du161 (a : Value) (w : World) : Calls Tryz.prog 137 #[a, .int .u8 161] w fun e w' => e = .returned (.tuple #[.int .u64 1, .nilIface]) ∧ w' = w := by
  go_enter Tryz.func137, Tryz.ntmps137
  go_wp2_with fail
  go_ret2
  exact ⟨rfl, rfl⟩

set_option maxRecDepth 100000 in
theorem dl161 (a : Value) (w : World) : Calls Tryz.prog 141 #[a, .int .u8 161] w fun e w' => e = .returned (.tuple #[.int .i64 1, .nilIface]) ∧ w' = w := by
  go_enter Tryz.func141, Tryz.ntmps141
  go_wp2_with fail
  refine (du161 a w).mono ?_
  rintro e w1 ⟨rfl, rfl⟩
  go_wp2_with fail
  go_ret2
  exact ⟨rfl, rfl⟩

set_option maxRecDepth 100000 in
theorem du103 (a : Value) (w : World) : Calls Tryz.prog 137 #[a, .int .u8 103] w fun e w' => e = .returned (.tuple #[.int .u64 7, .nilIface]) ∧ w' = w := by
  go_enter Tryz.func137, Tryz.ntmps137
  go_wp2_with fail
  go_ret2
  exact ⟨rfl, rfl⟩

set_option maxRecDepth 100000 in
theorem dl103 (a : Value) (w : World) : Calls Tryz.prog 141 #[a, .int .u8 103] w fun e w' => e = .returned (.tuple #[.int .i64 7, .nilIface]) ∧ w' = w := by
  go_enter Tryz.func141, Tryz.ntmps141
  go_wp2_with fail
  refine (du103 a w).mono ?_
  rintro e w1 ⟨rfl, rfl⟩
  go_wp2_with fail
  go_ret2
  exact ⟨rfl, rfl⟩

theorem infoPh : (Tryz.prog.info? 189).map (fun i => (i.zero, i.size, i.bytes)) = some (some (.int .u8 0), 1, 1) := by kernel_rfl
theorem infoI : (Tryz.prog.info? 3).map (fun i => (i.zero, i.size, i.bytes)) = some (some (.int .i64 0), 1, 8) := by kernel_rfl

set_option maxRecDepth 100000 in
set_option maxHeartbeats 2000000 in
theorem push_any (d s sk lf : Nat) (ll : Nat) (ph nph : Int) (ks : List Value) (w : World) (h : Blk w d 191 (decC s sk lf 0 ph ll)) (hk : Blk w sk 189 ks.toArray) (hkl : ks.length = 10) (hds : d ≠ sk) :
    Calls Tryz.prog 136 #[.pointer (some ⟨d, 0, none⟩), .int .u8 nph] w fun e w' => e = .returned (.tuple #[]) ∧ Blk w' d 191 (decC s sk lf 1 nph ll) ∧ Kp [d, sk] w w' := by
  have q8 : w.cell? ⟨d, 8, none⟩ = some (.slice (some ⟨sk, 0, none⟩) 0 10) := h.cell 8
  have q9 : w.cell? ⟨d, 9, none⟩ = some (.int .u8 ph) := h.cell 9
  obtain ⟨k0, rest, rfl⟩ : ∃ k0 rest, ks = k0 :: rest := by
    cases ks with
    | nil => simp at hkl
    | cons a b => exact ⟨a, b, rfl⟩
  have c0 : w.cell? ⟨sk, 0, none⟩ = some k0 := hk.cell 0
  have g0 := hk.frozen 0
  have f8 := h.frozen 8
  have f9 := h.frozen 9
  have hsd : ¬ sk = d := fun e => hds e.symm
  have hds' : ¬ d = sk := hds
  have hdl := h.lt
  have hkl' := hk.lt
  obtain ⟨i0, hi0, hz0, hz1, hz2⟩ := info_parts infoPh
  go_enter Tryz.func136, Tryz.ntmps136
  go_wp2_with fail
  go_region_with (fail)
  all_goals go_wp2_with fail
  all_goals go_end0
  all_goals
    have h2 := (((h.far (p := ⟨sk, 0, none⟩) hds (.int .u8 ph)).set_ 8 (.slice (some ⟨sk, 0, none⟩) 1 10)).set_ 9 (.int .u8 nph)).alloc (.cells #[.int .u8 ph] 189)
    have k2 := ((((Kp.refl [d, sk] w).setCell (p := ⟨sk, 0, none⟩) (.inl (by simp)) (.int .u8 ph)).setCell (p := ⟨d, 8, none⟩) (.inl (by simp)) (.slice (some ⟨sk, 0, none⟩) 1 10)).setCell (p := ⟨d, 9, none⟩) (.inl (by simp)) (.int .u8 nph)).alloc (.cells #[.int .u8 ph] 189)
    exact ⟨rfl, h2.drew, k2.drew⟩
end Go.Proofs.YtlafdmmjbkdkaaaGreatDoor

namespace Go.Proofs.YtlafdmmjbkdkaaaGreatDoor
open Go.RowKit

/-- The four cells of an offsetReadSeeker over the bytes.Reader in block r, with base 0. -/
def orsC (r : Nat) (off : Int) (v : Value) : Array Value := #[.iface 51 (.pointer (some ⟨r, 0, none⟩)), .int .i64 0, .int .i64 off, v]

end Go.Proofs.YtlafdmmjbkdkaaaGreatDoor

namespace Go.Proofs.YtlafdmmjbkdkaaaGreatDoor
open Go.RowKit

/-- The pragma behind its length. -/
def pt : List UInt8 := [161, 103, 118, 101, 114, 115, 105, 111, 110, 2]

end Go.Proofs.YtlafdmmjbkdkaaaGreatDoor

namespace Go.Proofs.YtlafdmmjbkdkaaaGreatDoor
open Go.RowKit

/-- The stream in block s (over q, over the bytes.Reader r of the pragma's ten bytes at g) stands at number i; m bytes have been counted. -/
structure Str (w : World) (s q r g : Nat) (aE : Addr) (i : Nat) (m : Int) : Prop where
  S : SlB w s q m
  Q : ∃ l ls b, (ls == 1) = false ∧ Blk w q 221 (rtsC r l ls b)
  R : Rdr w r g 0 10 10 i
  C : Bs w g 0 pt
  E : Ee w 2 aE
  n : q ≠ r ∧ g ≠ q ∧ g ≠ r ∧ g ≠ s ∧ s ≠ q ∧ s ≠ r
  e : 2 ≠ q ∧ 2 ≠ r ∧ 2 ≠ s
theorem Str.kp {w w' : World} {s q r g i : Nat} {aE : Addr} {m : Int} {L : List Nat} (h : Str w s q r g aE i m) (k : Kp L w w') (hL : s ∉ L ∧ q ∉ L ∧ r ∉ L ∧ g ∉ L ∧ 2 ∉ L) : Str w' s q r g aE i m := by
  obtain ⟨l, ls, b, h1, h2⟩ := h.Q
  obtain ⟨x, R⟩ := h.R
  exact ⟨h.S.kp k hL.1, ⟨l, ls, b, h1, h2.kp k hL.2.1⟩, ⟨x, R.kp k hL.2.2.1⟩, h.C.kp k hL.2.2.2.1, h.E.kp k hL.2.2.2.2, h.n, h.e⟩
theorem Str.lt {w : World} {s q r g i : Nat} {aE : Addr} {m : Int} (h : Str w s q r g aE i m) : s < w.heap.size ∧ q < w.heap.size ∧ r < w.heap.size := by
  obtain ⟨l, ls, b, h1, h2⟩ := h.Q
  exact ⟨h.S.cells.2.2.2.2, h2.lt, h.R.lt⟩

theorem readn1_str (s q r g i : Nat) (m z : Int) (aE : Addr) (w : World) (h : Str w s q r g aE i m) (hi : i < 10) (hm : 0 ≤ m ∧ m ≤ 1000) (hz : ((pt[i]'hi).toNat : Int) = z) :
    Calls Tryz.prog 231 #[.pointer (some ⟨s, 0, none⟩)] w fun e w' => e = .returned (.tuple #[.int .u8 z, .nilIface]) ∧ Str w' s q r g aE (i + 1) (m + 1) ∧ Kp [s, q, r] w w' := by
  obtain ⟨l, ls, b, h1, h2⟩ := h.Q
  have hr := readn1_any s q r g 0 10 10 i m l ls b pt aE w h.S ⟨hm.1, by omega⟩ h2 h1 h.R h.C rfl hi (by omega) (by decide) h.n.1 h.n.2.1 h.n.2.2.1 ⟨h.n.2.2.2.2.1, h.n.2.2.2.2.2⟩ h.E ⟨h.e.1, h.e.2.1⟩
  refine hr.mono ?_
  rintro e w' ⟨rfl, S, Q, R, K⟩
  obtain ⟨n1, n2, n3, n4, n5, n6⟩ := h.n
  obtain ⟨e1, e2, e3⟩ := h.e
  exact ⟨by rw [← hz], ⟨S, ⟨_, _, _, rfl, Q⟩, R, h.C.kp K (by simp; omega), h.E.kp K (by simp; omega), h.n, h.e⟩, K⟩

/-- The cells of a token that is not tagged. -/
def tokC (ty len : Int) (str : List UInt8) (u : Int) (fl : Value) : Array Value := #[.int .u8 ty, .int .i64 len, .string ⟨str.toArray⟩, .slice none 0 0, .bool false, .int .i64 0, .int .u64 u, fl, .bool false, .int .i64 0]

/-- The bytes of the word 'version'. -/
def verB : List UInt8 := [118, 101, 114, 115, 105, 111, 110]

set_option maxRecDepth 100000 in
set_option maxHeartbeats 2000000 in
theorem decStr (d s q r g sk lf sl ll : Nat) (ph m : Int) (aE : Addr) (w : World) (hD : Blk w d 191 (decC s sk lf sl ph ll)) (h : Str w s q r g aE 2 m) (hm : 0 ≤ m ∧ m ≤ 100) :
    Calls Tryz.prog 140 #[.pointer (some ⟨d, 0, none⟩), .int .u8 103] w fun e w' => e = .returned (.tuple #[.string ⟨verB.toArray⟩, .nilIface]) ∧ Str w' s q r g aE 9 (m + 7) ∧ Kp [s, q, r] w w' := by
  have hmr : ∀ W, (method 424 218 (.pointer (some ⟨s, 0, none⟩)) "Readnzc").run Tryz.prog W = .ok (232, .pointer (some ⟨s, 0, none⟩)) W := fun _ => by kernel_rfl
  have q7 : w.cell? ⟨d, 7, none⟩ = some (.iface 218 (.pointer (some ⟨s, 0, none⟩))) := hD.cell 7
  obtain ⟨l, ls, b, h1, h2⟩ := h.Q
  have hr := readn7_any s q r g 0 10 10 2 m l ls b pt aE w h.S ⟨hm.1, by omega⟩ h2 h1 h.R h.C rfl (by decide) (by omega) (by decide) h.n.1 h.n.2.1 h.n.2.2.1 h.n.2.2.2.1 ⟨h.n.2.2.2.2.1, h.n.2.2.2.2.2⟩ h.E h.e
  have H := Lib.hid (And.intro hr h)
  clear hr h h1 h2 hD
  go_enter Tryz.func140, Tryz.ntmps140
  go_wp2_with fail
  refine (dl103 _ w).mono ?_
  rintro e w1 ⟨rfl, rfl⟩
  go_wp2_with fail
  refine H.out.1.mono ?_
  rintro e w2 ⟨rfl, hB, S, ⟨l', b', Q⟩, R, K⟩
  have hcv : (convert 45 9 (.slice (some ⟨s, 1, none⟩) 7 32)).run Tryz.prog w2 = .ok (.string ⟨verB.toArray⟩) w2 := conv_str (P := Tryz.prog) Tryz.underlying45 Tryz.underlying5 Tryz.underlying9 (n := 7) (c := 32) hB rfl
  have HS : Str w2 s q r g aE 9 (m + 7) := by
    obtain ⟨n1, n2, n3, n4, n5, n6⟩ := H.out.2.n
    obtain ⟨e1, e2, e3⟩ := H.out.2.e
    exact ⟨S, ⟨_, _, _, rfl, Q⟩, R, H.out.2.C.kp K (by simp; omega), H.out.2.E.kp K (by simp; omega), H.out.2.n, H.out.2.e⟩
  have HH := Lib.hid (And.intro HS K)
  clear HS K hB S Q R q7
  go_wp2_with fail
  go_ret2
  exact ⟨rfl, HH.out.1, HH.out.2⟩

set_option maxRecDepth 100000 in
set_option maxHeartbeats 2000000 in
theorem help2 (d tk : Nat) (ty len u : Int) (str : List UInt8) (fl : Value) (w : World) (hT : Blk w tk 153 (tokC ty len str u fl)) :
    Calls Tryz.prog 124 #[.pointer (some ⟨d, 0, none⟩), .int .u8 2, .pointer (some ⟨tk, 0, none⟩)] w fun e w' => e = .returned (.tuple #[.bool true, .nilIface]) ∧
      Blk w' tk 153 (tokC 117 len str 2 fl) ∧ Kp [tk] w w' := by
  have q0 : w.cell? ⟨tk, 0, none⟩ = some (.int .u8 ty) := hT.cell 0
  have f0 := hT.frozen 0
  go_enter Tryz.func124, Tryz.ntmps124
  go_wp2_with fail
  have hT1 : Blk (w.setCell ⟨tk, 0, none⟩ (.int .u8 117)) tk 153 (tokC 117 len str u fl) := hT.set_ 0 _
  have k1 := (Kp.refl [tk] w).setCell (p := ⟨tk, 0, none⟩) (.inl (by simp)) (.int .u8 117)
  clear q0 f0 hT
  generalize w.setCell ⟨tk, 0, none⟩ (.int .u8 117) = w1 at *
  refine (du2 _ w1).mono ?_
  rintro e w2 ⟨rfl, rfl⟩
  have q6 : w2.cell? ⟨tk, 6, none⟩ = some (.int .u64 u) := hT1.cell 6
  have f6 := hT1.frozen 6
  go_wp2_with fail
  go_ret2
  exact ⟨rfl, hT1.set_ 6 _, k1.setCell (p := ⟨tk, 6, none⟩) (.inl (by simp)) _⟩

set_option maxRecDepth 100000 in
set_option maxHeartbeats 2000000 in
theorem help103 (d s q r g sk lf sl ll tk : Nat) (ph m : Int) (aE : Addr) (ty len u : Int) (str : List UInt8) (fl : Value) (w : World) (hD : Blk w d 191 (decC s sk lf sl ph ll)) (h : Str w s q r g aE 2 m) (hm : 0 ≤ m ∧ m ≤ 100)
    (hT : Blk w tk 153 (tokC ty len str u fl)) (hn : tk ≠ s ∧ tk ≠ q ∧ tk ≠ r ∧ tk ≠ g ∧ tk ≠ d ∧ 2 ≠ tk) :
    Calls Tryz.prog 124 #[.pointer (some ⟨d, 0, none⟩), .int .u8 103, .pointer (some ⟨tk, 0, none⟩)] w fun e w' => e = .returned (.tuple #[.bool true, .nilIface]) ∧
      Blk w' tk 153 (tokC 115 len verB u fl) ∧ Str w' s q r g aE 9 (m + 7) ∧ Kp [tk, s, q, r] w w' := by
  have q0 : w.cell? ⟨tk, 0, none⟩ = some (.int .u8 ty) := hT.cell 0
  have f0 := hT.frozen 0
  obtain ⟨m1, m2, m3, m4, m5, m6⟩ := hn
  go_enter Tryz.func124, Tryz.ntmps124
  go_wp2_with fail
  have hT1 : Blk (w.setCell ⟨tk, 0, none⟩ (.int .u8 115)) tk 153 (tokC 115 len str u fl) := hT.set_ 0 _
  have k1 := (Kp.refl [tk] w).setCell (p := ⟨tk, 0, none⟩) (.inl (by simp)) (.int .u8 115)
  have D1 := hD.kp k1 (by simp; omega)
  have S1 := h.kp k1 (by simp; omega)
  clear q0 f0 hT hD h
  generalize w.setCell ⟨tk, 0, none⟩ (.int .u8 115) = w1 at *
  have H := Lib.hid (decStr d s q r g sk lf sl ll ph m aE w1 D1 S1 hm)
  have HT := Lib.hid (And.intro hT1 k1)
  clear hT1 k1 D1 S1
  refine H.out.mono ?_
  rintro e w2 ⟨rfl, S2, k2⟩
  have T2 := HT.out.1.kp k2 (by simp; omega)
  have q2 : w2.cell? ⟨tk, 2, none⟩ = some (.string ⟨str.toArray⟩) := T2.cell 2
  have f2 := T2.frozen 2
  have HH := Lib.hid (And.intro T2 (And.intro S2 k2))
  clear T2 S2 k2
  go_wp2_with fail
  go_ret2
  have k3 : Kp [tk, s, q, r] w w2 := (HT.out.2.weaken (l' := [tk, s, q, r]) (by intro i hi; left; simp at hi; simp [hi])).step HH.out.2.2 (by intro i hi; left; simp at hi; simp; omega)
  refine ⟨rfl, HH.out.1.set_ 2 _, HH.out.2.1.kp (L := [tk]) ((Kp.refl [tk] w2).setCell (p := ⟨tk, 2, none⟩) (.inl (by simp)) _) (by simp; omega), k3.setCell (p := ⟨tk, 2, none⟩) (.inl (by simp)) _⟩

set_option maxRecDepth 100000 in
set_option maxHeartbeats 4000000 in
theorem help161 (d s sk lf tk : Nat) (ph : Int) (ty len u : Int) (str : List UInt8) (fl : Value) (ks ls : List Value) (w : World) (hD : Blk w d 191 (decC s sk lf 0 ph 0)) (hk : Blk w sk 189 ks.toArray) (hkl : ks.length = 10) (hl : Blk w lf 3 ls.toArray) (hll : ls.length = 10)
    (hT : Blk w tk 153 (tokC ty len str u fl)) (hn : tk ≠ d ∧ tk ≠ sk ∧ tk ≠ lf ∧ d ≠ sk ∧ d ≠ lf ∧ sk ≠ lf) :
    Calls Tryz.prog 124 #[.pointer (some ⟨d, 0, none⟩), .int .u8 161, .pointer (some ⟨tk, 0, none⟩)] w fun e w' => e = .returned (.tuple #[.bool false, .nilIface]) ∧
      Blk w' tk 153 (tokC 123 1 str u fl) ∧ Blk w' d 191 (decC s sk lf 1 5 1) ∧ Blk w' lf 3 (.int .i64 1 :: ls.drop 1).toArray ∧ Kp [tk, d, sk, lf] w w' := by
  obtain ⟨l0, lr, rfl⟩ : ∃ l0 lr, ls = l0 :: lr := by
    cases ls with
    | nil => simp at hll
    | cons a b => exact ⟨a, b, rfl⟩
  obtain ⟨i0, hi0, hz0, hz1, hz2⟩ := info_parts infoI
  obtain ⟨m1, m2, m3, m4, m5, m6⟩ := hn
  go_enter Tryz.func124, Tryz.ntmps124
  go_wp2_with fail
  refine (dl161 _ w).mono ?_
  rintro e w1 ⟨rfl, rfl⟩
  have q0 : w1.cell? ⟨tk, 0, none⟩ = some (.int .u8 ty) := hT.cell 0
  have q1 : w1.cell? ⟨tk, 1, none⟩ = some (.int .i64 len) := hT.cell 1
  have f0 := hT.frozen 0
  have f1 := hT.frozen 1
  have d10 : w1.cell? ⟨d, 10, none⟩ = some (.slice (some ⟨lf, 0, none⟩) 0 10) := hD.cell 10
  have g10 := hD.frozen 10
  have c0 : w1.cell? ⟨lf, 0, none⟩ = some l0 := hl.cell 0
  have g0 := hl.frozen 0
  have z1 := hD.lt
  have z2 := hl.lt
  have z3 := hT.lt
  have n1 : ¬ d = tk := fun h => m1 h.symm
  have n2 : ¬ lf = tk := fun h => m3 h.symm
  have n3 : ¬ lf = d := fun h => m5 h.symm
  go_wp2_with fail
  have kw : Kp [tk, d, lf] w1 (((((w1.setCell ⟨tk, 0, none⟩ (.int .u8 123)).setCell ⟨tk, 1, none⟩ (.int .i64 1)).setCell ⟨lf, 0, none⟩ (.int .i64 1)).setCell ⟨d, 10, none⟩ (.slice (some ⟨lf, 0, none⟩) 1 10)).alloc (.cells #[.int .i64 1] 3)) :=
    (((((Kp.refl [tk, d, lf] w1).setCell (p := ⟨tk, 0, none⟩) (.inl (by simp)) _).setCell (p := ⟨tk, 1, none⟩) (.inl (by simp)) _).setCell (p := ⟨lf, 0, none⟩) (.inl (by simp)) _).setCell (p := ⟨d, 10, none⟩) (.inl (by simp)) _).alloc _
  have tw : Blk (((((w1.setCell ⟨tk, 0, none⟩ (.int .u8 123)).setCell ⟨tk, 1, none⟩ (.int .i64 1)).setCell ⟨lf, 0, none⟩ (.int .i64 1)).setCell ⟨d, 10, none⟩ (.slice (some ⟨lf, 0, none⟩) 1 10)).alloc (.cells #[.int .i64 1] 3)) tk 153 (tokC 123 1 str u fl) :=
    ((((hT.set_ 0 _).set_ 1 _).far (p := ⟨lf, 0, none⟩) m3 _).far (p := ⟨d, 10, none⟩) m1 _).alloc _
  have dw : Blk (((((w1.setCell ⟨tk, 0, none⟩ (.int .u8 123)).setCell ⟨tk, 1, none⟩ (.int .i64 1)).setCell ⟨lf, 0, none⟩ (.int .i64 1)).setCell ⟨d, 10, none⟩ (.slice (some ⟨lf, 0, none⟩) 1 10)).alloc (.cells #[.int .i64 1] 3)) d 191 (decC s sk lf 0 ph 1) :=
    ((((hD.far (p := ⟨tk, 0, none⟩) n1 _).far (p := ⟨tk, 1, none⟩) n1 _).far (p := ⟨lf, 0, none⟩) m5 _).set_ 10 _).alloc _
  have lw : Blk (((((w1.setCell ⟨tk, 0, none⟩ (.int .u8 123)).setCell ⟨tk, 1, none⟩ (.int .i64 1)).setCell ⟨lf, 0, none⟩ (.int .i64 1)).setCell ⟨d, 10, none⟩ (.slice (some ⟨lf, 0, none⟩) 1 10)).alloc (.cells #[.int .i64 1] 3)) lf 3 (.int .i64 1 :: lr).toArray :=
    ((((hl.far (p := ⟨tk, 0, none⟩) n2 _).far (p := ⟨tk, 1, none⟩) n2 _).set_ 0 _).far (p := ⟨d, 10, none⟩) n3 _).alloc _
  have sw := hk.kp kw (by simp; omega)
  clear q0 q1 f0 f1 d10 g10 c0 g0 hD hT hl hk
  generalize (((((w1.setCell ⟨tk, 0, none⟩ (.int .u8 123)).setCell ⟨tk, 1, none⟩ (.int .i64 1)).setCell ⟨lf, 0, none⟩ (.int .i64 1)).setCell ⟨d, 10, none⟩ (.slice (some ⟨lf, 0, none⟩) 1 10)).alloc (.cells #[.int .i64 1] 3)) = w2 at *
  refine (push_any d s sk lf 1 ph 5 ks w2 dw sw hkl m4).mono ?_
  rintro e w3 ⟨rfl, D3, k3⟩
  have T3 := tw.kp k3 (by simp; omega)
  have L3 := lw.kp k3 (by simp; omega)
  have k13 : Kp [tk, d, sk, lf] w1 w3 := (kw.weaken (l' := [tk, d, sk, lf]) (by intro i hi; left; simp at hi; simp; omega)).step k3 (by intro i hi; left; simp at hi; simp; omega)
  have HH := Lib.hid (And.intro T3 (And.intro D3 (And.intro L3 k13)))
  clear T3 D3 L3 k13 kw tw dw lw sw k3
  go_wp2_with fail
  go_ret2
  exact ⟨rfl, HH.out.1, HH.out.2.1, HH.out.2.2.1, HH.out.2.2.2⟩
end Go.Proofs.YtlafdmmjbkdkaaaGreatDoor
