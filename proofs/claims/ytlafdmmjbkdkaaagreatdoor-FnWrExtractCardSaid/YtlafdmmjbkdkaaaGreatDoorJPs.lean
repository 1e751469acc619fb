/-
  laws.wrFile: the file of version 2 that it makes. Conditions: as the contract says.
  The walk of FnWrExtract. Conditions: as the contract says.
  A file of version 1 as a call is handed it: a struct of two slices, opened; the law for whole numbers. Conditions: as each law says. (Printed by mkpv.py.)
-/
import Derived.Test.YtlafdmmjbkdkaaaGreatDoorJPh
import Derived.Test.YtlafdmmjbkdkaaaGreatDoorPk
import Derived.Test.YtlafdmmjbkdkaaaGreatDoorJNc
import Derived.Test.YtlafdmmjbkdkaaaGreatDoorMg
import Derived.Test.YtlafdmmjbkdkaaaGreatDoorJUv
import Derived.Test.YtlafdmmjbkdkaaaGreatDoorJSp
namespace Go.Proofs.YtlafdmmjbkdkaaaGreatDoor
open Go.RowKit

/-- What it answers: a file with s behind dd bytes of padding. -/
def WfPost (w : World) (dd : Nat) (s : List UInt8) (e : Ending) (w' : World) : Prop := ∃ (z : Nat) (ix : List UInt8), e = .returned (.string ⟨(fileT (51 + dd) s.length z s ix).toArray⟩) ∧ z ≤ 10000000 ∧ ix.length ≤ 50000000 ∧ Below w.heap.size w w'

set_option maxRecDepth 100000 in
set_option maxHeartbeats 4000000 in
theorem wrFile_any (a : Option Addr) (n c : Nat) (L : List CidL) (a2 : Option Addr) (n2 c2 : Nat) (B : List BlkL) (kind dd xx : Nat) (w : World) (h : CarR a n L a2 n2 B w) (hok : CarOk L B) (hk : kind = 0 ∨ kind = 1024 ∨ kind = 1025) (hd : dd < 256) (hx : xx < 256) :
    Calls Tryz.prog 8 #[.agg #[.slice a n c, .slice a2 n2 c2], .int .u64 kind, .int .u8 dd, .int .u8 xx] w (WfPost w dd (carB L B)) := by
  have hsl := carB_len hok
  have b0 := Old.alloc (Below.refl w.heap.size w) (.cells #[.slice a n c, .slice a2 n2 c2] 25)
  have B0 := Blk.new w 25 #[.slice a n c, .slice a2 n2 c2]
  obtain ⟨W, hW⟩ : ∃ W, w.alloc (.cells #[.slice a n c, .slice a2 n2 c2] 25) = W := ⟨_, rfl⟩
  obtain ⟨q, hq⟩ : ∃ q, w.heap.size = q := ⟨_, rfl⟩
  rw [hW] at b0 B0
  rw [hq] at B0
  have q0 : W.cell? ⟨q, 0, none⟩ = some (.slice a n c) := B0.cell 0
  have q1 : W.cell? ⟨q, 1, none⟩ = some (.slice a2 n2 c2) := B0.cell 1
  have hc1 := specCar1_any a n c L a2 n2 c2 B W (h.old b0) hok
  have hn2 : n2 ≤ 50 := by rw [← h.hB]; exact hok.n2
  obtain ⟨s, hs⟩ : ∃ s, carB L B = s := ⟨_, rfl⟩
  rw [hs] at hc1 hsl ⊢
  have H := Lib.hid (And.intro hc1 (And.intro h (And.intro hok (And.intro B0 (And.intro b0 hk)))))
  clear hc1 h hok B0 b0 hs hk
  go_enter Tryz.func8, Tryz.ntmps8
  go_wp2_with fail
  clear hW hq
  refine H.out.1.mono ?_
  rintro e w1 ⟨rfl, b1⟩
  have HB1 := Lib.hid b1
  have hnh := newHeadR s.length (by omega) w1
  clear q0 q1 b1
  go_wp2_with fail
  refine hnh.mono ?_
  rintro e w2 ⟨rfl, b2⟩
  obtain ⟨Z1, hZ1⟩ : ∃ Z1 : Nat, 51 + s.length = Z1 := ⟨_, rfl⟩
  rw [hZ1]
  have hZ1b : Z1 ≤ 2000051 := by omega
  have hpd := paddedR 51 s.length Z1 dd xx (by omega) hd hx w2
  obtain ⟨U, hU⟩ : ∃ U : Nat, 51 + dd = U := ⟨_, rfl⟩
  obtain ⟨Z, hZ⟩ : ∃ Z : Nat, Z1 + (dd + xx) = Z := ⟨_, rfl⟩
  rw [hU, hZ] at hpd
  have HU := Lib.hid hU
  have hZb : Z ≤ 2001000 := by omega
  have hwd : IntKind.u64.wrap (dd : Int) = (dd : Int) := by rw [IntKind.wrap_u64]; omega
  have hwx : IntKind.u64.wrap (xx : Int) = (xx : Int) := by rw [IntKind.wrap_u64]; omega
  have HB2 := Lib.hid (And.intro b2 hpd)
  clear hnh b2 hZ1 hU hZ hpd
  go_wp2_with fail
  refine HB2.out.2.mono ?_
  rintro e w3 ⟨rfl, b3⟩
  have b03 := Old.trans (Old.trans H.out.2.2.2.2.1 HB1.out) (Old.trans HB2.out.1 b3)
  have bq3 : Below W.heap.size W w3 := Old.trans HB1.out (Old.trans HB2.out.1 b3)
  obtain ⟨W4, hW4⟩ : ∃ W4, w3.alloc (.cells #[.int .u64 0, .int .u64 0, .int .u64 U, .int .u64 s.length, .int .u64 Z] 56) = W4 := ⟨_, rfl⟩
  obtain ⟨d, hd'⟩ : ∃ d, w3.heap.size = d := ⟨_, rfl⟩
  have D4 : Blk W4 d 56 #[.int .u64 0, .int .u64 0, .int .u64 U, .int .u64 s.length, .int .u64 Z] := by rw [← hW4, ← hd']; exact Blk.new _ _ _
  have b34 : Below w3.heap.size w3 W4 := by rw [← hW4]; exact Old.alloc (Below.refl _ _) _
  have B4 := H.out.2.2.2.1.old (Old.trans bq3 b34)
  have e0 : W4.cell? ⟨d, 0, none⟩ = some (.int .u64 0) := D4.cell 0
  have e1 : W4.cell? ⟨d, 1, none⟩ = some (.int .u64 0) := D4.cell 1
  have e2 : W4.cell? ⟨d, 2, none⟩ = some (.int .u64 U) := D4.cell 2
  have e3 : W4.cell? ⟨d, 3, none⟩ = some (.int .u64 s.length) := D4.cell 3
  have e4 : W4.cell? ⟨d, 4, none⟩ = some (.int .u64 Z) := D4.cell 4
  have f4 := D4.frozen 4
  have hd4 := D4.lt
  have b04 := Old.trans b03 b34
  have hwd4 : w.heap.size ≤ d := by rw [← hd']; exact b03.size
  have HZ := Lib.hid (And.intro b04 (And.intro hwd4 B4))
  rcases H.out.2.2.2.2.2 with rfl | rfl | rfl
  · clear b03 bq3 b34 D4 B4 b3 b04 hwd4
    go_wp2_with fail
    refine (fileBytes_any U s.length 0 s [] _ (by have := HU.out; omega) (by have := HU.out; omega) (by omega) (by omega) (by omega) (by simp)).mono ?_
    rintro e w5 ⟨rfl, b5⟩
    have b05 := Old.trans (HZ.out.1.setCell (p := ⟨d, 4, none⟩) HZ.out.2.1 (.int .u64 0)) b5
    have HF := Lib.hid b05
    clear b05 b5
    obtain ⟨F, hF⟩ : ∃ F, (fileT U s.length 0 s []).toArray = F := ⟨_, rfl⟩
    rw [hF]
    have HFF := Lib.hid hF
    clear hF
    go_wp2_with fail
    refine bodyPost_ret (v := .string ⟨F⟩) (by simp [results, Tryz.results8, go_sem]) rfl ⟨0, [], ?_, by omega, by simp, HF.out⟩
    rw [HU.out, HFF.out]
  all_goals
    have hcr := H.out.2.1.old (Old.trans (Old.trans b03 b34) (Below.refl W4.heap.size W4).drew)
    have hge := generated_any a n c L a2 n2 c2 B W4.drew hcr H.out.2.2.1
    have q40 : W4.cell? ⟨q, 0, none⟩ = some (.slice a n c) := B4.cell 0
    have q41 : W4.cell? ⟨q, 1, none⟩ = some (.slice a2 n2 c2) := B4.cell 1
    have hq4 := B4.lt
    have HG := Lib.hid hge
    clear f4 b03 bq3 b34 D4 b3 b04 hwd4 B4 hge hcr
    go_wp2_with fail
    clear hW4 hd'
    go_region_held3 (fun w' => Below W4.heap.size W4 w' ∧ ∀ b o, b < W4.heap.size → w'.cell? ⟨b, o, none⟩ = W4.cell? ⟨b, o, none⟩) (first | exact stay_drew W4 | exact stay_below ‹_› ‹_› | go_keep)
      (first
        | (go_at_call 21; refine HG.out.mono ?_; rintro _ wG ⟨⟨vG, mG, rfl, hEG, hmG, _⟩, bG⟩)
        | (go_at_call 20; refine (indexBytes_any vG mG _ wG hEG (by omega) (by first | exact .inl rfl | exact .inr rfl)).mono ?_; rintro _ wI ⟨ix, rfl, hix, bI⟩)
        | (go_at_call 19; refine (fileBytes_any U s.length Z s ix wI (by have := HU.out; omega) (by have := HU.out; omega) (by omega) (by omega) (by omega) (by omega)).mono ?_; rintro _ wF ⟨rfl, bF⟩))
    all_goals
      have b04' := Old.trans HZ.out.1 (Old.trans (Old.trans (((Below.refl W4.heap.size W4).drew).trans bG) bI) bF)
      have HF := Lib.hid b04'
      clear b04' bF bI bG hEG
      obtain ⟨F, hF⟩ : ∃ F, (fileT U s.length Z s ix).toArray = F := ⟨_, rfl⟩
      rw [hF]
      have HFF := Lib.hid hF
      clear hF
      go_wp2_with fail
      refine bodyPost_ret (v := .string ⟨F⟩) (by simp [results, Tryz.results8, go_sem]) rfl ⟨Z, ix, ?_, by omega, hix, HF.out⟩
      rw [HU.out, HFF.out]
end Go.Proofs.YtlafdmmjbkdkaaaGreatDoor

namespace Go.Proofs.YtlafdmmjbkdkaaaGreatDoor
open Go.RowKit

set_option maxRecDepth 100000 in
set_option maxHeartbeats 4000000 in
theorem fnWrExtract_walk (a : Option Addr) (n c : Nat) (L : List CidL) (a2 : Option Addr) (n2 c2 : Nat) (B : List BlkL) (kd dd xx : Nat) (over : List UInt8) (aE aU aO aM aS aA : Addr) (w : World) (h : CarR a n L a2 n2 B w) (hn : n ≤ 9223372036854775807) (hn2 : n2 ≤ 9223372036854775807)
    (hf : ∀ x ∈ L, x.fit) (hf2 : ∀ x ∈ B, x.fit) (hd : dd < 256) (hx : xx < 256) (hov : over.length ≤ 9223372036854775807) (hE : EX aE aU aO aM aS aA w) :
    Calls Tryz.prog 3 #[.agg #[.slice a n c, .slice a2 n2 c2], .int .u64 kd, .int .u8 dd, .int .u8 xx, .string ⟨over.toArray⟩] w fun e w' => e = .returned (.bool true) ∧ Below w.heap.size w w' := by
  have b0 := Old.alloc (Below.refl w.heap.size w) (.cells #[.slice a n c, .slice a2 n2 c2] 25)
  have B0 := Blk.new w 25 #[.slice a n c, .slice a2 n2 c2]
  obtain ⟨W, hW⟩ : ∃ W, w.alloc (.cells #[.slice a n c, .slice a2 n2 c2] 25) = W := ⟨_, rfl⟩
  obtain ⟨q, hq⟩ : ∃ q, w.heap.size = q := ⟨_, rfl⟩
  rw [hW] at b0 B0
  rw [hq] at B0
  have q0 : W.cell? ⟨q, 0, none⟩ = some (.slice a n c) := B0.cell 0
  have q1 : W.cell? ⟨q, 1, none⟩ = some (.slice a2 n2 c2) := B0.cell 1
  have hz := zzFits4_any a n c L a2 n2 c2 B W (h.old b0) hn hn2 hf hf2
  have H := Lib.hid (And.intro hz (And.intro h (And.intro hf (And.intro hf2 (And.intro B0 (And.intro b0 (And.intro hE (And.intro hn hn2))))))))
  clear hz h hf hf2 B0 b0 hE hn hn2
  have hsz : (⟨over.toArray⟩ : ByteArray).size = over.length := by simp [ByteArray.size]
  have HS := Lib.hid hsz
  clear hsz
  go_enter Tryz.func3, Tryz.ntmps3
  go_wp2_with fail
  clear hW hq
  refine H.out.1.mono ?_
  rintro e w1 ⟨⟨Z, rfl⟩, b1⟩
  have b01 := Old.trans H.out.2.2.2.2.2.1 b1
  have r0 : w1.cell? ⟨q, 0, none⟩ = some (.slice a n c) := (H.out.2.2.2.2.1.old b1).cell 0
  have r1 : w1.cell? ⟨q, 1, none⟩ = some (.slice a2 n2 c2) := (H.out.2.2.2.2.1.old b1).cell 1
  have HB1 := Lib.hid (And.intro b01 b1)
  clear q0 q1 b1 b01
  cases Z
  · go_wp2_with fail
    go_ret
    exact ⟨rfl, HB1.out.1⟩
  by_cases h1 : over.length ≤ 4096
  · have d1 : decide ((2147483647 : Int) < (over.length : Int)) = false := by rw [decide_eq_false_iff_not]; omega
    have d2 : decide ((4096 : Int) < (over.length : Int)) = false := by rw [decide_eq_false_iff_not]; omega
    have n1 : ¬ (2147483647 : Int) < (over.length : Int) := by omega
    have n2' : ¬ (4096 : Int) < (over.length : Int) := by omega
    have hwg := wrGood_any a n c L a2 n2 c2 B w1 (H.out.2.1.old HB1.out.1) H.out.2.2.2.2.2.2.2.1 H.out.2.2.2.2.2.2.2.2 H.out.2.2.1 H.out.2.2.2.1
    have HWG := Lib.hid hwg
    clear hwg
    go_wp2_with fail
    refine HWG.out.mono ?_
    rintro e w2 ⟨⟨Z, rfl, hZ⟩, b2⟩
    have b02 := Old.trans HB1.out.1 b2
    have b12 := Old.trans HB1.out.2 b2
    have s0 : w2.cell? ⟨q, 0, none⟩ = some (.slice a n c) := (H.out.2.2.2.2.1.old b12).cell 0
    have s1 : w2.cell? ⟨q, 1, none⟩ = some (.slice a2 n2 c2) := (H.out.2.2.2.2.1.old b12).cell 1
    have HB2 := Lib.hid (And.intro b02 (And.intro b12 hZ))
    clear r0 r1 b2 b02 b12 HWG HB1 hZ
    cases Z
    · go_wp2_with fail
      go_ret
      exact ⟨rfl, HB2.out.1⟩
    have hok := HB2.out.2.2 rfl
    by_cases hk : kd = 0 ∨ kd = 1024 ∨ kd = 1025
    · have hc1 := specCar1_any a n c L a2 n2 c2 B w2 (H.out.2.1.old HB2.out.1) hok
      have hsl := carB_len hok
      have HC := Lib.hid (And.intro hc1 (And.intro hok (fun (W' : World) (hb : Below w.heap.size w W') => wrFile_any a n c L a2 n2 c2 B kd dd xx W' (H.out.2.1.old hb) hok hk hd hx)))
      clear hc1 hok
      obtain ⟨s, hs⟩ : ∃ s, carB L B = s := ⟨_, rfl⟩
      rw [hs] at HC hsl
      have HSS := Lib.hid hs
      clear hs
      rcases hk with rfl | rfl | rfl
      all_goals
        go_wp2_with fail
        refine HC.out.1.mono ?_
        rintro e w3 ⟨rfl, b3⟩
        have b03 := Old.trans HB2.out.1 b3
        have b13 := Old.trans HB2.out.2.1 b3
        have t0 : w3.cell? ⟨q, 0, none⟩ = some (.slice a n c) := (H.out.2.2.2.2.1.old b13).cell 0
        have t1 : w3.cell? ⟨q, 1, none⟩ = some (.slice a2 n2 c2) := (H.out.2.2.2.2.1.old b13).cell 1
        have hwf := HC.out.2.2 w3 b03
        have HB3 := Lib.hid (And.intro b03 hwf)
        clear b3 b03 b13 hwf s0 s1
        go_wp2_with fail
        refine HB3.out.2.mono ?_
        rintro e w4 ⟨z, ix, rfl, hz, hix, b4⟩
        have b04 := Old.trans HB3.out.1 b4
        obtain ⟨f1, f2, f3, f4⟩ := fileT_ok (51 + dd) s.length z s ix (by omega)
        obtain ⟨F, hF⟩ : ∃ F, fileT (51 + dd) s.length z s ix = F := ⟨_, rfl⟩
        rw [hF] at f1 f2 f3 f4
        rw [hF]
        have hx2 := wrX2 over s _ F (51 + dd) z aE aU aO aM aS aA w4 f1 f2 (by omega) (by omega) (by omega) f3 hsl.2 (by omega) (by omega) (by omega) (by omega) (H.out.2.2.2.2.2.2.1.old b04)
        have HX2 := Lib.hid (And.intro hx2 b04)
        clear hx2 b04 f1 f2 f3 f4 hF b4
        go_wp2_with fail
        refine HX2.out.1.mono ?_
        rintro e w5 ⟨rfl, b5⟩
        have b05 := Old.trans HX2.out.2 b5
        have hx1 := wrX1 over (secsR B) s L aE aU aO aM aS aA w5 (by have := HC.out.2.1.n; omega) HC.out.2.1.L HSS.out.symm (by omega) (by omega) (H.out.2.2.2.2.2.2.1.old b05)
        have HX1 := Lib.hid (And.intro hx1 b05)
        clear hx1 b05 b5
        go_wp2_with fail
        refine HX1.out.1.mono ?_
        rintro e w6 ⟨rfl, b6⟩
        have HX6 := Lib.hid (Old.trans HX1.out.2 b6)
        clear b6
        go_wp2_with fail
        go_ret
        exact ⟨rfl, HX6.out⟩
    · have k0 : ¬ (kd : Int) = 0 := by omega
      have k1 : ¬ (kd : Int) = 1024 := by omega
      have k2 : ¬ (kd : Int) = 1025 := by omega
      have z0 : ((kd : Int) != 0) = true := by simpa using k0
      have z1 : ((kd : Int) != 1024) = true := by simpa using k1
      have z2 : ((kd : Int) != 1025) = true := by simpa using k2
      clear hk hok k0 k1 k2
      go_wp2_with fail
      go_ret
      exact ⟨rfl, HB2.out.1⟩
  · have d2 : decide ((4096 : Int) < (over.length : Int)) = true := by rw [decide_eq_true_eq]; omega
    have n2' : (4096 : Int) < (over.length : Int) := by omega
    by_cases h2 : over.length ≤ 2147483647
    · have d1 : decide ((2147483647 : Int) < (over.length : Int)) = false := by rw [decide_eq_false_iff_not]; omega
      have n1 : ¬ (2147483647 : Int) < (over.length : Int) := by omega
      go_wp2_with fail
      go_ret
      exact ⟨rfl, HB1.out.1⟩
    · have d1 : decide ((2147483647 : Int) < (over.length : Int)) = true := by rw [decide_eq_true_eq]; omega
      have n1 : (2147483647 : Int) < (over.length : Int) := by omega
      go_wp2_with fail
      go_ret
      exact ⟨rfl, HB1.out.1⟩
end Go.Proofs.YtlafdmmjbkdkaaaGreatDoor

namespace Go.Proofs.YtlafdmmjbkdkaaaGreatDoor
open Go.RowKit Go.ChangeShapes Go.WideShapes Go.ChangeAt Go.Joins Go.Deep

theorem open_cidsF {H : Type} {enc : TypeId × Value → H} {P : Program} {w : World} {base : Nat} {spare : Nat → Bool} {held : Bool} {fuel : Nat} {t e : TypeId} {f0 f1 f2 f3 : Field} {v : Value} {y : DataW H × List MemPlace}
    (ht : P.underlying t = some (.slice e)) (he : P.underlying e = some (.struct #[f0, f1, f2, f3])) (ce : P.cellsOf e = 4) (o0 : f0.offset = 0) (o1 : f1.offset = 1) (o2 : f2.offset = 2) (o3 : f3.offset = 3)
    (c0 : P.cellsOf f0.type = 1) (c1 : P.cellsOf f1.type = 1) (c2 : P.cellsOf f2.type = 1) (c3 : P.cellsOf f3.type = 1) (t0 : P.underlying f0.type = some (.int .u64)) (t1 : P.underlying f1.type = some (.int .u64)) (t2 : P.underlying f2.type = some (.int .u64)) (t3 : P.underlying f3.type = some .string)
    (hf : DataW.trod enc P w base spare held fuel t [v] = some y) :
    ∃ (a : Option Addr) (n c : Nat) (L : List CidL), v = .slice a n c ∧ L.length = n ∧ n ≤ 9223372036854775807 ∧ (∀ x ∈ L, x.fit) ∧ (n = 0 ∨ ∃ b off, a = some ⟨b, off, none⟩ ∧ Cs w b off L) := by
  obtain ⟨a, len, cap, rfl⟩ : ∃ a len cap, v = .slice a len cap := by
    rcases open_slice ht hf with ⟨hcs, _⟩ | ⟨a', len', cap', m, n, D, Pl, hcs, _⟩
    · exact ⟨none, 0, 0, by simpa using hcs⟩
    · exact ⟨_, _, _, by simpa using hcs⟩
  rcases open_slice ht hf with ⟨hcs, _⟩ | ⟨a', len', cap', m, n, D, Pl, hcs, _, hl, hm, hmm, _, hx⟩
  · simp at hcs
    obtain ⟨rfl, rfl, rfl⟩ := hcs
    exact ⟨none, 0, 0, [], rfl, rfl, by omega, by simp, .inl rfl⟩
  · simp at hcs
    obtain ⟨rfl, rfl, rfl⟩ := hcs
    have hlm : len ≤ m := by rw [hmm]; split <;> omega
    have each : ∀ i, i < len → ∃ x : CidL, x.fit ∧ w.cell? (a'.add (i * 4)) = some (.int .u64 (x.version : Nat)) ∧ w.cell? (a'.add (i * 4 + 1)) = some (.int .u64 (x.codec : Nat)) ∧ w.cell? (a'.add (i * 4 + 2)) = some (.int .u64 (x.code : Nat)) ∧ w.cell? (a'.add (i * 4 + 3)) = some (.string ⟨x.digest.toArray⟩) := by
      intro i hi
      obtain ⟨cs', h1, h2⟩ := hx i (by omega)
      rw [ce] at h1
      obtain ⟨_, hlen, hcell⟩ := World.cells?_some h1
      obtain ⟨y0, y1, y2, y3, k, _, _, g0, g1, g2, g3⟩ := trod_struct4 he h2
      rw [o0, c0] at g0
      rw [o1, c1] at g1
      rw [o2, c2] at g2
      rw [o3, c3] at g3
      obtain ⟨n0, e0, _, w0⟩ := DataW.trod_int t0 g0
      obtain ⟨n1, e1, _, w1⟩ := DataW.trod_int t1 g1
      obtain ⟨n2, e2, _, w2⟩ := DataW.trod_int t2 g2
      obtain ⟨s3, e3, _, w3⟩ := DataW.trod_string t3 g3
      have q0 := hcell 0 (by omega)
      have q1 := hcell 1 (by omega)
      have q2 := hcell 2 (by omega)
      have q3 := hcell 3 (by omega)
      rw [add_add] at q0 q1 q2 q3
      rw [take1 e0] at q0
      rw [take1 e1] at q1
      rw [take1 e2] at q2
      rw [take1 e3] at q3
      have b0' : 0 ≤ n0 ∧ n0 < 18446744073709551616 := by simp [Lit.wf, IntKind.max, IntKind.min, IntKind.signed, IntKind.bits] at w0; omega
      have b1' : 0 ≤ n1 ∧ n1 < 18446744073709551616 := by simp [Lit.wf, IntKind.max, IntKind.min, IntKind.signed, IntKind.bits] at w1; omega
      have b2' : 0 ≤ n2 ∧ n2 < 18446744073709551616 := by simp [Lit.wf, IntKind.max, IntKind.min, IntKind.signed, IntKind.bits] at w2; omega
      refine ⟨⟨n0.toNat, n1.toNat, n2.toNat, s3.data.toList⟩, ⟨by simp only; omega, by simp only; omega, by simp only; omega, w3⟩, ?_, ?_, ?_, ?_⟩
      · simp only [Int.toNat_of_nonneg b0'.1]; exact q0
      · simp only [Int.toNat_of_nonneg b1'.1]; exact q1
      · simp only [Int.toNat_of_nonneg b2'.1]; exact q2
      · exact q3
    obtain ⟨f, hF⟩ := choose_lt each
    refine ⟨some a', len, cap, (List.range len).map f, rfl, by simp, by have : cap ≤ 9223372036854775807 := hm; omega, ?_, ?_⟩
    · intro x hxm
      obtain ⟨i, hi, rfl⟩ := List.mem_map.1 hxm
      exact (hF i (List.mem_range.1 hi)).1
    · by_cases h0 : len = 0
      · exact .inl h0
      · right
        obtain ⟨b, off, sp⟩ := a'
        have hs : sp = none := by
          have := (hF 0 (by omega)).2.1
          cases sp with
          | none => rfl
          | some _ =>
            exfalso
            unfold World.cell? at this
            split at this
            · simp [Addr.add] at this
            · cases this
        subst hs
        refine ⟨b, off, rfl, fun i hi => ?_⟩
        simp only [List.length_map, List.length_range] at hi
        obtain ⟨_, g0, g1, g2, g3⟩ := hF i hi
        have hadd : ∀ j, (⟨b, off, none⟩ : Addr).add j = ⟨b, off + j, none⟩ := fun j => by unfold Addr.add; split <;> simp_all
        rw [hadd] at g0 g1 g2 g3
        simp only [List.getElem_map, List.getElem_range]
        exact ⟨g0, g1, g2, g3⟩

theorem open_blocksF {H : Type} {enc : TypeId × Value → H} {P : Program} {w : World} {base : Nat} {spare : Nat → Bool} {held : Bool} {fuel : Nat} {t e : TypeId} {g0 g1 f0 f1 f2 f3 : Field} {v : Value} {y : DataW H × List MemPlace}
    (ht : P.underlying t = some (.slice e)) (he : P.underlying e = some (.struct #[g0, g1])) (ce : P.cellsOf e = 5) (p0 : g0.offset = 0) (p1 : g1.offset = 4) (k0 : P.cellsOf g0.type = 4) (k1 : P.cellsOf g1.type = 1) (hc : P.underlying g0.type = some (.struct #[f0, f1, f2, f3])) (o0 : f0.offset = 0) (o1 : f1.offset = 1) (o2 : f2.offset = 2) (o3 : f3.offset = 3)
    (c0 : P.cellsOf f0.type = 1) (c1 : P.cellsOf f1.type = 1) (c2 : P.cellsOf f2.type = 1) (c3 : P.cellsOf f3.type = 1) (t0 : P.underlying f0.type = some (.int .u64)) (t1 : P.underlying f1.type = some (.int .u64)) (t2 : P.underlying f2.type = some (.int .u64)) (t3 : P.underlying f3.type = some .string) (t4 : P.underlying g1.type = some .string)
    (hf : DataW.trod enc P w base spare held fuel t [v] = some y) :
    ∃ (a : Option Addr) (n c : Nat) (L : List BlkL), v = .slice a n c ∧ L.length = n ∧ n ≤ 9223372036854775807 ∧ (∀ x ∈ L, x.fit) ∧ (n = 0 ∨ ∃ b off, a = some ⟨b, off, none⟩ ∧ Bks w b off L) := by
  obtain ⟨a, len, cap, rfl⟩ : ∃ a len cap, v = .slice a len cap := by
    rcases open_slice ht hf with ⟨hcs, _⟩ | ⟨a', len', cap', m, n, D, Pl, hcs, _⟩
    · exact ⟨none, 0, 0, by simpa using hcs⟩
    · exact ⟨_, _, _, by simpa using hcs⟩
  rcases open_slice ht hf with ⟨hcs, _⟩ | ⟨a', len', cap', m, n, D, Pl, hcs, _, hl, hm, hmm, _, hx⟩
  · simp at hcs
    obtain ⟨rfl, rfl, rfl⟩ := hcs
    exact ⟨none, 0, 0, [], rfl, rfl, by omega, by simp, .inl rfl⟩
  · simp at hcs
    obtain ⟨rfl, rfl, rfl⟩ := hcs
    have hlm : len ≤ m := by rw [hmm]; split <;> omega
    have each : ∀ i, i < len → ∃ x : BlkL, x.fit ∧ w.cell? (a'.add (i * 5)) = some (.int .u64 (x.c.version : Nat)) ∧ w.cell? (a'.add (i * 5 + 1)) = some (.int .u64 (x.c.codec : Nat)) ∧ w.cell? (a'.add (i * 5 + 2)) = some (.int .u64 (x.c.code : Nat)) ∧ w.cell? (a'.add (i * 5 + 3)) = some (.string ⟨x.c.digest.toArray⟩) ∧ w.cell? (a'.add (i * 5 + 4)) = some (.string ⟨x.data.toArray⟩) := by
      intro i hi
      obtain ⟨cs', h1, h2⟩ := hx i (by omega)
      rw [ce] at h1
      obtain ⟨_, hlen, hcell⟩ := World.cells?_some h1
      obtain ⟨y, hy, r0, r1, r2, r3, r4⟩ := open_block_cells he p0 p1 k0 k1 hc o0 o1 o2 o3 c0 c1 c2 c3 t0 t1 t2 t3 t4 h2
      have q0 := hcell 0 (by omega)
      have q1 := hcell 1 (by omega)
      have q2 := hcell 2 (by omega)
      have q3 := hcell 3 (by omega)
      have q4 := hcell 4 (by omega)
      rw [add_add] at q0 q1 q2 q3 q4
      rw [r0] at q0
      rw [r1] at q1
      rw [r2] at q2
      rw [r3] at q3
      rw [r4] at q4
      exact ⟨y, hy, q0, q1, q2, q3, q4⟩
    obtain ⟨f, hF⟩ := choose_lt each
    refine ⟨some a', len, cap, (List.range len).map f, rfl, by simp, by have : cap ≤ 9223372036854775807 := hm; omega, ?_, ?_⟩
    · intro x hxm
      obtain ⟨i, hi, rfl⟩ := List.mem_map.1 hxm
      exact (hF i (List.mem_range.1 hi)).1
    · by_cases h0 : len = 0
      · exact .inl h0
      · right
        obtain ⟨b, off, sp⟩ := a'
        have hs : sp = none := by
          have := (hF 0 (by omega)).2.1
          cases sp with
          | none => rfl
          | some _ =>
            exfalso
            unfold World.cell? at this
            split at this
            · simp [Addr.add] at this
            · cases this
        subst hs
        refine ⟨b, off, rfl, fun i hi => ?_⟩
        simp only [List.length_map, List.length_range] at hi
        obtain ⟨_, g0, g1, g2, g3, g4⟩ := hF i hi
        have hadd : ∀ j, (⟨b, off, none⟩ : Addr).add j = ⟨b, off + j, none⟩ := fun j => by unfold Addr.add; split <;> simp_all
        rw [hadd] at g0 g1 g2 g3 g4
        simp only [List.getElem_map, List.getElem_range]
        exact ⟨g0, g1, g2, g3, g4⟩

theorem array2 {α : Type} {cs : Array α} (h : cs.size = 2) : ∃ c0 c1, cs = #[c0, c1] := by
  obtain ⟨l⟩ := cs
  match l, h with
  | [c0, c1], _ => exact ⟨c0, c1, rfl⟩
theorem list2 {α : Type} {cs : List α} (h : cs.length = 2) : ∃ c0 c1, cs = [c0, c1] := by
  match cs, h with
  | [c0, c1], _ => exact ⟨c0, c1, rfl⟩
theorem open_agg2 {H : Type} {enc : TypeId × Value → H} {P : Program} {w : World} {base : Nat} {spare : Nat → Bool} {held : Bool} {r : Reach} {b0 : Nat} {t : TypeId} {f0 f1 : Field} {v : Value} {d : DataW H} {p : List MemPlace} (hs : P.underlying t = some (.struct #[f0, f1]))
    (hone : oneCellFields P #[f0, f1] = true) (hC : P.cellsOf t = 2) (hv : Value.okWide P w r b0 t v) (h : DataW.Trod enc P w base spare held t v d p) :
    ∃ (v0 v1 : Value) (y0 y1 : DataW H × List MemPlace) (n : Nat), v = .agg #[v0, v1] ∧ d = .agg [y0.1, y1.1] ∧
      DataW.trod enc P w base spare held n f0.type [v0] = some y0 ∧ DataW.trod enc P w base spare held n f1.type [v1] = some y1 := by
  obtain ⟨cs, rfl, hsz⟩ := okWide_struct hs hv
  obtain ⟨c0, c1, rfl⟩ := array2 (hsz.trans hC)
  obtain ⟨fuel, hf⟩ := h
  obtain ⟨xs, n, _, hx, hl, hlen, hg⟩ := DataW.trod_struct hs hf
  obtain ⟨y0, y1, rfl⟩ := list2 (cs := xs) (by simpa using hlen)
  obtain ⟨o0, k0⟩ := hone_of hone 0 f0 rfl
  obtain ⟨o1, k1⟩ := hone_of hone 1 f1 rfl
  simp only [Prod.mk.injEq] at hx
  exact ⟨c0, c1, y0, y1, n, rfl, hx.1, by simpa [Value.cells, o0, k0] using hg 0 f0 rfl, by simpa [Value.cells, o1, k1] using hg 1 f1 rfl⟩

theorem fnWrExtract_law (a : Option Addr) (n c : Nat) (L : List CidL) (a2 : Option Addr) (n2 c2 : Nat) (B : List BlkL) (kd dd xx : Int) (over : List UInt8) (aE aU aO aM aS aA : Addr) (w : World) (hL : L.length = n) (hn : n ≤ 9223372036854775807) (hf : ∀ x ∈ L, x.fit) (hC : n = 0 ∨ ∃ b off, a = some ⟨b, off, none⟩ ∧ Cs w b off L)
    (hB : B.length = n2) (hn2 : n2 ≤ 9223372036854775807) (hf2 : ∀ x ∈ B, x.fit) (hK : n2 = 0 ∨ ∃ b off, a2 = some ⟨b, off, none⟩ ∧ Bks w b off B) (hk0 : 0 ≤ kd) (hd0 : 0 ≤ dd) (hd : dd < 256) (hx0 : 0 ≤ xx) (hx : xx < 256) (hov : over.length ≤ 9223372036854775807) (hE : EX aE aU aO aM aS aA w) :
    Calls Tryz.prog 3 #[.agg #[.slice a n c, .slice a2 n2 c2], .int .u64 kd, .int .u8 dd, .int .u8 xx, .string ⟨over.toArray⟩] w fun e w' => e = .returned (.bool true) ∧ Below w.heap.size w w' := by
  obtain ⟨k, rfl⟩ := Int.eq_ofNat_of_zero_le hk0
  obtain ⟨d, rfl⟩ := Int.eq_ofNat_of_zero_le hd0
  obtain ⟨x, rfl⟩ := Int.eq_ofNat_of_zero_le hx0
  exact fnWrExtract_walk a n c L a2 n2 c2 B k d x over aE aU aO aM aS aA w ⟨hL, hC, hB, hK⟩ hn hn2 hf hf2 (by omega) (by omega) hov hE
end Go.Proofs.YtlafdmmjbkdkaaaGreatDoor
