/-
  io.Copy, io.CopyN of a bytes.Reader into impl.memory; car.ExtractV1File. Conditions: as each contract says.
  car.ExtractV1File of a file of version 2. Conditions: as the contract says.
-/
import Derived.Test.YtlafdmmjbkdkaaaGreatDoorMd
import Derived.Test.YtlafdmmjbkdkaaaGreatDoorUa
import Derived.Test.YtlafdmmjbkdkaaaGreatDoorDa
namespace Go.Proofs.YtlafdmmjbkdkaaaGreatDoor
open Go.RowKit

set_option maxRecDepth 100000 in
theorem ioCopy (a b : Value) (k : Int) (w : World) (Post : World → Prop)
    (HR : Calls Tryz.prog 75 #[a, b, .slice none 0 0] w fun e w' => e = .returned (.tuple #[.int .i64 k, .nilIface]) ∧ Post w') :
    Calls Tryz.prog 53 #[a, b] w fun e w' => e = .returned (.tuple #[.int .i64 k, .nilIface]) ∧ Post w' := by
  have H := Lib.hid HR
  clear HR
  go_enter Tryz.func53, Tryz.ntmps53
  go_wp2_with fail
  refine H.out.mono ?_
  rintro e w1 ⟨rfl, hP⟩
  have HP := Lib.hid hP
  clear hP
  go_wp2_with fail
  go_ret2
  exact ⟨rfl, HP.out⟩

set_option maxRecDepth 100000 in
theorem limitReader_any (r : Nat) (k : Int) (w : World) :
    Calls Tryz.prog 54 #[.iface 51 (.pointer (some ⟨r, 0, none⟩)), .int .i64 k] w fun e w' => e = .returned (.iface 136 (.pointer (some ⟨w.heap.size, 0, none⟩))) ∧ w' = w.alloc (.cells #[.iface 51 (.pointer (some ⟨r, 0, none⟩)), .int .i64 k] 138) := by
  go_enter Tryz.func54, Tryz.ntmps54
  go_wp2_with fail
  go_ret
  exact ⟨rfl, rfl⟩

/-- What CopyN comes to. -/
def CnPost (s : List UInt8) (n0 f g0 r : Nat) (w : World) (e : Ending) (w' : World) : Prop :=
  e = .returned (.tuple #[.int .i64 (s.length : Nat), .nilIface]) ∧ (∃ g' cap' x, Mem w' f g' cap' x (s.length : Nat) ∧ x.length = max n0 s.length ∧ x.take s.length = s) ∧ Kp [f, g0, r] w w'

set_option maxRecDepth 100000 in
set_option maxHeartbeats 4000000 in
theorem copyN (l s : List UInt8) (u n0 f g0 cap0 r g n c : Nat) (x0 : List UInt8) (aE : Addr) (w : World) (hs : (l.drop u).take s.length = s) (hs0 : 0 < s.length) (hs2 : s.length ≤ 10000000)
    (h : Rdr w r g 0 n c u) (hc : Bs w g 0 l) (hn : n = l.length) (hu : u + s.length ≤ n) (hnc : n ≤ c) (hl : l.length ≤ 100000000) (hM : Mem w f g0 cap0 x0 0) (hx0 : x0.length = n0) (hn0 : n0 ≤ 10000000) (hE : Ee w 2 aE)
    (hd : r ≠ f ∧ r ≠ g0 ∧ r ≠ g ∧ g ≠ f ∧ g ≠ g0 ∧ 2 ≠ r ∧ 2 ≠ f ∧ 2 ≠ g0) (hgl : g < w.heap.size) :
    Calls Tryz.prog 31 #[.iface 44 (.pointer (some ⟨f, 0, none⟩)), .iface 51 (.pointer (some ⟨r, 0, none⟩)), .int .i64 (s.length : Nat)] w (CnPost s n0 f g0 r w) := by
  have hrl := h.lt
  have hfl := hM.F.lt
  have hg0l := hM.R.lt
  have hEl := hE.lt
  have b1 := Old.alloc (Below.refl w.heap.size w) (.cells #[.iface 51 (.pointer (some ⟨r, 0, none⟩)), .int .i64 (s.length : Nat)] 138)
  have B1 := Blk.new w 138 #[.iface 51 (.pointer (some ⟨r, 0, none⟩)), .int .i64 (s.length : Nat)]
  have ne : ∀ x, x < w.heap.size → w.heap.size ≠ x := fun x hx => Nat.ne_of_gt hx
  have hcb := copyBuf l s u n0 f g0 cap0 w.heap.size r g n c x0 aE _ B1 hs hs0 hs2 (h.old b1) (hc.old b1) hn hu hnc hl (hM.old b1) hx0 hn0 (hE.old b1)
    ⟨ne _ hrl, ne _ hfl, ne _ hg0l, ne _ hgl, hd.1, hd.2.1, hd.2.2.1, hd.2.2.2.1, hd.2.2.2.2.1, (ne _ hEl).symm, hd.2.2.2.2.2.1, hd.2.2.2.2.2.2.1, hd.2.2.2.2.2.2.2⟩ (Nat.lt_of_lt_of_le hgl b1.size)
  have hcp := ioCopy _ _ _ _ _ hcb
  have H := Lib.hid (And.intro hcp b1)
  obtain ⟨N, hN⟩ : ∃ N, s.length = N := ⟨_, rfl⟩
  have HN := Lib.hid hN
  unfold CnPost
  rw [hN] at H ⊢
  clear hcb hcp hs hs0 hs2 h hc hn hu hnc hl hM hx0 hn0 hE hd B1 b1 hN
  go_enter Tryz.func31, Tryz.ntmps31
  go_wp2_with fail
  refine (limitReader_any _ _ w).mono ?_
  rintro e w1 ⟨rfl, rfl⟩
  go_wp2_with fail
  refine H.out.1.mono ?_
  rintro e w2 ⟨rfl, hP, hK⟩
  have HP := Lib.hid (And.intro hP hK)
  clear hP hK
  go_wp2_with fail
  go_ret2
  exact ⟨rfl, HP.out.1, ((Kp.of_below H.out.2 [f, g0, r]).step HP.out.2 (by simp))⟩

set_option maxRecDepth 100000 in
set_option maxHeartbeats 4000000 in
theorem extract1 (L : List CidL) (r g n c f g8 b0 b1 b2 b3 b4 b5 b6 b7 : Nat) (rest l : List UInt8) (aE aU aO aM aS aA : Addr) (w w0 : World) (hLn : L.length ≤ 100) (hL : ∀ x ∈ L, x.tidy ∧ x.digest.length ≤ 200) (hpl : l = hdrB (wrR L) ++ rest) (h : Rdr w r g 0 n c 0) (hc : Bs w g 0 l) (hn : n = l.length) (hnc : n ≤ c) (hl : l.length ≤ 1000000000) (hgr : g ≠ r) (hglt : g < w.heap.size)
    (h0 : Below w0.heap.size w0 w) (hE : EX aE aU aO aM aS aA w0) (hr0 : w0.heap.size ≤ r) (hO : Opts w g8 b0 b1 b2 b3 b4 b5 b6 b7) :
    Calls Tryz.prog 14 #[.iface 51 (.pointer (some ⟨r, 0, none⟩)), .iface 44 (.pointer (some ⟨f, 0, none⟩)), .slice (some ⟨g8, 0, none⟩) 8 8] w fun e w' => e = .returned (.iface 110 (.pointer (some aA))) ∧ Kp [r] w w' := by
  have HR := readVerX r 1 g8 b0 b1 b2 b3 b4 b5 b6 b7 (fun W w' => Kp [r] W w') w hO (fun W hW => by
    refine (readHead1 L r g n c rest l aE aU aO aM aS aA W w0 hLn hL hpl (h.old hW) (hc.old hW) hn hnc hl hgr (Nat.lt_of_lt_of_le hglt hW.size) (Old.trans h0 hW) hE hr0).mono ?_
    rintro e w' ⟨ch, rfl, ⟨rg, rn, rc, hB⟩, _, hK⟩
    exact ⟨ch, rfl, ⟨_, hB⟩, hK⟩)
  have H := Lib.hid HR
  have HE := Lib.hid (And.intro (hE.eA.old h0) (And.intro hE.eA.lt h0.size))
  clear HR hpl h hc hn hnc hl hgr hglt h0 hE hO hL
  go_enter Tryz.func14, Tryz.ntmps14
  go_wp2_with fail
  refine H.out.mono ?_
  rintro e w1 ⟨rfl, W, hW, hK⟩
  have k1 : Kp [r] w w1 := (Kp.of_below hW [r]).trans hK
  have qA : w1.cell? ⟨0, 0, none⟩ = some (.iface 110 (.pointer (some aA))) := HE.out.1.kp k1 (by have := HE.out.2; simp; omega)
  have HK := Lib.hid k1
  clear k1 hW hK
  go_wp2_with fail
  go_ret
  exact ⟨rfl, HK.out⟩
end Go.Proofs.YtlafdmmjbkdkaaaGreatDoor

namespace Go.Proofs.YtlafdmmjbkdkaaaGreatDoor
open Go.RowKit

theorem seek_m (r : Nat) (W : World) : (method 424 51 (.pointer (some ⟨r, 0, none⟩)) "Seek").run Tryz.prog W = .ok (206, .pointer (some ⟨r, 0, none⟩)) W := by kernel_rfl
theorem memSz_m (f : Nat) (W : World) : (method 424 44 (.pointer (some ⟨f, 0, none⟩)) "Size").run Tryz.prog W = .ok (198, .pointer (some ⟨f, 0, none⟩)) W := by kernel_rfl
theorem memTr_m (f : Nat) (W : World) : (method 424 44 (.pointer (some ⟨f, 0, none⟩)) "Truncate").run Tryz.prog W = .ok (199, .pointer (some ⟨f, 0, none⟩)) W := by kernel_rfl

/-- What ExtractV1File of a file of version 2 comes to. -/
def XtPost (s : List UInt8) (f g0 r : Nat) (w : World) (e : Ending) (w' : World) : Prop :=
  e = .returned .nilIface ∧ (∃ g' cap', Mem w' f g' cap' s (s.length : Nat)) ∧ Kp [f, g0, r] w w'

set_option maxRecDepth 100000 in
set_option maxHeartbeats 8000000 in
theorem extract2 (r g n c f g0 cap0 g8 b0 b1 b2 b3 b4 b5 b6 b7 u : Nat) (z : Int) (x0 s rest l : List UInt8) (aE aU aO aM aS aA : Addr) (w w0 : World) (hpl : l = 10 :: (pt ++ rest)) (h40 : (l.drop 11).take 40 = hdBytes 0 0 (u : Nat) (s.length : Nat) z) (hz : 0 ≤ z ∧ z < 9223372036854775808) (hu51 : 51 ≤ u) (hu9 : u ≤ 1000) (hs : (l.drop u).take s.length = s) (hs0 : 0 < s.length) (hs2 : s.length ≤ 10000000)
    (h : Rdr w r g 0 n c 0) (hc : Bs w g 0 l) (hn : n = l.length) (hu : u + s.length ≤ n) (hnc : n ≤ c) (hl : l.length ≤ 100000000) (hM : Mem w f g0 cap0 x0 0) (hn0 : x0.length ≤ 10000000)
    (hd : r ≠ f ∧ r ≠ g0 ∧ r ≠ g ∧ g ≠ f ∧ g ≠ g0) (hgl : g < w.heap.size)
    (h0 : Below w0.heap.size w0 w) (hE : EX aE aU aO aM aS aA w0) (hr0 : w0.heap.size ≤ r ∧ w0.heap.size ≤ f ∧ w0.heap.size ≤ g0) (hO : Opts w g8 b0 b1 b2 b3 b4 b5 b6 b7) :
    Calls Tryz.prog 14 #[.iface 51 (.pointer (some ⟨r, 0, none⟩)), .iface 44 (.pointer (some ⟨f, 0, none⟩)), .slice (some ⟨g8, 0, none⟩) 8 8] w (XtPost s f g0 r w) := by
  have HR := readVerX r 2 g8 b0 b1 b2 b3 b4 b5 b6 b7 (fun W w' => Rdr w' r g 0 n c 11 ∧ Kp [r] W w') w hO (fun W hW => by
    refine (readHead2 r g n c rest l aE aU aO aM aS aA W w0 hpl (h.old hW) (hc.old hW) hn hnc (by omega) (fun e => hd.2.2.1 e.symm) (Nat.lt_of_lt_of_le hgl hW.size) (Old.trans h0 hW) hE hr0.1).mono ?_
    rintro e w' ⟨ch, rfl, hB, _, hR, hK⟩
    exact ⟨ch, rfl, hB, hR, hK⟩)
  have HR := Lib.hid HR
  have qE := hE.eE.lt
  have qU := hE.eU.lt
  have hrl := h.lt
  have hfl := hM.F.lt
  have hg0l := hM.R.lt
  have h0s := h0.size
  have hrE : 2 ≠ r ∧ 2 ≠ f ∧ 2 ≠ g0 ∧ 7 ≠ r := by omega
  have hsk := fun W => seek_m r W
  have hsz := fun W => memSz_m f W
  have htr := fun W => memTr_m f W
  obtain ⟨N, hN⟩ : ∃ N, s.length = N := ⟨_, rfl⟩
  rw [hN] at h40 hs hs0 hs2 hu
  have hd51 : decide ((u : Int) < 51) = false := by rw [decide_eq_false_iff_not]; omega
  have hdN : decide ((N : Int) ≤ 0) = false := by rw [decide_eq_false_iff_not]; omega
  have hN0 : ¬ N = 0 := by omega
  have hwu : IntKind.i64.wrap (u : Int) = (u : Int) := by rw [IntKind.wrap_i64]; omega
  have hwN : IntKind.i64.wrap (N : Int) = (N : Int) := by rw [IntKind.wrap_i64]; omega
  have HI := Lib.hid (And.intro h (And.intro hc (And.intro hM (And.intro hE (And.intro hd (And.intro hrE (And.intro h0 (And.intro hN (And.intro h40 hs)))))))))
  have HJ := Lib.hid (And.intro hn (And.intro hu (And.intro hnc (And.intro hl (And.intro hn0 (And.intro hs0 (And.intro hs2 (And.intro hz (And.intro hu51 (And.intro hu9 (And.intro hr0 hgl)))))))))))
  clear h hc hM hE hd hrE h0 hN h40 hs hpl hO hn hu hnc hl hn0 hs0 hs2 hz hu51 hu9 hr0 hgl qE qU h0s
  go_enter Tryz.func14, Tryz.ntmps14
  go_wp2_with fail
  refine HR.out.mono ?_
  rintro e w1 ⟨rfl, W, hW, R1, hK⟩
  have k1 : Kp [r] w w1 := (Kp.of_below hW [r]).trans hK
  obtain ⟨hb, hhb⟩ : ∃ hb, w1.heap.size = hb := ⟨_, rfl⟩
  have s1 := k1.size
  have b2 := Old.alloc (Below.refl w1.heap.size w1) (.cells #[.int .u64 0, .int .u64 0, .int .u64 0, .int .u64 0, .int .u64 0] 77)
  have B2 : Blk (w1.alloc (.cells #[.int .u64 0, .int .u64 0, .int .u64 0, .int .u64 0, .int .u64 0] 77)) hb 77 #[.int .u64 0, .int .u64 0, .int .u64 0, .int .u64 0, .int .u64 0] := by rw [← hhb]; exact Blk.new _ _ _
  have k2 := k1.old b2
  have R2 := R1.old b2
  clear hW hK k1 R1
  go_wp2_with fail
  obtain ⟨h, hc, hM, hE, hd, hrE, h0, hN, h40, hs⟩ := HI.out
  obtain ⟨hn, hu, hnc, hl, hn0, hs0, hs2, hz, hu51, hu9, hr0, hgl⟩ := HJ.out
  have s2 := b2.size
  generalize w1.alloc (.cells #[.int .u64 0, .int .u64 0, .int .u64 0, .int .u64 0, .int .u64 0] 77) = w2 at *
  have E2 := (hE.old h0).eE.kp k2 (by simpa using hrE.1)
  have U2 := (hE.old h0).eU.kp k2 (by simpa using hrE.2.2.2)
  have hEl := (hE.old h0).eE.lt
  have hUl := (hE.old h0).eU.lt
  have C2 := hc.kp k2 (by simpa using fun e => hd.2.2.1 e.symm)
  have M2 := hM.kp k2 (by simpa using hd.1.symm) (by simpa using hd.2.1.symm)
  have hh := headReadI hb r g 0 n c 11 0 0 (u : Nat) (N : Nat) z l (.int .u64 0) (.int .u64 0) (.int .u64 0) (.int .u64 0) (.int .u64 0) aE aU w2 (by omega) (by omega) (by omega) (by omega) hz B2 R2 C2 h40 hn (by omega) hnc (by omega) (by clear hd hrE; omega) (fun e => hd.2.2.1 e.symm) (by clear hd hrE; omega) (by clear hd hrE; omega) E2 U2 ⟨hrE.1, by clear hd hrE; omega⟩ ⟨hrE.2.2.2, by clear hd hrE; omega⟩
  refine hh.mono ?_
  rintro e w3 ⟨rfl, R3, B3, k3⟩
  have hbw : w.heap.size ≤ hb := by clear hd hrE; omega
  have k03 : Kp [r] w w3 := k2.step k3 (by simp [hbw])
  have M3 := hM.kp k03 (by simpa using hd.1.symm) (by simpa using hd.2.1.symm)
  have C3 := hc.kp k03 (by simpa using fun e => hd.2.2.1 e.symm)
  have E3 := (hE.old h0).eE.kp k03 (by simpa using hrE.1)
  have p2 : w3.cell? ⟨hb, 2, none⟩ = some (.int .u64 (u : Nat)) := B3.cell 2
  have p3 : w3.cell? ⟨hb, 3, none⟩ = some (.int .u64 (N : Nat)) := B3.cell 3
  have HK := Lib.hid (And.intro R3 (And.intro B3 (And.intro k03 (And.intro M3 (And.intro C3 E3)))))
  clear R3 B3 k03 M3 C3 E3 k3 hh B2 R2 C2 M2 E2 U2 k2 b2 h hc hM hE hd hrE h0 hN h40 hs hn hu hnc hl hn0 hs0 hs2 hz hu51 hu9 hr0 hgl s1 s2
  go_wp2_with fail
  refine (rdSeek r g n c (11 + 40) u w3 HK.out.1).mono ?_
  rintro e w4 ⟨rfl, R4, k4⟩
  obtain ⟨h, hc, hM, hE, hd, hrE, h0, hN, h40, hs⟩ := HI.out
  obtain ⟨hn, hu, hnc, hl, hn0, hs0, hs2, hz, hu51, hu9, hr0, hgl⟩ := HJ.out
  have k04 := HK.out.2.2.1.step k4 (by simp)
  have M4 := hM.kp k04 (by simpa using hd.1.symm) (by simpa using hd.2.1.symm)
  have C4 := hc.kp k04 (by simpa using fun e => hd.2.2.1 e.symm)
  have E4 := (hE.old h0).eE.kp k04 (by simpa using hrE.1)
  have s4 := k04.size
  have hcn := copyN l s u x0.length f g0 cap0 r g n c x0 aE w4 (by rw [hN]; exact hs) (by rw [hN]; exact hs0) (by rw [hN]; exact hs2) R4 C4 hn (by rw [hN]; exact hu) hnc hl M4 rfl hn0 E4 ⟨hd.1, hd.2.1, hd.2.2.1, hd.2.2.2.1, hd.2.2.2.2, hrE.1, hrE.2.1, hrE.2.2.1⟩ (Nat.lt_of_lt_of_le hgl s4)
  unfold CnPost at hcn
  rw [hN] at hcn
  have HC := Lib.hid (And.intro hcn k04)
  have HB4 := Lib.hid (HK.out.2.1)
  clear hcn k04 M4 C4 E4 R4 k4 h hc hM hE hd hrE h0 hN h40 hs hn hu hnc hl hn0 hs0 hs2 hz hu51 hu9 hr0 hgl s4 p2 p3
  go_wp2_with fail
  refine HC.out.1.mono ?_
  rintro e w5 ⟨rfl, ⟨g', cap', x, M5, hxl, hxt⟩, k5⟩
  have k05 : Kp [f, g0, r] w w5 := (HC.out.2.weaken (by simp)).step k5 (by simp)
  have hms := memSize f g' cap' x _ w5 M5
  obtain ⟨X, hX⟩ : ∃ X, x.length = X := ⟨_, rfl⟩
  rw [hX] at hms hxl
  have HS := Lib.hid hms
  have HM := Lib.hid (And.intro M5 (And.intro hxl (And.intro hxt (And.intro k05 hX))))
  clear M5 hxl hxt k05 hX k5 hms
  by_cases hgt : N < X
  · have hdg : decide ((N : Int) < (X : Int)) = true := by rw [decide_eq_true_eq]; omega
    go_wp2_with fail
    refine HS.out.mono ?_
    rintro e w6 ⟨rfl, rfl⟩
    go_wp2_with fail
    obtain ⟨M5, hxl, hxt, k05, hX⟩ := HM.out
    refine (memTrunc f g' cap' N x _ _ M5 (by omega)).mono ?_
    rintro e w7 ⟨rfl, M7, k7⟩
    rw [hxt] at M7
    have HF := Lib.hid (And.intro M7 (k05.step k7 (by simp)))
    clear M5 hxl hxt k05 hX M7 k7
    go_wp2_with fail
    go_ret
    refine ⟨rfl, ⟨g', cap', ?_⟩, HF.out.2⟩
    rw [HI.out.2.2.2.2.2.2.2.1]
    exact HF.out.1
  · have hdg : decide ((N : Int) < (X : Int)) = false := by rw [decide_eq_false_iff_not]; omega
    go_wp2_with fail
    refine HS.out.mono ?_
    rintro e w6 ⟨rfl, rfl⟩
    go_wp2_with fail
    go_ret
    obtain ⟨M5, hxl, hxt, k05, hX⟩ := HM.out
    have hxs : x = s := by rw [← hxt, List.take_of_length_le (by omega)]
    rw [hxs] at M5
    refine ⟨rfl, ⟨g', cap', ?_⟩, k05⟩
    rw [HI.out.2.2.2.2.2.2.2.1]
    exact M5
end Go.Proofs.YtlafdmmjbkdkaaaGreatDoor
