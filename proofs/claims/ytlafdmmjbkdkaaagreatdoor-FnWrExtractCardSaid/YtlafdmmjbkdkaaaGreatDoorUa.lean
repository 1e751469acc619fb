/-
  carv1.ReadHeader and car.ReadVersion over a bytes.Reader of a file of version 1 or 2. Conditions: as each contract says.
-/
import Derived.Test.YtlafdmmjbkdkaaaGreatDoorJGt
import Derived.Test.YtlafdmmjbkdkaaaGreatDoorLr
import Derived.Test.YtlafdmmjbkdkaaaGreatDoorJOa
import Derived.Test.YtlafdmmjbkdkaaaGreatDoorAb
namespace Go.Proofs.YtlafdmmjbkdkaaaGreatDoor
open Go.RowKit

/-- The errors that lie in the package variables. -/
structure EX (aE aU aO aM aS aA : Addr) (w : World) : Prop where
  eE : Ee w 2 aE
  eU : Ee w 7 aU
  eO : Ee w 10 aO
  eM : Ee w 11 aM
  eS : Ee w 3 aS
  eA : Ee w 0 aA
  e5 : E5 w
theorem EX.old {aE aU aO aM aS aA : Addr} {w w' : World} (h : EX aE aU aO aM aS aA w) (b : Below w.heap.size w w') : EX aE aU aO aM aS aA w' :=
  ⟨h.eE.old b, h.eU.old b, h.eO.old b, h.eM.old b, h.eS.old b, h.eA.old b, h.e5.old b⟩

/-- util.LdRead of a text that begins with a length below 2^25 and as many bytes. -/
theorem ldReadX (r g n c v k : Nat) (l : List UInt8) (aE aU aO aM aS aA : Addr) (w w0 : World) (h : Rdr w r g 0 n c 0) (hc : Bs w g 0 l) (hn : n = l.length) (hnc : n ≤ c) (hl : l.length ≤ 1000000000) (hgr : g ≠ r) (hglt : g < w.heap.size) (hv : 1 ≤ v ∧ v ≤ 33554432) (hr : uvRd l 0 0 = .ok v k) (hfit : v + k ≤ n)
    (h0 : Below w0.heap.size w0 w) (hE : EX aE aU aO aM aS aA w0) (hr0 : w0.heap.size ≤ r) :
    Calls Tryz.prog 72 #[.iface 51 (.pointer (some ⟨r, 0, none⟩)), .bool false, .int .u64 33554432] w fun e w' => ∃ gd, e = .returned (.tuple #[.slice (some ⟨gd, 0, none⟩) v v, .nilIface]) ∧ Bs w' gd 0 ((l.drop k).take v) ∧ w.heap.size ≤ gd ∧ gd < w'.heap.size ∧ Rdr w' r g 0 n c (k + v) ∧ Kp [r] w w' := by
  have E := hE.old h0
  have q1 := hE.eE.lt
  have q2 := hE.eU.lt
  have q3 := hE.eO.lt
  have q4 := hE.eM.lt
  have q5 := hE.eS.lt
  have hh := ldReadU_any r g 0 n c v k 33554432 false false l aE aU aO aM aS w h hc hn hnc hl hgr hglt (by omega) (by simp only [Bool.false_eq_true, if_false]; exact ⟨hr, hv.1, by omega⟩) (fun _ _ => hfit) E.eE E.eU E.eO E.eM E.eS (by omega) (by omega) (by omega) (by omega) (by omega)
  refine hh.mono ?_
  rintro e w' ⟨hk, j, hj, hR, _, _, h3⟩
  obtain ⟨gd, rfl, h4, h5, h6, rfl⟩ := h3 rfl hv.2
  exact ⟨gd, rfl, h4, h5, h6, hR, hk⟩

theorem uvarint_ten : Lib.uvarint 10 = [10] := by rw [Lib.uvarint_small (by omega)]; rfl

set_option maxRecDepth 100000 in
set_option maxHeartbeats 4000000 in
theorem readHead2 (r g n c : Nat) (rest l : List UInt8) (aE aU aO aM aS aA : Addr) (w w0 : World) (hpl : l = 10 :: (pt ++ rest)) (h : Rdr w r g 0 n c 0) (hc : Bs w g 0 l) (hn : n = l.length) (hnc : n ≤ c) (hl : l.length ≤ 1000000000) (hgr : g ≠ r) (hglt : g < w.heap.size)
    (h0 : Below w0.heap.size w0 w) (hE : EX aE aU aO aM aS aA w0) (hr0 : w0.heap.size ≤ r) :
    Calls Tryz.prog 49 #[.iface 51 (.pointer (some ⟨r, 0, none⟩)), .int .u64 33554432] w fun e w' => ∃ ch, e = .returned (.tuple #[.pointer (some ⟨ch, 0, none⟩), .nilIface]) ∧
      (∃ rv, Blk w' ch 109 #[rv, .int .u64 2]) ∧ w.heap.size ≤ ch ∧ Rdr w' r g 0 n c 11 ∧ Kp [r] w w' := by
  have hu := uvRd_uvarint 10 (pt ++ rest) (by omega)
  rw [uvarint_ten] at hu
  have hup : uvRd l 0 0 = .ok 10 1 := by rw [hpl]; exact hu
  have hl10 : 10 + 1 ≤ n := by rw [hn, hpl]; simp [pt]
  have hd : (l.drop 1).take 10 = pt := by rw [hpl]; simp [pt]
  have HR := Lib.hid (ldReadX r g n c 10 1 l aE aU aO aM aS aA w w0 h hc hn hnc hl hgr hglt (by omega) hup hl10 h0 hE hr0)
  have HE := Lib.hid (And.intro hE.eE (And.intro h0 hd))
  have hEl := hE.eE.lt
  have h0s := h0.size
  have hrl := h.lt
  clear hpl h hc hn hnc hl hgr hglt hup hu h0 hE hd
  go_enter Tryz.func49, Tryz.ntmps49
  go_wp2_with fail
  refine HR.out.mono ?_
  rintro e w1 ⟨G, rfl, hB, hGl, hG1, hR1, k1⟩
  rw [HE.out.2.2] at hB
  have s1 := k1.size
  obtain ⟨ch, hch⟩ : ∃ ch, w1.heap.size = ch := ⟨_, rfl⟩
  have b2 := Old.alloc (Below.refl w1.heap.size w1) (.cells #[.slice none 0 0, .int .u64 0] 109)
  have C2 : Blk (w1.alloc (.cells #[.slice none 0 0, .int .u64 0] 109)) ch 109 (chC 0) := by rw [← hch]; exact Blk.new _ _ _
  have B2 := hB.old b2
  have E1 := (HE.out.1.old HE.out.2.1).kp k1 (by simp; omega)
  have E2 := E1.old b2
  have R2 := hR1.old b2
  have HK := Lib.hid (k1.alloc (.cells #[.slice none 0 0, .int .u64 0] 109))
  clear k1 hB E1 hR1
  go_wp2_with fail
  have s2 := b2.size
  generalize w1.alloc (.cells #[.slice none 0 0, .int .u64 0] 109) = w2 at *
  refine (decHead G ch aE w2 B2 C2 E2 (by omega) (by omega) (by omega)).mono ?_
  rintro e w3 ⟨rfl, C3, k3⟩
  have R3 : Rdr w3 r g 0 n c 11 := by
    obtain ⟨x, R2⟩ := R2
    exact ⟨x, R2.kp k3 (by simp; omega)⟩
  have HC := Lib.hid (And.intro C3 (And.intro k3 R3))
  have hcw : w.heap.size ≤ ch := by omega
  clear C3 k3 C2 B2 E2 hch R2 R3
  go_wp2_with fail
  go_ret2
  exact ⟨ch, rfl, ⟨_, HC.out.1⟩, hcw, HC.out.2.2, HK.out.step HC.out.2.1 (by simp; omega)⟩

set_option maxRecDepth 100000 in
set_option maxHeartbeats 4000000 in
theorem readHead1 (L : List CidL) (r g n c : Nat) (rest l : List UInt8) (aE aU aO aM aS aA : Addr) (w w0 : World) (hLn : L.length ≤ 100) (hL : ∀ x ∈ L, x.tidy ∧ x.digest.length ≤ 200) (hpl : l = hdrB (wrR L) ++ rest) (h : Rdr w r g 0 n c 0) (hc : Bs w g 0 l) (hn : n = l.length) (hnc : n ≤ c) (hl : l.length ≤ 1000000000) (hgr : g ≠ r) (hglt : g < w.heap.size)
    (h0 : Below w0.heap.size w0 w) (hE : EX aE aU aO aM aS aA w0) (hr0 : w0.heap.size ≤ r) :
    Calls Tryz.prog 49 #[.iface 51 (.pointer (some ⟨r, 0, none⟩)), .int .u64 33554432] w fun e w' => ∃ ch, e = .returned (.tuple #[.pointer (some ⟨ch, 0, none⟩), .nilIface]) ∧
      (∃ rg rn rc, Blk w' ch 109 #[.slice (some ⟨rg, 0, none⟩) rn rc, .int .u64 1]) ∧ w.heap.size ≤ ch ∧ Kp [r] w w' := by
  have hTl := hdT_len L hL hLn
  have hT1 : 1 ≤ (hdT (wrR L)).length := by unfold hdT; simp
  obtain ⟨T, hT⟩ : ∃ T, hdT (wrR L) = T := ⟨_, rfl⟩
  rw [hdrB, List.append_assoc] at hpl
  rw [hT] at hpl hTl hT1
  have hup := uvRd_uvarint T.length (T ++ rest) (by omega)
  rw [← hpl] at hup
  have hfit : T.length + (Lib.uvarint T.length).length ≤ n := by rw [hn, hpl]; simp only [List.length_append]; omega
  have hd : (l.drop (Lib.uvarint T.length).length).take T.length = T := by rw [hpl, List.drop_left, List.take_left]
  have HR := Lib.hid (ldReadX r g n c T.length (Lib.uvarint T.length).length l aE aU aO aM aS aA w w0 h hc hn hnc hl hgr hglt (by omega) hup hfit h0 hE hr0)
  have HE := Lib.hid (And.intro hE (And.intro h0 (And.intro hd (And.intro hT.symm hL))))
  have hEl := hE.eE.lt
  have h0s := h0.size
  have hrl := h.lt
  clear hpl h hc hn hnc hl hgr hglt hup h0 hE hd hL hfit
  go_enter Tryz.func49, Tryz.ntmps49
  go_wp2_with fail
  refine HR.out.mono ?_
  rintro e w1 ⟨G, rfl, hB, hGl, hG1, _, k1⟩
  rw [HE.out.2.2.1] at hB
  have s1 := k1.size
  obtain ⟨ch, hch⟩ : ∃ ch, w1.heap.size = ch := ⟨_, rfl⟩
  have b2 := Old.alloc (Below.refl w1.heap.size w1) (.cells #[.slice none 0 0, .int .u64 0] 109)
  have C2 : Blk (w1.alloc (.cells #[.slice none 0 0, .int .u64 0] 109)) ch 109 (chC 0) := by rw [← hch]; exact Blk.new _ _ _
  have B2 := hB.old b2
  have E1 := (HE.out.1.eE.old HE.out.2.1).kp k1 (by simp; omega)
  have E2 := E1.old b2
  have b0 : Below w0.heap.size w0 (w1.alloc (.cells #[.slice none 0 0, .int .u64 0] 109)) := (below_kp HE.out.2.1 k1 HE.out.2.1.size (by simpa using hr0)).alloc (by omega) _
  have HK := Lib.hid (k1.alloc (.cells #[.slice none 0 0, .int .u64 0] 109))
  clear k1 hB E1
  go_wp2_with fail
  have s2 := b2.size
  generalize w1.alloc (.cells #[.slice none 0 0, .int .u64 0] 109) = w2 at *
  refine (decHead1 T L G T.length ch aE w2 w0 hLn HE.out.2.2.2.2 HE.out.2.2.2.1 (Nat.le_refl _) B2 C2 E2 (by omega) (by omega) (by omega) b0 HE.out.1.e5 (by omega)).mono ?_
  rintro e w3 ⟨rfl, C3, k3⟩
  have HC := Lib.hid (And.intro C3 k3)
  have hcw : w.heap.size ≤ ch := by omega
  clear C3 k3 C2 B2 E2 hch b0
  go_wp2_with fail
  go_ret2
  exact ⟨ch, rfl, HC.out.1, hcw, HK.out.step HC.out.2 (by simp; omega)⟩

set_option maxRecDepth 100000 in
set_option maxHeartbeats 4000000 in
theorem readVerX (r ver g8 b0 b1 b2 b3 b4 b5 b6 b7 : Nat) (Post : World → World → Prop) (w : World) (hO : Opts w g8 b0 b1 b2 b3 b4 b5 b6 b7)
    (HR : ∀ W, Below w.heap.size w W → Calls Tryz.prog 49 #[.iface 51 (.pointer (some ⟨r, 0, none⟩)), .int .u64 33554432] W fun e w' => ∃ ch, e = .returned (.tuple #[.pointer (some ⟨ch, 0, none⟩), .nilIface]) ∧
      (∃ rv, Blk w' ch 109 #[rv, .int .u64 (ver : Nat)]) ∧ Post W w') :
    Calls Tryz.prog 28 #[.iface 51 (.pointer (some ⟨r, 0, none⟩)), .slice (some ⟨g8, 0, none⟩) 8 8] w fun e w' => e = .returned (.tuple #[.int .u64 (ver : Nat), .nilIface]) ∧ ∃ W, Below w.heap.size w W ∧ Post W w' := by
  have HF := Lib.hid (And.intro hO HR)
  clear hO HR
  go_enter Tryz.func28, Tryz.ntmps28
  go_wp2_with fail
  refine (applyOptions_any g8 b0 b1 b2 b3 b4 b5 b6 b7 w HF.out.1).mono ?_
  rintro e w1 ⟨rfl, k1⟩
  unfold optR
  have k2 := Old.alloc k1 (.cells optR.toArray 102)
  unfold optR at k2
  go_wp2_with fail
  generalize w1.alloc _ = w2 at *
  refine (HF.out.2 w2 k2).mono ?_
  rintro e w3 ⟨ch, rfl, ⟨rv, C3⟩, hP⟩
  have c1 : w3.cell? ⟨ch, 1, none⟩ = some (.int .u64 (ver : Nat)) := C3.cell 1
  have HK := Lib.hid (And.intro k2 hP)
  clear C3 k2 hP
  go_wp2_with fail
  go_ret2
  exact ⟨rfl, _, HK.out⟩
end Go.Proofs.YtlafdmmjbkdkaaaGreatDoor
