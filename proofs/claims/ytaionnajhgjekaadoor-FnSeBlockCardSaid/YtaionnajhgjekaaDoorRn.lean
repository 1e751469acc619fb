/-
  The walk of util.ReadNode over a bytes.Reader. Conditions: as the contract says.
-/
import Derived.Test.YtaionnajhgjekaaDoorLr
import Derived.Test.YtaionnajhgjekaaDoorCdF
namespace Go.Proofs.YtaionnajhgjekaaDoor
open Go.RowKit

/-- What ReadNode comes to: a block of the identifier x and the data d behind a length of k bytes; or, where there is nothing, the end. -/
def RnPost (r g o n c k : Nat) (x : CidL) (d : List UInt8) (w : World) (e : Ending) (w' : World) : Prop :=
  Kp [r] w w' ∧ ∃ gd od cd, e = .returned (.tuple #[.agg #[.string ⟨x.wr.toArray⟩], .slice (some ⟨gd, od, none⟩) d.length cd, .nilIface]) ∧ Bs w' gd od d ∧ Rdr w' r g o n c (k + (x.wr.length + d.length))

set_option maxRecDepth 100000 in
set_option maxHeartbeats 4000000 in
theorem readNode_ok (r g o n c k most : Nat) (ze : Bool) (x : CidL) (d l more : List UInt8) (aE aU aO aM aS : Addr) (w : World) (h : Rdr w r g o n c 0) (hc : Bs w g o l) (hn : n = l.length) (hnc : n ≤ c) (hl : l.length ≤ 1000000000) (hgr : g ≠ r) (hglt : g < w.heap.size) (hm : most < 18446744073709551616)
    (hr : uvRd l 0 0 = .ok (x.wr.length + d.length) k) (hdl : l.drop k = x.wr ++ d ++ more) (hx : x.tidy) (hxd : x.digest.length ≤ 4096) (hxl : 0 < x.wr.length) (hfit : x.wr.length + d.length ≤ most)
    (eE : Ee w 0 aE) (eU : Ee w 2 aU) (eO : Ee w 4 aO) (eM : Ee w 5 aM) (eS : Ee w 3 aS) (e2 : Er w 7) (e3 : Er w 8)
    (rE : r ≠ 0) (rU : r ≠ 2) (rO : r ≠ 4) (rM : r ≠ 5) (rS : r ≠ 3) (r2 : r ≠ 7) (r3 : r ≠ 8) :
    Calls Tryd.prog 31 #[.iface 60 (.pointer (some ⟨r, 0, none⟩)), .bool ze, .int .u64 (most : Nat)] w (RnPost r g o n c k x d w) := by
  obtain ⟨_, uk1, uk2, _⟩ := uvRd_ok0 hr
  have hlen : l.length = k + (x.wr.length + d.length) + more.length := by
    have h1 : (l.drop k).length = (x.wr ++ d ++ more).length := by rw [hdl]
    simp only [List.length_drop, List.length_append] at h1
    omega
  have hrl := h.lt
  have b0 := Old.alloc (Below.refl w.heap.size w) (.cells #[.string ⟨#[]⟩] 72)
  have B0 := Blk.new w 72 #[.string ⟨#[]⟩]
  have hlr := fun W (hb : Below w.heap.size w W) => ldReadU_any r g o n c (x.wr.length + d.length) k most false ze l aE aU aO aM aS W (by obtain ⟨q, h⟩ := h; exact ⟨q, h.old hb⟩) (hc.old hb) hn hnc hl hgr (Nat.lt_of_lt_of_le hglt hb.size) hm ⟨hr, by omega, by omega⟩ (fun _ _ => by omega)
    (eE.old hb) (eU.old hb) (eO.old hb) (eM.old hb) (eS.old hb) rE rU rO rM rS
  have hD : (l.drop k).take (x.wr.length + d.length) = x.wr ++ d := by rw [hdl, List.take_left' (by rw [List.length_append])]
  have hcr := cdRd_wr x d hx (by omega)
  obtain ⟨q, hq⟩ : ∃ q, x.wr.length = q := ⟨_, rfl⟩
  obtain ⟨v, hv⟩ : ∃ v, q + d.length = v := ⟨_, rfl⟩
  have hv9 : v ≤ 1000000000 := by omega
  have hdq : (x.wr ++ d).drop q = d := by rw [← hq, List.drop_left]
  have hDl : (x.wr ++ d).length = v := by rw [List.length_append]; omega
  unfold RnPost
  rw [hq] at hlr hD hcr hfit hxl ⊢
  rw [hv] at hlr hD hfit ⊢
  have HR := Lib.hid hlr
  have HD := Lib.hid (And.intro hD (And.intro hcr (And.intro hdq (And.intro hDl (And.intro hv (And.intro hxl hfit))))))
  have HE := Lib.hid (And.intro eO.er (And.intro eM.er (And.intro e2 (And.intro e3 (And.intro rO (And.intro rM (And.intro r2 r3)))))))
  clear hlr hD hcr hdq hDl hr hdl hx hxd hq hlen h hc hn hnc hl hgr hglt eE eU eO eM eS e2 e3 rE rU rO rM rS r2 r3 uk1 uk2 hm hxl hfit
  go_enter Tryd.func31, Tryd.ntmps31
  go_wp2_with fail
  generalize w.alloc (.cells #[.string ⟨#[]⟩] 72) = W0 at *
  refine (HR.out W0 b0).mono ?_
  rintro e w1 ⟨K1, j, hj, R1, _, _, h3⟩
  obtain ⟨gd, rfl, hbs, hg1, hg2, hjk⟩ := h3 rfl HD.out.2.2.2.2.2.2
  clear h3
  rw [HD.out.1] at hbs
  have z0 := B0.lt
  have B0l : w.heap.size < gd := by omega
  have B1 := B0.kp K1 (by simp; omega)
  have K01 : Kp [r] w w1 := (Kp.of_below b0 [r]).trans K1
  have hcb := cidFromBytes_ok gd 0 v v (x.wr ++ d) x q w1 HD.out.2.2.2.1.symm (by rw [HD.out.2.2.2.1]; omega) (by rw [HD.out.2.2.2.1]; exact Nat.le_refl _) hbs hg2 HD.out.2.1
    (HE.out.1.kp K01 (by simpa using fun h => HE.out.2.2.2.2.1 h.symm)) (HE.out.2.1.kp K01 (by simpa using fun h => HE.out.2.2.2.2.2.1 h.symm)) (HE.out.2.2.1.kp K01 (by simpa using fun h => HE.out.2.2.2.2.2.2.1 h.symm)) (HE.out.2.2.2.1.kp K01 (by simpa using fun h => HE.out.2.2.2.2.2.2.2 h.symm))
  have HC := Lib.hid hcb
  have HJ := Lib.hid hjk
  clear hcb hjk HR b0 B0
  go_wp2_with fail
  refine HC.out.mono ?_
  rintro e w2 ⟨rfl, b2⟩
  have B2 := B1.old b2
  have K02 := K01.old b2
  have hbs2 := hbs.old b2
  have R2 : Rdr w2 r g o n c j := by obtain ⟨q, R1⟩ := R1; exact ⟨q, R1.old b2⟩
  have B3 := B2.alloc (.cells #[.string ⟨x.wr.toArray⟩] 72)
  have K03 := K02.alloc (.cells #[.string ⟨x.wr.toArray⟩] 72)
  have hbs3 := hbs2.alloc (.cells #[.string ⟨x.wr.toArray⟩] 72)
  have R3 : Rdr (w2.alloc (.cells #[.string ⟨x.wr.toArray⟩] 72)) r g o n c j := by obtain ⟨q, R2⟩ := R2; exact ⟨q, R2.alloc _⟩
  have C3 := Blk.new w2 72 #[.string ⟨x.wr.toArray⟩]
  clear HC B1 K01 hbs R1 B2 K02 hbs2 R2 b2
  go_wp2_with fail
  generalize w2.alloc (.cells #[.string ⟨x.wr.toArray⟩] 72) = w3 at *
  have q3 : w3.cell? ⟨w2.heap.size, 0, none⟩ = some (.string ⟨x.wr.toArray⟩) := C3.cell 0
  have q0 : w3.cell? ⟨w.heap.size, 0, none⟩ = some (.string ⟨#[]⟩) := B3.cell 0
  have f0 := B3.frozen 0
  have hqv : (q : Int) ≤ (v : Int) := by have := HD.out.2.2.2.2.1; omega
  have hq0 : (0 : Int) ≤ (q : Int) := by omega
  have K04 := (K03.setCell (p := ⟨w.heap.size, 0, none⟩) (.inr (Nat.le_refl _)) (.string ⟨x.wr.toArray⟩)).drewN 1
  have hgw : gd ≠ w.heap.size := by have := B0l; omega
  have hbs4 : Bs ((w3.setCell ⟨w.heap.size, 0, none⟩ (.string ⟨x.wr.toArray⟩)).drewN 1) gd 0 (x.wr ++ d) := (hbs3.far (p := ⟨w.heap.size, 0, none⟩) hgw _).drewN 1
  have R4 : Rdr ((w3.setCell ⟨w.heap.size, 0, none⟩ (.string ⟨x.wr.toArray⟩)).drewN 1) r g o n c j := by obtain ⟨q, R3⟩ := R3; exact ⟨q, (R3.far (p := ⟨w.heap.size, 0, none⟩) (by show r ≠ w.heap.size; omega) _).drewN 1⟩
  have hcut := hbs4.cut (k := q) (cap := v) (by rw [HD.out.2.2.2.1]; exact Nat.le_refl _)
  rw [HD.out.2.2.1] at hcut
  have HZ := Lib.hid (And.intro K04 (And.intro hcut R4))
  have hdv : d.length = v - q := by have := HD.out.2.2.2.2.1; omega
  have HV := Lib.hid hdv
  clear K04 hcut R4 hbs4 R3 hbs3 hdv
  by_cases hvq : v = q
  all_goals
    go_region
    all_goals go_wp2_with fail
    all_goals refine bodyPost_ret (ret_cell_tmp_tmp rfl rfl ((B3.set_ 0 (.string ⟨x.wr.toArray⟩)).drew) Tryd.underlying72 (by kernel_rfl)) rfl ?_
    all_goals first | rw [HV.out, show v - q = 0 from by omega] | rw [HV.out]
    all_goals refine ⟨HZ.out.1, gd, _, _, rfl, ?_, by rw [← HJ.out]; exact HZ.out.2.2⟩
    all_goals have hcut := HZ.out.2.1
    all_goals first | (rw [if_pos hvq] at hcut; exact hcut) | (rw [if_neg hvq, Nat.zero_add] at hcut; exact hcut)

set_option maxRecDepth 100000 in
set_option maxHeartbeats 2000000 in
theorem readNode_end (r g o n c most : Nat) (ze : Bool) (l : List UInt8) (aE aU aO aM aS : Addr) (w : World) (h : Rdr w r g o n c 0) (hc : Bs w g o l) (hn : n = l.length) (hnc : n ≤ c) (hl : l = []) (hgr : g ≠ r) (hglt : g < w.heap.size) (hm : most < 18446744073709551616)
    (eE : Ee w 0 aE) (eU : Ee w 2 aU) (eO : Ee w 4 aO) (eM : Ee w 5 aM) (eS : Ee w 3 aS)
    (rE : r ≠ 0) (rU : r ≠ 2) (rO : r ≠ 4) (rM : r ≠ 5) (rS : r ≠ 3) :
    Calls Tryd.prog 31 #[.iface 60 (.pointer (some ⟨r, 0, none⟩)), .bool ze, .int .u64 (most : Nat)] w fun e w' => e = .returned (.tuple #[.agg #[.string ⟨#[]⟩], .slice none 0 0, .iface 154 (.pointer (some aE))]) ∧ Rdr w' r g o n c 0 ∧ Kp [r] w w' := by
  have hrl := h.lt
  have b0 := Old.alloc (Below.refl w.heap.size w) (.cells #[.string ⟨#[]⟩] 72)
  have B0 := Blk.new w 72 #[.string ⟨#[]⟩]
  have hlr := fun W (hb : Below w.heap.size w W) => ldReadU_any r g o n c 0 0 most true ze l aE aU aO aM aS W (by obtain ⟨q, h⟩ := h; exact ⟨q, h.old hb⟩) (hc.old hb) hn hnc (by rw [hl]; simp) hgr (Nat.lt_of_lt_of_le hglt hb.size) hm (by simp only [if_true]; exact hl) (fun h => by (cases h))
    (eE.old hb) (eU.old hb) (eO.old hb) (eM.old hb) (eS.old hb) rE rU rO rM rS
  have HR := Lib.hid hlr
  clear hlr h hc hn hnc hl hgr hglt eE eU eO eM eS rE rU rO rM rS
  go_enter Tryd.func31, Tryd.ntmps31
  go_wp2_with fail
  generalize w.alloc (.cells #[.string ⟨#[]⟩] 72) = W0 at *
  refine (HR.out W0 b0).mono ?_
  rintro e w1 ⟨K1, j, hj, R1, h1, _, _⟩
  obtain ⟨rfl, hj0⟩ := h1 rfl
  subst hj0
  have B1 := B0.kp K1 (by simp; omega)
  have K01 : Kp [r] w w1 := (Kp.of_below b0 [r]).trans K1
  have q0 : w1.cell? ⟨w.heap.size, 0, none⟩ = some (.string ⟨#[]⟩) := B1.cell 0
  have f0 := B1.frozen 0
  have z1 := B1.lt
  clear h1 HR
  go_wp2_with fail
  refine bodyPost_ret (ret_cell_tmp_tmp rfl rfl (B1.set_ 0 (.string ⟨#[]⟩)) Tryd.underlying72 (by kernel_rfl)) rfl ?_
  exact ⟨rfl, by obtain ⟨q, R1⟩ := R1; exact ⟨q, R1.far (p := ⟨w.heap.size, 0, none⟩) (by show r ≠ w.heap.size; omega) _⟩, K01.setCell (p := ⟨w.heap.size, 0, none⟩) (.inr (Nat.le_refl _)) _⟩
end Go.Proofs.YtaionnajhgjekaaDoor
