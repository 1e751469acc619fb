/-
  The walk of impl.LdRead. Conditions: as the contract says.
-/
import Derived.Test.YtaionnajhgjekaaDoorLr
import Derived.Test.YtaionnajhgjekaaDoorSj
namespace Go.Proofs.YtaionnajhgjekaaDoor
open Go.RowKit

/-- What LdRead comes to. -/
def LqPost (v k most : Nat) (empty : Bool) (l : List UInt8) (w : World) (e : Ending) (w' : World) : Prop :=
  (if empty then e = .returned (.tuple #[.string ⟨#[]⟩, .int .i64 0, .int .u8 1]) else if v ≤ most then e = .returned (.tuple #[.string ⟨((l.drop k).take v).toArray⟩, .int .i64 ((k + v : Nat) : Int), .int .u8 0])
    else ∃ q : Int, e = .returned (.tuple #[.string ⟨#[]⟩, .int .i64 q, .int .u8 2])) ∧ Below w.heap.size w w'

set_option maxRecDepth 100000 in
set_option maxHeartbeats 4000000 in
theorem ldRead_any (v k most : Nat) (empty ze : Bool) (l : List UInt8) (aE aU aO aM aS : Addr) (w : World) (hl : l.length ≤ 1000000000) (hm : most < 18446744073709551616)
    (hr : if empty then l = [] else (uvRd l 0 0 = .ok v k ∧ 1 ≤ v ∧ v < 9223372036854775808)) (hfit : empty = false → v ≤ most → v + k ≤ l.length)
    (eE : Ee w 0 aE) (eU : Ee w 2 aU) (eO : Ee w 4 aO) (eM : Ee w 5 aM) (eS : Ee w 3 aS)
    (hE : Eh w aE) (hS : Eh w aS) (nS : aS ≠ aE) :
    Calls Tryd.prog 10 #[.string ⟨l.toArray⟩, .bool ze, .int .u64 (most : Nat)] w (LqPost v k most empty l w) := by
  have hcv := fun W => Lib.run_convert_string_bytes (P := Tryd.prog) W 9 48 5 ⟨l.toArray⟩ Tryd.underlying9 Tryd.underlying48 Tryd.underlying5
  have hb := bw_below w 5 ⟨l.toArray⟩
  have hbs := bw_bs w 5 ⟨l.toArray⟩
  have hsz := bw_size w 5 ⟨l.toArray⟩
  have hgc := grownCap_ge w (⟨l.toArray⟩ : ByteArray).size 0 5
  have gE := eE.lt
  have gU := eU.lt
  have gO := eO.lt
  have gM := eM.lt
  have gS := eS.lt
  have HX := Lib.hid (And.intro hE (And.intro hS (And.intro nS (And.intro True.intro (And.intro hr hfit)))))
  clear hE hS nS hr hfit
  go_enter Tryd.func10, Tryd.ntmps10
  go_wp2_with fail
  generalize Lib.bytesWorld w 5 ⟨l.toArray⟩ = W at *
  refine (newReader_any w.heap.size 0 _ _ W).mono ?_
  clear hcv
  rintro _ w1 ⟨rfl, hR, b1⟩
  rw [hsz] at hR
  have b01 := Old.trans hb b1
  have z1 := hR.lt
  have c1 := hbs.old b1
  obtain ⟨cap, hcap⟩ : ∃ cap, grownCap w (⟨l.toArray⟩ : ByteArray).size 0 5 = cap := ⟨_, rfl⟩
  obtain ⟨n, hn⟩ : ∃ n, l.length = n := ⟨_, rfl⟩
  have hn9 : n ≤ 1000000000 := by omega
  have hR' : Rdr w1 (w.heap.size + 1) w.heap.size 0 n cap 0 := by rw [← hn, ← hcap]; exact hR
  have hcn : n ≤ cap := by rw [← hn, ← hcap]; exact hgc
  have hlr := ldReadU_any (w.heap.size + 1) w.heap.size 0 n cap v k most empty ze l aE aU aO aM aS w1 hR' c1 hn.symm hcn hl (by omega) (by omega) hm HX.out.2.2.2.2.1 (fun h1 h2 => by have := HX.out.2.2.2.2.2 h1 h2; omega)
    (eE.old b01) (eU.old b01) (eO.old b01) (eM.old b01) (eS.old b01) (by omega) (by omega) (by omega) (by omega) (by omega)
  have HL := Lib.hid hlr
  have HH := Lib.hid (And.intro eE b01)
  have HN := Lib.hid hn
  clear hlr hR hR' c1 hbs hb b1 hgc hcap hn eE eU eO eM eS hl b01
  go_wp2_with fail
  clear hsz
  refine HL.out.mono ?_
  rintro e w2 ⟨K2, j, hj, R2, h1, h2, h3⟩
  have b02 : Below w.heap.size w w2 := below_kp HH.out.2 K2 (by omega) (by intro i hi; simp at hi; omega)
  have hLen := fun W (hb : Below w2.heap.size w2 W) => rdLen_any (w.heap.size + 1) w.heap.size 0 n cap j W (by obtain ⟨q, R2⟩ := R2; exact ⟨q, R2.old hb⟩) hj (by omega)
  have HLEN := Lib.hid hLen
  clear hLen HL K2 R2
  have hE2 := HH.out.1.old b02
  cases empty with
  | true =>
    obtain ⟨rfl, hj0⟩ := h1 rfl
    have HKD := Lib.hid (fun W (hb : Below w2.heap.size w2 W) => kind_eof aE W (hE2.old hb))
    have hcv : ∀ W : World, (convert 48 9 (.slice none 0 0)).run Tryd.prog W = .ok (.string ⟨#[]⟩) W := fun W => run_convert_bytes_nil W 48 5 Tryd.underlying48 Tryd.underlying5 0 0 9 Tryd.underlying9
    have HJ := Lib.hid hj0
    clear h1 h2 h3 hE2 hj0
    go_wp2_with fail
    go_region_with (first | (go_at_call 25; refine (HLEN.out _ ?_).mono ?_; exact (Below.refl _ _).drew; rintro _ w3 ⟨rfl, b3⟩) | (go_at_call 26; refine (HKD.out _ ?_).mono ?_; (first | exact (Below.refl _ _).drew | exact ((Below.refl w2.heap.size w2).drew).trans b3); rintro _ w4 ⟨rfl, rfl⟩))
    all_goals go_wp2_with fail
    all_goals go_ret3
    all_goals refine ⟨?_, Old.trans b02 (((Below.refl w2.heap.size w2).drew).trans b3)⟩
    all_goals exact congrArg (fun v : Int => Ending.returned (.tuple #[.string ⟨#[]⟩, .int .i64 v, .int .u8 1])) (show IntKind.i64.wrap ((l.length : Int) - ((n - j : Nat) : Int)) = 0 by rw [IntKind.wrap_i64, HJ.out, HN.out]; omega)
  | false =>
    by_cases hb : v ≤ most
    · obtain ⟨gd, rfl, hbs, hg1, hg2, hjk⟩ := h3 rfl hb
      have hvk := HX.out.2.2.2.2.2 rfl hb
      have hdl : v = ((l.drop k).take v).length := by rw [List.length_take, List.length_drop]; omega
      obtain ⟨D, hD⟩ : ∃ D, (l.drop k).take v = D := ⟨_, rfl⟩
      rw [hD] at hbs hdl
      have HKD := Lib.hid (fun W (_ : Below w2.heap.size w2 W) => kind_nil W)
      have hcvB := fun W (hb : Below w2.heap.size w2 W) => conv_str (P := Tryd.prog) Tryd.underlying48 Tryd.underlying5 Tryd.underlying9 (c := v) (hbs.old hb) hdl
      have HCV := Lib.hid hcvB
      have hcvd := HCV.out w2.drew (Below.refl _ _).drew
      have HJ := Lib.hid (And.intro hjk (And.intro hD hvk))
      clear h1 h2 h3 hE2 hjk hD hdl hcvB hbs hvk
      go_wp2_with fail
      go_region_with (first | (go_at_call 25; refine (HLEN.out _ ?_).mono ?_; exact (Below.refl _ _).drew; rintro _ w3 ⟨rfl, b3⟩; have hcv3 := HCV.out w3 (((Below.refl w2.heap.size w2).drew).trans b3)) | (go_at_call 26; refine (HKD.out _ ?_).mono ?_; (first | exact (Below.refl _ _).drew | exact ((Below.refl w2.heap.size w2).drew).trans b3); rintro _ w4 ⟨rfl, rfl⟩))
      all_goals go_wp2_with fail
      all_goals go_ret3
      all_goals refine ⟨?_, Old.trans b02 (((Below.refl w2.heap.size w2).drew).trans b3)⟩
      all_goals simp only [Bool.false_eq_true, if_false, if_pos hb, HJ.out.2.1]
      all_goals exact congrArg (fun v : Int => Ending.returned (.tuple #[.string ⟨D.toArray⟩, .int .i64 v, .int .u8 0])) (show IntKind.i64.wrap ((l.length : Int) - ((n - j : Nat) : Int)) = ((k + v : Nat) : Int) by rw [IntKind.wrap_i64]; have := HJ.out.2.2; have := HJ.out.1; have := HN.out; omega)
    · obtain rfl := h2 rfl (by omega)
      have HKD := Lib.hid (fun W (hb : Below w2.heap.size w2 W) => kind_other aS aE W (hE2.old hb) HX.out.2.2.1 ((HX.out.2.1.old b02).old hb) ((HX.out.1.old b02).old hb))
      have hcv : ∀ W : World, (convert 48 9 (.slice none 0 0)).run Tryd.prog W = .ok (.string ⟨#[]⟩) W := fun W => run_convert_bytes_nil W 48 5 Tryd.underlying48 Tryd.underlying5 0 0 9 Tryd.underlying9
      clear h1 h2 h3 hE2
      go_wp2_with fail
      go_region_with (first | (go_at_call 25; refine (HLEN.out _ ?_).mono ?_; exact (Below.refl _ _).drew; rintro _ w3 ⟨rfl, b3⟩) | (go_at_call 26; refine (HKD.out _ ?_).mono ?_; (first | exact (Below.refl _ _).drew | exact ((Below.refl w2.heap.size w2).drew).trans b3); rintro _ w4 ⟨rfl, rfl⟩))
      all_goals go_wp2_with fail
      all_goals go_ret3
      all_goals refine ⟨?_, Old.trans b02 (((Below.refl w2.heap.size w2).drew).trans b3)⟩
      all_goals simp only [Bool.false_eq_true, if_false, if_neg hb]
      all_goals exact ⟨_, rfl⟩
end Go.Proofs.YtaionnajhgjekaaDoor
