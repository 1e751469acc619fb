/-
  The walks of impl.UvReader and laws.FnUvReader. Conditions: the errors are as start-up lays them: io.EOF lies elsewhere than the others.
-/
import Derived.Test.YtgkhofnedhlgdaaDoorRd
import Derived.Test.YtgkhofnedhlgdaaDoorUvL
import Derived.Test.YtgkhofnedhlgdaaDoorMhL
namespace Go.Proofs.YtgkhofnedhlgdaaDoor
open Go.RowKit

/-- What UvReader comes to. -/
def UrPost (res : UvR) (n : Nat) (w : World) (e : Ending) (w' : World) : Prop :=
  Below w.heap.size w w' ∧ match res with
    | .ok x s => e = .returned (.tuple #[.int .u64 x, .int .i64 s, .int .u8 0])
    | .ends => ∃ m : Int, e = .returned (.tuple #[.int .u64 0, .int .i64 m, .int .u8 (if n = 0 then 1 else 2)])
    | _ => ∃ m : Int, e = .returned (.tuple #[.int .u64 0, .int .i64 m, .int .u8 2])

set_option maxRecDepth 100000 in
set_option maxHeartbeats 2000000 in
theorem uvReader_any (l : List UInt8) (aE aU aO aM : Addr) (w : World) (hl : l.length ≤ 2147483647)
    (eE : Ee w 0 aE) (eU : Ee w 1 aU) (eO : Ee w 2 aO) (eM : Ee w 3 aM)
    (hE : Eh w aE) (hU : Eh w aU) (hO : Eh w aO) (hM : Eh w aM) (nU : aU ≠ aE) (nO : aO ≠ aE) (nM : aM ≠ aE) :
    Calls Tryd.prog 10 #[.string ⟨l.toArray⟩] w (UrPost (uvRd l 0 0) l.length w) := by
  have hcv := fun W => Lib.run_convert_string_bytes (P := Tryd.prog) W 9 51 5 ⟨l.toArray⟩ Tryd.underlying9 Tryd.underlying51 Tryd.underlying5
  have hb := bw_below w 5 ⟨l.toArray⟩
  have hbs := bw_bs w 5 ⟨l.toArray⟩
  have hsz := bw_size w 5 ⟨l.toArray⟩
  obtain ⟨res, hres⟩ : ∃ res, uvRd l 0 0 = res := ⟨_, rfl⟩
  rw [hres]
  have HR := Lib.hid hres
  clear hres
  have HN := Lib.hid (And.intro nU (And.intro nO nM))
  clear nU nO nM
  have gE := eE.lt
  have gU := eU.lt
  have gO := eO.lt
  have gM := eM.lt
  go_enter Tryd.func10, Tryd.ntmps10
  go_wp2_with fail
  generalize Lib.bytesWorld w 5 ⟨l.toArray⟩ = W at *
  refine (newReader_any w.heap.size 0 _ _ W).mono ?_
  clear hcv
  rintro _ w1 ⟨rfl, hR, b1⟩
  rw [hsz] at hR
  have b01 := Old.trans hb b1
  have z1 := hR.lt
  go_wp2_with fail
  refine (readUvarint_any (w.heap.size + 1) w.heap.size 0 _ _ 0 l aE aU aO aM w1 hR (hbs.old b1) rfl (Nat.zero_le _) (by omega) (by omega) (eE.old b01) (eU.old b01) (eO.old b01) (eM.old b01) (by omega) (by omega) (by omega) (by omega)).mono ?_
  rw [List.drop_zero, HR.out]
  rintro e w2 ⟨hK, j, hj, hR2, he⟩
  have b02 : Below w.heap.size w w2 := below_kp b01 hK (by omega) (by intro i hi; simp at hi; omega)
  have hlj : j ≤ l.length := hj
  have hE2 := hE.old b02
  have hU2 := hU.old b02
  have hO2 := hO.old b02
  have hM2 := hM.old b02
  have eE2 := eE.old b02
  cases res with
  | ok x s =>
    obtain ⟨rfl, rfl⟩ := he
    go_wp2_with fail
    refine (rdLen_any (w.heap.size + 1) w.heap.size 0 _ _ (0 + s) w2 hR2 hj (by show l.length ≤ _; omega)).mono ?_
    rintro _ w3 ⟨rfl, b3⟩
    have b03 := Old.trans b02 b3
    go_wp2_with fail
    refine (kind_nil w3).mono ?_
    rintro _ w4 ⟨rfl, rfl⟩
    go_wp2_with fail
    go_ret3
    refine ⟨b03, ?_⟩
    have hs : ((l.length : Int) - ((l.length - (0 + s) : Nat) : Int)) = (s : Int) := by omega
    exact congrArg (fun v => Ending.returned (.tuple #[.int .u64 x, .int .i64 v, .int .u8 0])) (by rw [← hs]; simp)
  | ends =>
    by_cases h0 : l.length = 0
    · rw [if_pos h0.symm] at he
      subst he
      have H0 := Lib.hid h0
      clear h0
      go_wp2_with fail
      refine (rdLen_any (w.heap.size + 1) w.heap.size 0 _ _ j w2 hR2 hj (by show l.length ≤ _; omega)).mono ?_
      rintro _ w3 ⟨rfl, b3⟩
      have b03 := Old.trans b02 b3
      go_wp2_with fail
      refine (kind_eof aE w3 (eE2.old b3)).mono ?_
      rintro _ w4 ⟨rfl, rfl⟩
      go_wp2_with fail
      go_ret3
      exact ⟨b03, _, by rw [if_pos H0.out]; rfl⟩
    · rw [if_neg (fun h => h0 h.symm)] at he
      subst he
      have H0 := Lib.hid h0
      clear h0
      go_wp2_with fail
      refine (rdLen_any (w.heap.size + 1) w.heap.size 0 _ _ j w2 hR2 hj (by show l.length ≤ _; omega)).mono ?_
      rintro _ w3 ⟨rfl, b3⟩
      have b03 := Old.trans b02 b3
      go_wp2_with fail
      refine (kind_other aU aE w3 (eE2.old b3) HN.out.1 (hU2.old b3) (hE2.old b3)).mono ?_
      rintro _ w4 ⟨rfl, rfl⟩
      go_wp2_with fail
      go_ret3
      exact ⟨b03, _, by rw [if_neg H0.out]; rfl⟩
  | long =>
    subst he
    go_wp2_with fail
    refine (rdLen_any (w.heap.size + 1) w.heap.size 0 _ _ j w2 hR2 hj (by show l.length ≤ _; omega)).mono ?_
    rintro _ w3 ⟨rfl, b3⟩
    have b03 := Old.trans b02 b3
    go_wp2_with fail
    refine (kind_other aO aE w3 (eE2.old b3) HN.out.2.1 (hO2.old b3) (hE2.old b3)).mono ?_
    rintro _ w4 ⟨rfl, rfl⟩
    go_wp2_with fail
    go_ret3
    exact ⟨b03, _, rfl⟩
  | needless =>
    subst he
    go_wp2_with fail
    refine (rdLen_any (w.heap.size + 1) w.heap.size 0 _ _ j w2 hR2 hj (by show l.length ≤ _; omega)).mono ?_
    rintro _ w3 ⟨rfl, b3⟩
    have b03 := Old.trans b02 b3
    go_wp2_with fail
    refine (kind_other aM aE w3 (eE2.old b3) HN.out.2.2 (hM2.old b3) (hE2.old b3)).mono ?_
    rintro _ w4 ⟨rfl, rfl⟩
    go_wp2_with fail
    go_ret3
    exact ⟨b03, _, rfl⟩

set_option maxRecDepth 100000 in
set_option maxHeartbeats 2000000 in
theorem fnUvReader_walk (l : List UInt8) (aE aU aO aM : Addr) (w : World) (hlm : l.length ≤ 9223372036854775807)
    (eE : Ee w 0 aE) (eU : Ee w 1 aU) (eO : Ee w 2 aO) (eM : Ee w 3 aM) (eR : Er w 5)
    (hE : Eh w aE) (hU : Eh w aU) (hO : Eh w aO) (hM : Eh w aM) (nU : aU ≠ aE) (nO : aO ≠ aE) (nM : aM ≠ aE) :
    Calls Tryd.prog 3 #[.string ⟨l.toArray⟩] w fun e w' => e = .returned (.bool true) ∧ Below w.heap.size w w' := by
  by_cases hl : l.length ≤ 4096
  · have hr := fun W (hb : Below w.heap.size w W) => uvReader_any l aE aU aO aM W (by omega) (eE.old hb) (eU.old hb) (eO.old hb) (eM.old hb) (hE.old hb) (hU.old hb) (hO.old hb) (hM.old hb) nU nO nM
    have hone := fun W (hb : Below w.heap.size w W) => uvOne_any W (eO.er.old hb) (eM.er.old hb) (eR.old hb)
    have H := Lib.hid (And.intro hr hone)
    clear hr hone eE eU eO eM eR hE hU hO hM nU nO nM
    obtain ⟨res, hres⟩ : ∃ res, uvRd l 0 0 = res := ⟨_, rfl⟩
    have HR := Lib.hid hres
    clear hres
    go_enter Tryd.func3, Tryd.ntmps3
    go_wp2_with fail
    refine (specRead_any l w (by omega)).mono ?_
    rw [HR.out]
    rintro e w1 ⟨rfl, rfl⟩
    cases res with
    | ok x s =>
      have hpos := uvRd_ok0 HR.out
      have hne : l.isEmpty = false := by cases l with | nil => (exfalso; simp only [List.length_nil] at hpos; omega) | cons _ _ => rfl
      clear hpos
      simp only [rvOf]
      go_wp2_with fail
      refine (H.out.1 w (Below.refl _ _)).mono ?_
      rw [HR.out]
      rintro e w2 ⟨b2, rfl⟩
      go_wp2_with fail
      go_ret
      exact ⟨rfl, b2⟩
    | ends =>
      simp only [rvOf]
      by_cases h0 : l.length = 0
      · have hne : l.isEmpty = true := by cases l with | nil => rfl | cons _ _ => simp at h0
        have H0 := Lib.hid h0
        clear h0
        go_wp2_with fail
        refine (H.out.1 w (Below.refl _ _)).mono ?_
        rw [HR.out]
        rintro e w2 ⟨b2, m, he⟩
        rw [if_pos H0.out] at he
        subst he
        go_wp2_with fail
        refine (H.out.2 w2 b2).mono ?_
        rintro e w3 ⟨rfl, b3⟩
        go_wp2_with fail
        go_ret
        exact ⟨rfl, Old.trans b2 b3⟩
      · have hne : l.isEmpty = false := by cases l with | nil => simp at h0 | cons _ _ => rfl
        have H0 := Lib.hid h0
        clear h0
        go_wp2_with fail
        refine (H.out.1 w (Below.refl _ _)).mono ?_
        rw [HR.out]
        rintro e w2 ⟨b2, m, he⟩
        rw [if_neg H0.out] at he
        subst he
        go_wp2_with fail
        refine (H.out.2 w2 b2).mono ?_
        rintro e w3 ⟨rfl, b3⟩
        go_wp2_with fail
        go_ret
        exact ⟨rfl, Old.trans b2 b3⟩
    | long =>
      have hne : l.isEmpty = false := by cases l with | nil => (have := HR.out; simp [uvRd] at this) | cons _ _ => rfl
      simp only [rvOf]
      go_wp2_with fail
      refine (H.out.1 w (Below.refl _ _)).mono ?_
      rw [HR.out]
      rintro e w2 ⟨b2, m, rfl⟩
      go_wp2_with fail
      refine (H.out.2 w2 b2).mono ?_
      rintro e w3 ⟨rfl, b3⟩
      go_wp2_with fail
      go_ret
      exact ⟨rfl, Old.trans b2 b3⟩
    | needless =>
      have hne : l.isEmpty = false := by cases l with | nil => (have := HR.out; simp [uvRd] at this) | cons _ _ => rfl
      simp only [rvOf]
      go_wp2_with fail
      refine (H.out.1 w (Below.refl _ _)).mono ?_
      rw [HR.out]
      rintro e w2 ⟨b2, m, rfl⟩
      go_wp2_with fail
      refine (H.out.2 w2 b2).mono ?_
      rintro e w3 ⟨rfl, b3⟩
      go_wp2_with fail
      go_ret
      exact ⟨rfl, Old.trans b2 b3⟩
  · go_enter Tryd.func3, Tryd.ntmps3
    go_wp2_with fail
    all_goals go_ret
    all_goals exact ⟨rfl, Below.refl _ _⟩
end Go.Proofs.YtgkhofnedhlgdaaDoor
