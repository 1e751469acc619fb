/-
  The walk of laws.FnCdReader. Conditions: the errors are as start-up lays them: io.EOF lies elsewhere than the others.
-/
import Derived.Test.YtgkhofnedhlgdaaDoorCdE
namespace Go.Proofs.YtgkhofnedhlgdaaDoor
open Go.RowKit

set_option maxRecDepth 100000 in
set_option maxHeartbeats 4000000 in
theorem fnCdReader_walk (l : List UInt8) (aE aU aO aM : Addr) (w : World) (hlm : l.length ≤ 9223372036854775807)
    (eE : Ee w 0 aE) (eU : Ee w 1 aU) (eO : Ee w 2 aO) (eM : Ee w 3 aM) (e2 : Er w 5) (e3 : Er w 7) (eS : Sr w 4)
    (xE : Eh w aE) (xU : Eh w aU) (xO : Eh w aO) (xM : Eh w aM) (yU : aU ≠ aE) (yO : aO ≠ aE) (yM : aM ≠ aE) :
    Calls Tryd.prog 6 #[.string ⟨l.toArray⟩] w fun e w' => e = .returned (.bool true) ∧ Below w.heap.size w w' := by
  by_cases hl : l.length ≤ 4096
  · have hd1 : decide ((2147483647 : Int) < (l.length : Int)) = false := by simp; omega
    have hd2 : decide ((4096 : Int) < (l.length : Int)) = false := by simp; omega
    have hone := fun W (hb : Below w.heap.size w W) => cdOne_any W (eO.er.old hb) (eM.er.old hb) (e2.old hb) (e3.old hb)
    obtain ⟨r, hr⟩ : ∃ r, cdRd l = r := ⟨_, rfl⟩
    have hs := fun W => streamCid_any l W (by omega)
    rw [hr] at hs
    cases r with
    | some y =>
      obtain ⟨x, k⟩ := y
      have hdl := (cdRd_some hr).2.2.2.1
      have hc := fun W (hb : Below w.heap.size w W) => cdReader_ok l x k aE aU aO aM W (by omega) hr (by omega) (eE.old hb) (eU.old hb) (eO.old hb) (eM.old hb) (e2.old hb) (e3.old hb)
      simp only [scOf] at hs
      have H := Lib.hid (And.intro hs (And.intro hc hone))
      clear hs hc hone hr eE eU eO eM e2 e3 eS xE xU xO xM yU yO yM hdl
      go_enter Tryd.func6, Tryd.ntmps6
      go_wp2_with fail
      refine (H.out.1 w).mono ?_
      rintro e w1 ⟨rfl, b1⟩
      have b01 := Old.alloc b1 (.cells #[.int .u64 x.version, .int .u64 x.codec, .int .u64 x.code, .string ⟨x.digest.toArray⟩] 30)
      have C1 := Blk.new w1 30 #[.int .u64 x.version, .int .u64 x.codec, .int .u64 x.code, .string ⟨x.digest.toArray⟩]
      clear b1
      go_wp2_with fail
      generalize w1.alloc (.cells #[.int .u64 x.version, .int .u64 x.codec, .int .u64 x.code, .string ⟨x.digest.toArray⟩] 30) = W1 at *
      refine (H.out.2.1 W1 b01).mono ?_
      rintro e w2 ⟨rfl, b2⟩
      have b03 := Old.alloc (Old.trans b01 b2) (.cells #[.int .u64 x.version, .int .u64 x.codec, .int .u64 x.code, .string ⟨x.digest.toArray⟩] 30)
      have C3 := (C1.old b2).alloc (.cells #[.int .u64 x.version, .int .u64 x.codec, .int .u64 x.code, .string ⟨x.digest.toArray⟩] 30)
      have A3 := Blk.new w2 30 #[.int .u64 x.version, .int .u64 x.codec, .int .u64 x.code, .string ⟨x.digest.toArray⟩]
      obtain ⟨W3, hW3⟩ : ∃ W3, w2.alloc (.cells #[.int .u64 x.version, .int .u64 x.codec, .int .u64 x.code, .string ⟨x.digest.toArray⟩] 30) = W3 := ⟨_, rfl⟩
      rw [hW3] at b03 C3 A3
      have p0 : W3.cell? ⟨w1.heap.size, 0, none⟩ = some (.int .u64 (x.version : Nat)) := C3.cell 0
      have p1 : W3.cell? ⟨w1.heap.size, 1, none⟩ = some (.int .u64 (x.codec : Nat)) := C3.cell 1
      have p2 : W3.cell? ⟨w1.heap.size, 2, none⟩ = some (.int .u64 (x.code : Nat)) := C3.cell 2
      have p3 : W3.cell? ⟨w1.heap.size, 3, none⟩ = some (.string ⟨x.digest.toArray⟩) := C3.cell 3
      have q0 : W3.cell? ⟨w2.heap.size, 0, none⟩ = some (.int .u64 (x.version : Nat)) := A3.cell 0
      have q1 : W3.cell? ⟨w2.heap.size, 1, none⟩ = some (.int .u64 (x.codec : Nat)) := A3.cell 1
      have q2 : W3.cell? ⟨w2.heap.size, 2, none⟩ = some (.int .u64 (x.code : Nat)) := A3.cell 2
      have q3 : W3.cell? ⟨w2.heap.size, 3, none⟩ = some (.string ⟨x.digest.toArray⟩) := A3.cell 3
      clear C1 b01 b2 C3 A3
      go_wp2_with fail
      refine (H.out.2.2 W3 b03).mono ?_
      rintro e w4 ⟨rfl, b4⟩
      go_wp2_with fail
      go_ret
      exact ⟨rfl, Old.trans b03 b4⟩
    | none =>
      have hc := fun W (hb : Below w.heap.size w W) => cdReader_bad l aE aU aO aM W (by omega) hr (eE.old hb) (eU.old hb) (eO.old hb) (eM.old hb) (e2.old hb) (e3.old hb) (eS.old hb) (xE.old hb) (xU.old hb) (xO.old hb) (xM.old hb) yU yO yM
      simp only [scOf] at hs
      obtain ⟨t, ht, ht0⟩ : ∃ t : Int, (if l = [] then 1 else 2) = t ∧ ¬ t = 0 := by
        by_cases h : l = []
        · exact ⟨1, if_pos h, by simp⟩
        · exact ⟨2, if_neg h, by simp⟩
      rw [ht] at hs
      have hc := fun W hb => (hc W hb).mono (fun e w' (h : CrbPost l W e w') => (show (∃ (c : Value) (q : Int), e = .returned (.tuple #[c, .int .i64 q, .int .u8 t]) ∧ ∃ a b d s, c = .agg #[.int .u64 a, .int .u64 b, .int .u64 d, .string s]) ∧ Below W.heap.size W w' from ht ▸ h))
      have H := Lib.hid (And.intro hs (And.intro hc hone))
      clear hs hc hone hr eE eU eO eM e2 e3 eS xE xU xO xM yU yO yM ht
      go_enter Tryd.func6, Tryd.ntmps6
      go_wp2_with fail
      refine (H.out.1 w).mono ?_
      rintro e w1 ⟨rfl, b1⟩
      have b01 := Old.alloc b1 (.cells #[.int .u64 0, .int .u64 0, .int .u64 0, .string ⟨#[]⟩] 30)
      clear b1
      go_wp2_with fail
      generalize w1.alloc (.cells #[.int .u64 0, .int .u64 0, .int .u64 0, .string ⟨#[]⟩] 30) = W1 at *
      refine (H.out.2.1 W1 b01).mono ?_
      rintro e w2 ⟨⟨c, q, rfl, a, b, d, s, rfl⟩, b2⟩
      have b03 := Old.alloc (Old.trans b01 b2) (.cells #[.int .u64 a, .int .u64 b, .int .u64 d, .string s] 30)
      clear b01 b2
      go_wp2_with fail
      generalize w2.alloc (.cells #[.int .u64 a, .int .u64 b, .int .u64 d, .string s] 30) = W3 at *
      refine (H.out.2.2 W3 b03).mono ?_
      rintro e w4 ⟨rfl, b4⟩
      go_wp2_with fail
      go_ret
      exact ⟨rfl, Old.trans b03 b4⟩
  · go_enter Tryd.func6, Tryd.ntmps6
    go_wp2_with fail
    all_goals go_ret
    all_goals exact ⟨rfl, Below.refl _ _⟩
end Go.Proofs.YtgkhofnedhlgdaaDoor
