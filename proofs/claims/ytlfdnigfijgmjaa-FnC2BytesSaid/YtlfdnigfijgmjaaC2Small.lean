/-
  The walks of C2HasIndex, C2New and of the laws FnC2HasIndex, FnC2New: each returns true at every argument, and nothing that was there has turned. Conditions: none.
-/
import Derived.Test.YtlfdnigfijgmjaaProg
import Derived.Test.YtlfdnigfijgmjaaBase
import Derived.Deep.QuietTactic
import Derived.BigQuiet
import Derived.Deep.RegionWith
import Derived.Deep.RegionHeld3
namespace Go.Proofs.Ytlfdnigfijgmjaa
open Go.RowKit

set_option maxRecDepth 100000 in
theorem headIn_any (a b c d e : Int) (w : World) :
    Calls Try.prog 10 #[.agg #[.int .u64 a, .int .u64 b, .int .u64 c, .int .u64 d, .int .u64 e]] w fun r w' => r = .returned (.agg #[.int .u64 a, .int .u64 b, .int .u64 c, .int .u64 d, .int .u64 e]) ∧ Below w.heap.size w w' := by
  go_enter Try.func10, Try.ntmps10
  go_wp2
  refine bodyPost_ret (v := .agg #[.int .u64 a, .int .u64 b, .int .u64 c, .int .u64 d, .int .u64 e]) (by simp [results, Try.results10, go_sem]) rfl ⟨rfl, ?_⟩
  exact ((Below.refl _ _).alloc (by simp) _).alloc (by simp) _

set_option maxRecDepth 100000 in
theorem headOut_any (a b c d e : Int) (w : World) :
    Calls Try.prog 12 #[.agg #[.int .u64 a, .int .u64 b, .int .u64 c, .int .u64 d, .int .u64 e]] w fun r w' => r = .returned (.agg #[.int .u64 a, .int .u64 b, .int .u64 c, .int .u64 d, .int .u64 e]) ∧ Below w.heap.size w w' := by
  go_enter Try.func12, Try.ntmps12
  go_wp2
  refine bodyPost_ret (v := .agg #[.int .u64 a, .int .u64 b, .int .u64 c, .int .u64 d, .int .u64 e]) (by simp [results, Try.results12, go_sem]) rfl ⟨rfl, ?_⟩
  exact ((Below.refl _ _).alloc (by simp) _).alloc (by simp) _

set_option maxRecDepth 100000 in
theorem hasIndex_any (a b c d e : Int) (w : World) :
    Calls Try.prog 11 #[.agg #[.int .u64 a, .int .u64 b, .int .u64 c, .int .u64 d, .int .u64 e]] w fun r w' => r = .returned (.bool (!(e == 0))) ∧ Below w.heap.size w w' := by
  go_enter Try.func11, Try.ntmps11
  go_wp2
  go_ret
  exact ⟨rfl, ((Below.refl _ _).alloc (by simp) _)⟩

set_option maxRecDepth 100000 in
theorem c2HasIndex_any (a b c d e : Int) (w : World) :
    Calls Try.prog 6 #[.agg #[.int .u64 a, .int .u64 b, .int .u64 c, .int .u64 d, .int .u64 e]] w fun r w' => r = .returned (.bool (!(e == 0))) ∧ Below w.heap.size w w' := by
  go_enter Try.func6, Try.ntmps6
  go_wp2_with fail
  refine (headIn_any a b c d e _).mono ?_
  rintro _ w1 ⟨rfl, b1⟩
  go_wp2_with fail
  refine (hasIndex_any a b c d e _).mono ?_
  rintro _ w2 ⟨rfl, b2⟩
  go_wp2_with fail
  go_ret
  exact ⟨rfl, Old.trans (Old.trans ((Below.refl _ _).alloc (by simp) _) b1) b2⟩

set_option maxRecDepth 100000 in
theorem fnC2HasIndex_walk (a b c d e : Int) (w : World) :
    Calls Try.prog 3 #[.agg #[.int .u64 a, .int .u64 b, .int .u64 c, .int .u64 d, .int .u64 e]] w fun r w' => r = .returned (.bool true) ∧ Below w.heap.size w w' := by
  have hg : ((!(e == 0)) == (e != 0)) = true := by simp [bne]
  go_enter Try.func3, Try.ntmps3
  go_wp2_with fail
  have h0 : (w.alloc (.cells #[.int .u64 a, .int .u64 b, .int .u64 c, .int .u64 d, .int .u64 e] 24)).cell? ⟨w.heap.size, 0, none⟩ = some (.int .u64 a) := by simp [go_sem]
  have h1 : (w.alloc (.cells #[.int .u64 a, .int .u64 b, .int .u64 c, .int .u64 d, .int .u64 e] 24)).cell? ⟨w.heap.size, 1, none⟩ = some (.int .u64 b) := by simp [go_sem]
  have h2 : (w.alloc (.cells #[.int .u64 a, .int .u64 b, .int .u64 c, .int .u64 d, .int .u64 e] 24)).cell? ⟨w.heap.size, 2, none⟩ = some (.int .u64 c) := by simp [go_sem]
  have h3 : (w.alloc (.cells #[.int .u64 a, .int .u64 b, .int .u64 c, .int .u64 d, .int .u64 e] 24)).cell? ⟨w.heap.size, 3, none⟩ = some (.int .u64 d) := by simp [go_sem]
  have h4 : (w.alloc (.cells #[.int .u64 a, .int .u64 b, .int .u64 c, .int .u64 d, .int .u64 e] 24)).cell? ⟨w.heap.size, 4, none⟩ = some (.int .u64 e) := by simp [go_sem]
  have hs : w.heap.size < (w.alloc (.cells #[.int .u64 a, .int .u64 b, .int .u64 c, .int .u64 d, .int .u64 e] 24)).heap.size := by simp
  have hb : Below w.heap.size w (w.alloc (.cells #[.int .u64 a, .int .u64 b, .int .u64 c, .int .u64 d, .int .u64 e] 24)) := (Below.refl _ _).alloc (by simp) _
  generalize w.alloc (.cells #[.int .u64 a, .int .u64 b, .int .u64 c, .int .u64 d, .int .u64 e] 24) = W at *
  go_region_held3 (fun w' => Below W.heap.size W w' ∧ ∀ b o, b < W.heap.size → w'.cell? ⟨b, o, none⟩ = W.cell? ⟨b, o, none⟩)
    (first | exact stay_drew W | exact stay_below ‹_› ‹_› | go_keep)
    (first | (go_at_call 6; refine (c2HasIndex_any _ _ _ _ _ _).mono ?_; rintro _ w1 ⟨rfl, b1⟩))
  go_wp2
  go_ret
  rename_i hh
  exact ⟨rfl, Old.trans hb hh.1⟩

set_option maxRecDepth 100000 in
theorem newHeader_any (n : Int) (w : World) (h0 : 0 ≤ n) (h1 : n < 4611686018427387904) :
    Calls Try.prog 13 #[.int .u64 n] w fun r w' => r = .returned (.agg #[.int .u64 0, .int .u64 0, .int .u64 51, .int .u64 n, .int .u64 (51 + n)]) ∧ Below w.heap.size w w' := by
  go_enter Try.func13, Try.ntmps13
  go_wp2
  refine bodyPost_ret (v := .agg #[.int .u64 0, .int .u64 0, .int .u64 51, .int .u64 n, .int .u64 (51 + n)]) (by simp [results, Try.results13, go_sem]) rfl ⟨rfl, ?_⟩
  exact ((Below.refl _ _).alloc (by simp) _).alloc (by simp) _

set_option maxRecDepth 100000 in
theorem c2New_any (n : Int) (w : World) (h0 : 0 ≤ n) (h1 : n < 4611686018427387904) :
    Calls Try.prog 7 #[.int .u64 n] w fun r w' => r = .returned (.agg #[.int .u64 0, .int .u64 0, .int .u64 51, .int .u64 n, .int .u64 (51 + n)]) ∧ Below w.heap.size w w' := by
  go_enter Try.func7, Try.ntmps7
  go_wp2_with fail
  refine (newHeader_any n _ h0 h1).mono ?_
  rintro _ w1 ⟨rfl, b1⟩
  obtain ⟨c1, f1⟩ := bcell b1
  have z1 := b1.size
  simp at c1 f1 z1
  go_wp2_with fail
  refine (headOut_any _ _ _ _ _ _).mono ?_
  rintro _ w2 ⟨rfl, b2⟩
  obtain ⟨c2, f2⟩ := bcell b2
  have z2 := b2.size
  have z3 : w.heap.size < w1.heap.size := by omega
  have z4 : w.heap.size < w2.heap.size := by omega
  go_wp2_with fail
  refine bodyPost_ret (v := .agg #[.int .u64 0, .int .u64 0, .int .u64 51, .int .u64 n, .int .u64 (51 + n)]) (by simp [results, Try.results7, go_sem, c1, c2, z3, z4]) rfl ⟨rfl, ?_⟩
  have hb := Old.trans (Old.trans ((Below.refl w.heap.size w).alloc (Nat.le_refl _) _) b1) b2
  repeat (refine RowKit.Below.setCell ?_ (by simp) _)
  exact hb

set_option maxRecDepth 100000 in
theorem fnC2New_walk (n : Int) (w : World) (h0 : 0 ≤ n) :
    Calls Try.prog 4 #[.int .u64 n] w fun r w' => r = .returned (.bool true) ∧ Below w.heap.size w w' := by
  by_cases h1 : n < 4611686018427387904
  · have hd : decide (4611686018427387904 ≤ n) = false := by simp; omega
    go_enter Try.func4, Try.ntmps4
    go_wp2_with fail
    refine (c2New_any n _ h0 h1).mono ?_
    rintro _ w1 ⟨rfl, b1⟩
    go_wp2_with fail
    go_ret
    exact ⟨by simp, b1⟩
  · have hd : decide (4611686018427387904 ≤ n) = true := by simp; omega
    go_enter Try.func4, Try.ntmps4
    go_wp2_with fail
    go_ret
    exact ⟨by simp, Below.refl _ _⟩
end Go.Proofs.Ytlfdnigfijgmjaa
