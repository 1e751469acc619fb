/-
  The walk of laws.ldOne. Conditions: as the contract says.
-/
import Derived.Test.YtaionnajhgjekaaDoorLi
import Derived.Test.YtaionnajhgjekaaDoorLq
namespace Go.Proofs.YtaionnajhgjekaaDoor
open Go.RowKit

/-- What the errors of reading are, where they lie. -/
structure Errs (aE aU aO aM aS : Addr) (w : World) : Prop where
  eE : Ee w 0 aE
  eU : Ee w 2 aU
  eO : Ee w 4 aO
  eM : Ee w 5 aM
  eS : Ee w 3 aS
  hE : Eh w aE
  hS : Eh w aS
  nS : aS ≠ aE
theorem Errs.old {aE aU aO aM aS : Addr} {w w' : World} (h : Errs aE aU aO aM aS w) (b : Below w.heap.size w w') : Errs aE aU aO aM aS w' :=
  ⟨h.eE.old b, h.eU.old b, h.eO.old b, h.eM.old b, h.eS.old b, h.hE.old b, h.hS.old b, h.nS⟩

theorem so_one {w : World} {g : Nat} {t : TypeId} {s : List UInt8} (h : Blk w g t #[.string ⟨s.toArray⟩]) : So w g 0 [s] := by
  intro i hi
  obtain rfl : i = 0 := by simpa using hi
  exact h.cell 0
theorem so_two {w : World} {g : Nat} {t : TypeId} {s u : List UInt8} (h : Blk w g t #[.string ⟨s.toArray⟩, .string ⟨u.toArray⟩]) : So w g 0 [s, u] := by
  intro i hi
  simp only [List.length_cons, List.length_nil] at hi
  match i, hi with
  | 0, _ => exact h.cell 0
  | 1, _ => exact h.cell 1
theorem ldWr_abc : ldWr [[97], [98, 99]] = [3, 97, 98, 99] := by
  rw [ldWr, show ([[97], [98, 99]] : List (List UInt8)).flatten = [97, 98, 99] from rfl, show ([97, 98, 99] : List UInt8).length = 3 from rfl, Lib.uvarint_small (by omega)]; rfl

set_option maxRecDepth 100000 in
set_option maxHeartbeats 2000000 in
theorem ldOne_any (aE aU aO aM aS : Addr) (w : World) (E : Errs aE aU aO aM aS w) :
    Calls Tryd.prog 11 #[] w fun e w' => e = .returned (.bool true) ∧ Below w.heap.size w w' := by
  have hrd := ldRead_any 3 1 100 false false [3, 97, 98, 99] aE aU aO aM aS w (by simp) (by omega) ⟨by simp [uvRd], by omega, by omega⟩ (fun _ _ => by simp) E.eE E.eU E.eO E.eM E.eS E.hE E.hS E.nS
  have HR := Lib.hid hrd
  clear hrd E
  go_enter Tryd.func11, Tryd.ntmps11
  go_wp2_with fail
  refine HR.out.mono ?_
  rintro e w1 ⟨he, b1⟩
  rw [if_neg (by simp), if_pos (by omega)] at he
  have he' : e = .returned (.tuple #[.string ⟨#[97, 98, 99]⟩, .int .i64 4, .int .u8 0]) := he
  subst he'
  clear he HR
  have b2 := Old.alloc b1 (.cells #[.string ⟨#[97]⟩, .string ⟨#[98, 99]⟩] 9)
  have B2 : Blk (w1.alloc (.cells #[.string ⟨#[97]⟩, .string ⟨#[98, 99]⟩] 9)) w1.heap.size 9 #[.string ⟨([97] : List UInt8).toArray⟩, .string ⟨([98, 99] : List UInt8).toArray⟩] := Blk.new _ _ _
  go_wp2_with fail
  generalize w1.alloc (.cells #[.string ⟨#[97]⟩, .string ⟨#[98, 99]⟩] 9) = w2 at *
  have hlw := ldWrite_any (some ⟨w1.heap.size, 0, none⟩) 2 2 [[97], [98, 99]] w2 rfl (by omega) (.inr ⟨_, _, rfl, so_two B2⟩) (by simp) (by simp)
  rw [ldWr_abc] at hlw
  refine hlw.mono ?_
  rintro e w3 ⟨rfl, b3⟩
  clear hlw B2
  go_wp2_with fail
  go_ret
  exact ⟨rfl, Old.trans b2 b3⟩
end Go.Proofs.YtaionnajhgjekaaDoor
