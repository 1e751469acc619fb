/-
  What a row's list of laid errors gives: each one's address, its text and its block. Conditions: as the lemma says.
  What a row's list of laid data gives of a variable that is a struct of one text. Conditions: as the lemma says.
-/
import Derived.Test.YtlafdmmjbkdkaaaGreatDoorJRf
import Derived.Stop.LaidErr
import Derived.ChangeSame
namespace Go.Proofs.YtlafdmmjbkdkaaaGreatDoor
open Go.RowKit

theorem laid_one {P : Program} {n nm : String} {text : List UInt8} {r : List (String × DataW Unit)} {W : World} {g : Nat} {ti tp te ts : TypeId} {ms : Array (String × TypeId)} {f : Field}
    (h : laidMet P ((n, .iface nm (.ptr (.agg [.lit (.string text)]))) :: r) W)
    (hg : P.globalNamed n = some g) (ht : (P.globals[g]?).map (·.type) = some ti) (hi : P.underlying ti = some (.interface ms)) (hrow : ∀ u, P.typeName? 3 u = some nm → u = tp)
    (hp : P.underlying tp = some (.pointer te)) (he : P.underlying te = some (.struct #[f])) (hft : f.type = ts) (hfo : f.offset = 0) (hs : P.underlying ts = some .string) (hc : P.cellsOf te = 1) (hcs : P.cellsOf ts = 1) :
    ∃ (a : Addr) (s : ByteArray), W.var? P n = some #[.iface tp (.pointer (some a))] ∧ W.cell? a = some (.string s) ∧ s.data.toList = text ∧ Eh W a := by
  obtain ⟨ps, ⟨g0, t0, cs0, f0, p0, q0, hg0, ht0, hv0, hd0, _, e0⟩, _, hrows⟩ := h
  obtain rfl := Option.some.inj (hg.symm.trans hg0)
  obtain rfl := Option.some.inj (ht.symm.trans ht0)
  subst e0
  obtain ⟨l0⟩ := cs0
  have ok0 : ∀ u v, l0 = [.iface u v] → Value.okWide P W .any 0 u v := fun u v e => by
    subst e
    exact (hrows g 0 (by simp [MemPlace.row])).2 u v (by simpa using World.var?_cell hg0 hv0 0)
  obtain ⟨a0, s0, rfl, hc0, hs0, hz0, rfl⟩ := errorString_of_trod hi hrow hp he hft hfo hs hc hcs hd0 ok0
  obtain ⟨c0, t0, hb0⟩ := (hrows a0.block a0.off (by simp [MemPlace.row])).1
  exact ⟨a0, s0, hv0, hc0, hs0, c0, t0, hb0⟩
theorem laid_apart {W : World} {a b : Addr} {s t : ByteArray} {x y : List UInt8} (ha : W.cell? a = some (.string s)) (hs : s.data.toList = x) (hb : W.cell? b = some (.string t)) (ht : t.data.toList = y) (hxy : x ≠ y) : a ≠ b := by
  rintro rfl
  rw [ha] at hb
  injection hb with hb
  injection hb with hb
  subst hb
  exact hxy (hs.symm.trans ht)
end Go.Proofs.YtlafdmmjbkdkaaaGreatDoor

namespace Go.Proofs.YtlafdmmjbkdkaaaGreatDoor
open Go.RowKit Go.ChangeShapes Go.WideShapes Go.ChangeAt Go.Joins Go.Deep

theorem laid_text {P : Program} {n : String} {d : DataW Unit} {r : List (String × DataW Unit)} {W : World} {g : Nat} {ti ts : TypeId} {f : Field}
    (h : laidMet P ((n, d) :: r) W) (hg : P.globalNamed n = some g) (ht : (P.globals[g]?).map (·.type) = some ti) (hu : P.underlying ti = some (.struct #[f])) (hft : f.type = ts) (hfo : f.offset = 0) (hs : P.underlying ts = some .string) :
    ∃ s : ByteArray, W.cell? ⟨g, 0, none⟩ = some (.string s) := by
  obtain ⟨ps, ⟨g0, t0, cs0, f0, p0, q0, hg0, ht0, hv0, hd0, _, e0⟩, _, hrows⟩ := h
  obtain rfl := Option.some.inj (hg.symm.trans hg0)
  obtain rfl := Option.some.inj (ht.symm.trans ht0)
  obtain ⟨y0, m, hx, hl, hy⟩ := trod_struct1 hu hd0
  rw [hft, hfo, List.drop_zero] at hy
  obtain ⟨s, hcs, _⟩ := DataW.trod_string hs hy
  refine ⟨s, ?_⟩
  rw [World.var?_cell hg hv0 0]
  obtain ⟨l0⟩ := cs0
  simp only [List.getElem?_toArray] at hcs ⊢
  match l0, hcs with
  | [], hcs => simp at hcs
  | a :: l1, hcs =>
    cases hk : P.cellsOf ts with
    | zero => rw [hk] at hcs; simp at hcs
    | succ k => rw [hk] at hcs; simp at hcs; simp [hcs.1]
end Go.Proofs.YtlafdmmjbkdkaaaGreatDoor
