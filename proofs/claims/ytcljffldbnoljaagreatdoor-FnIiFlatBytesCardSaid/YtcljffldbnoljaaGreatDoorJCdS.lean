/-
  A slice of identifiers that a call is handed: what its cells hold. Conditions: as each lemma says.
  The walk of spec.Tidy. Conditions: as the contract says.
  The walks of laws.zzFits1, zzFits2. Conditions: as each contract says.
  The walk of laws.hdGood. Conditions: as the contract says.
  A slice of entries that a call is handed: what its cells hold; the walks of laws.zzFits8, zzFits7, stCid, stEntries. Conditions: as each lemma says.
-/
import Derived.Test.YtcljffldbnoljaaGreatDoorJQf
import Derived.Test.YtcljffldbnoljaaGreatDoorJBase
import Derived.Deep.Slices
import Derived.ChangeSame
import Derived.Deep.QuietTactic
import Derived.BigQuiet
namespace Go.Proofs.YtcljffldbnoljaaGreatDoor
open Go.RowKit Go.ChangeShapes Go.WideShapes Go.ChangeAt Go.Joins Go.Deep

/-- Numbers of 64 bits, and a digest that is a text. -/
def CidL.fit (x : CidL) : Prop := x.version < 18446744073709551616 ∧ x.codec < 18446744073709551616 ∧ x.code < 18446744073709551616 ∧ x.digest.length ≤ 9223372036854775807

/-- From cell off of block b on lie the identifiers L, one behind the other. -/
def Cs (w : World) (b off : Nat) (L : List CidL) : Prop := ∀ (i : Nat) (h : i < L.length), w.cell? ⟨b, off + i * 4, none⟩ = some (.int .u64 (L[i].version : Nat)) ∧ w.cell? ⟨b, off + i * 4 + 1, none⟩ = some (.int .u64 (L[i].codec : Nat)) ∧
  w.cell? ⟨b, off + i * 4 + 2, none⟩ = some (.int .u64 (L[i].code : Nat)) ∧ w.cell? ⟨b, off + i * 4 + 3, none⟩ = some (.string ⟨L[i].digest.toArray⟩)
theorem Cs.old {w w' : World} {b off : Nat} {L : List CidL} (h : Cs w b off L) (hb : Below w.heap.size w w') : Cs w' b off L := fun i hi => by
  obtain ⟨h0, h1, h2, h3⟩ := h i hi
  have hlt : b < w.heap.size := World.block_lt_of_cell? w _ h0
  exact ⟨(hb.cell (p := ⟨b, _, none⟩) hlt).trans h0, (hb.cell (p := ⟨b, _, none⟩) hlt).trans h1, (hb.cell (p := ⟨b, _, none⟩) hlt).trans h2, (hb.cell (p := ⟨b, _, none⟩) hlt).trans h3⟩

instance : Inhabited CidL := ⟨⟨0, 0, 0, []⟩⟩

theorem take1 {α : Type} {cs : List α} {k : Nat} {x : α} (h : (cs.drop k).take 1 = [x]) : cs[k]? = some x := by
  have : ((cs.drop k).take 1)[0]? = some x := by rw [h]; rfl
  simpa using this

theorem open_cids {H : Type} {enc : TypeId × Value → H} {P : Program} {w : World} {base : Nat} {spare : Nat → Bool} {held : Bool} {r : Reach} {b0 : Nat} {t e : TypeId} {f0 f1 f2 f3 : Field} {v : Value} {d : DataW H} {p : List MemPlace}
    (ht : P.underlying t = some (.slice e)) (he : P.underlying e = some (.struct #[f0, f1, f2, f3])) (ce : P.cellsOf e = 4) (o0 : f0.offset = 0) (o1 : f1.offset = 1) (o2 : f2.offset = 2) (o3 : f3.offset = 3)
    (c0 : P.cellsOf f0.type = 1) (c1 : P.cellsOf f1.type = 1) (c2 : P.cellsOf f2.type = 1) (c3 : P.cellsOf f3.type = 1) (t0 : P.underlying f0.type = some (.int .u64)) (t1 : P.underlying f1.type = some (.int .u64)) (t2 : P.underlying f2.type = some (.int .u64)) (t3 : P.underlying f3.type = some .string)
    (hv : Value.okWide P w r b0 t v) (h : DataW.Trod enc P w base spare held t v d p) :
    ∃ (a : Option Addr) (n c : Nat) (L : List CidL), v = .slice a n c ∧ L.length = n ∧ n ≤ 9223372036854775807 ∧ (∀ x ∈ L, x.fit) ∧ (n = 0 ∨ ∃ b off, a = some ⟨b, off, none⟩ ∧ Cs w b off L) := by
  obtain ⟨a, len, cap, rfl⟩ := okWide_slice ht hv
  obtain ⟨fuel, hf⟩ := h
  rcases open_slice ht hf with ⟨hcs, _⟩ | ⟨a', len', cap', m, n, D, Pl, hcs, _, hl, hm, hmm, _, hx⟩
  · simp [Value.cells] at hcs
    obtain ⟨rfl, rfl, rfl⟩ := hcs
    exact ⟨none, 0, 0, [], rfl, rfl, by omega, by simp, .inl rfl⟩
  · simp [Value.cells] at hcs
    obtain ⟨rfl, rfl, rfl⟩ := hcs
    have hlm : len ≤ m := by rw [hmm]; split <;> omega
    have each : ∀ i, i < len → ∃ x : CidL, x.fit ∧ w.cell? (a'.add (i * 4)) = some (.int .u64 (x.version : Nat)) ∧ w.cell? (a'.add (i * 4 + 1)) = some (.int .u64 (x.codec : Nat)) ∧ w.cell? (a'.add (i * 4 + 2)) = some (.int .u64 (x.code : Nat)) ∧ w.cell? (a'.add (i * 4 + 3)) = some (.string ⟨x.digest.toArray⟩) := by
      intro i hi
      obtain ⟨cs', h1, h2⟩ := hx i (by omega)
      rw [ce] at h1
      obtain ⟨_, hlen, hcell⟩ := World.cells?_some h1
      obtain ⟨y0, y1, y2, y3, k, _, _, g0, g1, g2, g3⟩ := trod_struct4 he h2
      rw [o0, c0] at g0
      rw [o1, c1] at g1
      rw [o2, c2] at g2
      rw [o3, c3] at g3
      obtain ⟨n0, e0, _, w0⟩ := DataW.trod_int t0 g0
      obtain ⟨n1, e1, _, w1⟩ := DataW.trod_int t1 g1
      obtain ⟨n2, e2, _, w2⟩ := DataW.trod_int t2 g2
      obtain ⟨s3, e3, _, w3⟩ := DataW.trod_string t3 g3
      have q0 := hcell 0 (by omega)
      have q1 := hcell 1 (by omega)
      have q2 := hcell 2 (by omega)
      have q3 := hcell 3 (by omega)
      rw [add_add] at q0 q1 q2 q3
      rw [take1 e0] at q0
      rw [take1 e1] at q1
      rw [take1 e2] at q2
      rw [take1 e3] at q3
      have b0' : 0 ≤ n0 ∧ n0 < 18446744073709551616 := by simp [Lit.wf, IntKind.max, IntKind.min, IntKind.signed, IntKind.bits] at w0; omega
      have b1' : 0 ≤ n1 ∧ n1 < 18446744073709551616 := by simp [Lit.wf, IntKind.max, IntKind.min, IntKind.signed, IntKind.bits] at w1; omega
      have b2' : 0 ≤ n2 ∧ n2 < 18446744073709551616 := by simp [Lit.wf, IntKind.max, IntKind.min, IntKind.signed, IntKind.bits] at w2; omega
      refine ⟨⟨n0.toNat, n1.toNat, n2.toNat, s3.data.toList⟩, ⟨by simp only; omega, by simp only; omega, by simp only; omega, w3⟩, ?_, ?_, ?_, ?_⟩
      · simp only [Int.toNat_of_nonneg b0'.1]; exact q0
      · simp only [Int.toNat_of_nonneg b1'.1]; exact q1
      · simp only [Int.toNat_of_nonneg b2'.1]; exact q2
      · exact q3
    obtain ⟨f, hF⟩ := choose_lt each
    refine ⟨some a', len, cap, (List.range len).map f, rfl, by simp, by have : cap ≤ 9223372036854775807 := hm; omega, ?_, ?_⟩
    · intro x hxm
      obtain ⟨i, hi, rfl⟩ := List.mem_map.1 hxm
      exact (hF i (List.mem_range.1 hi)).1
    · by_cases h0 : len = 0
      · exact .inl h0
      · right
        obtain ⟨b, off, sp⟩ := a'
        have hs : sp = none := by
          have := (hF 0 (by omega)).2.1
          cases sp with
          | none => rfl
          | some _ =>
            exfalso
            unfold World.cell? at this
            split at this
            · simp [Addr.add] at this
            · cases this
        subst hs
        refine ⟨b, off, rfl, fun i hi => ?_⟩
        simp only [List.length_map, List.length_range] at hi
        obtain ⟨_, g0, g1, g2, g3⟩ := hF i hi
        have hadd : ∀ j, (⟨b, off, none⟩ : Addr).add j = ⟨b, off + j, none⟩ := fun j => by unfold Addr.add; split <;> simp_all
        rw [hadd] at g0 g1 g2 g3
        simp only [List.getElem_map, List.getElem_range]
        exact ⟨g0, g1, g2, g3⟩
end Go.Proofs.YtcljffldbnoljaaGreatDoor

namespace Go.Proofs.YtcljffldbnoljaaGreatDoor
open Go.RowKit

/-- Whether an identifier is tidy. -/
def tidyB (v c k : Int) (d : List UInt8) : Bool := if v = 0 then (decide (c = 112) && decide (k = 18) && decide (d.length = 32)) else (decide (v = 1) && decide (c < 9223372036854775808) && decide (k < 9223372036854775808))

set_option maxRecDepth 100000 in
set_option maxHeartbeats 2000000 in
theorem tidy_any (v c k : Int) (d : List UInt8) (w : World) (_ : d.length ≤ 9223372036854775807) :
    Calls Tryz.prog 19 #[.agg #[.int .u64 v, .int .u64 c, .int .u64 k, .string ⟨d.toArray⟩]] w fun e w' => e = .returned (.bool (tidyB v c k d)) ∧ Below w.heap.size w w' := by
  go_enter Tryz.func19, Tryz.ntmps19
  go_wp2_with fail
  all_goals go_ret
  all_goals refine ⟨?_, (Below.refl _ _).alloc (Nat.le_refl _) _⟩
  all_goals simp_all [tidyB]
  · exact Bool.eq_iff_iff.2 (by simp; omega)
  · omega

theorem tidyB_iff (x : CidL) : tidyB x.version x.codec x.code x.digest = true ↔ x.tidy := by
  unfold tidyB CidL.tidy
  by_cases h : (x.version : Int) = 0
  · rw [if_pos h]; simp; omega
  · rw [if_neg h]; simp; omega
end Go.Proofs.YtcljffldbnoljaaGreatDoor

namespace Go.Proofs.YtcljffldbnoljaaGreatDoor
open Go.RowKit

set_option maxRecDepth 100000 in
theorem zzFits1_b (a b c : Value) (d : List UInt8) (w : World) (hd : d.length ≤ 9223372036854775807) :
    Calls Tryz.prog 18 #[.agg #[a, b, c, .string ⟨d.toArray⟩]] w fun e w' => e = .returned (.bool (decide (d.length ≤ 2147483647))) ∧ Below w.heap.size w w' := by
  go_enter Tryz.func18, Tryz.ntmps18
  go_wp2_with fail
  all_goals go_ret
  all_goals refine ⟨?_, (Below.refl _ _).alloc (Nat.le_refl _) _⟩
  all_goals simp
  all_goals omega

end Go.Proofs.YtcljffldbnoljaaGreatDoor

namespace Go.Proofs.YtcljffldbnoljaaGreatDoor
open Go.RowKit

/-- Tidy, with a digest of at most 200 bytes. -/
def CidL.hd (x : CidL) : Prop := x.tidy ∧ x.digest.length ≤ 200

/-- What hdGood comes to. -/
def HgPost (n : Nat) (L : List CidL) (w : World) (e : Ending) (w' : World) : Prop :=
  (∃ B, e = .returned (.bool B) ∧ (B = true → n ≤ 100 ∧ ∀ (j : Nat) (hj : j < L.length), L[j].hd)) ∧ Below w.heap.size w w'

end Go.Proofs.YtcljffldbnoljaaGreatDoor

namespace Go.Proofs.YtcljffldbnoljaaGreatDoor
open Go.RowKit Go.ChangeShapes Go.WideShapes Go.ChangeAt Go.Joins Go.Deep

/-- An entry: its identifier and its offset. -/
structure EntL where
  c : CidL
  off : Nat
/-- Its cells. -/
def EntL.val (b : EntL) : Array Value := #[.int .u64 (b.c.version : Nat), .int .u64 (b.c.codec : Nat), .int .u64 (b.c.code : Nat), .string ⟨b.c.digest.toArray⟩, .int .u64 (b.off : Nat)]

/-- An entry that a call can be handed. -/
def EntL.fit (x : EntL) : Prop := x.c.fit ∧ x.off < 18446744073709551616

/-- From cell off of block b on lie the entries L, one behind the other. -/
def Ens (w : World) (b off : Nat) (L : List EntL) : Prop := ∀ (i : Nat) (h : i < L.length), w.cell? ⟨b, off + i * 5, none⟩ = some (.int .u64 (L[i].c.version : Nat)) ∧ w.cell? ⟨b, off + i * 5 + 1, none⟩ = some (.int .u64 (L[i].c.codec : Nat)) ∧
  w.cell? ⟨b, off + i * 5 + 2, none⟩ = some (.int .u64 (L[i].c.code : Nat)) ∧ w.cell? ⟨b, off + i * 5 + 3, none⟩ = some (.string ⟨L[i].c.digest.toArray⟩) ∧ w.cell? ⟨b, off + i * 5 + 4, none⟩ = some (.int .u64 (L[i].off : Nat))
theorem Ens.old {w w' : World} {b off : Nat} {L : List EntL} (h : Ens w b off L) (hb : Below w.heap.size w w') : Ens w' b off L := fun i hi => by
  obtain ⟨h0, h1, h2, h3, h4⟩ := h i hi
  have hlt : b < w.heap.size := World.block_lt_of_cell? w _ h0
  exact ⟨(hb.cell (p := ⟨b, _, none⟩) hlt).trans h0, (hb.cell (p := ⟨b, _, none⟩) hlt).trans h1, (hb.cell (p := ⟨b, _, none⟩) hlt).trans h2, (hb.cell (p := ⟨b, _, none⟩) hlt).trans h3, (hb.cell (p := ⟨b, _, none⟩) hlt).trans h4⟩

instance : Inhabited EntL := ⟨⟨⟨0, 0, 0, []⟩, 0⟩⟩

/-- One entry's cells. -/
theorem open_ent_cells {H : Type} {enc : TypeId × Value → H} {P : Program} {w : World} {base : Nat} {spare : Nat → Bool} {held : Bool} {e : TypeId} {g0 g1 f0 f1 f2 f3 : Field} {fuel : Nat} {cs : List Value} {x : DataW H × List MemPlace}
    (he : P.underlying e = some (.struct #[g0, g1])) (p0 : g0.offset = 0) (p1 : g1.offset = 4) (k0 : P.cellsOf g0.type = 4) (k1 : P.cellsOf g1.type = 1) (hc : P.underlying g0.type = some (.struct #[f0, f1, f2, f3])) (o0 : f0.offset = 0) (o1 : f1.offset = 1) (o2 : f2.offset = 2) (o3 : f3.offset = 3)
    (c0 : P.cellsOf f0.type = 1) (c1 : P.cellsOf f1.type = 1) (c2 : P.cellsOf f2.type = 1) (c3 : P.cellsOf f3.type = 1) (t0 : P.underlying f0.type = some (.int .u64)) (t1 : P.underlying f1.type = some (.int .u64)) (t2 : P.underlying f2.type = some (.int .u64)) (t3 : P.underlying f3.type = some .string) (t4 : P.underlying g1.type = some (.int .u64))
    (h : DataW.trod enc P w base spare held fuel e cs = some x) :
    ∃ y : EntL, y.fit ∧ cs[0]? = some (.int .u64 (y.c.version : Nat)) ∧ cs[1]? = some (.int .u64 (y.c.codec : Nat)) ∧ cs[2]? = some (.int .u64 (y.c.code : Nat)) ∧ cs[3]? = some (.string ⟨y.c.digest.toArray⟩) ∧ cs[4]? = some (.int .u64 (y.off : Nat)) := by
  obtain ⟨z0, z1, n, _, _, q0, q1⟩ := trod_struct2 he h
  rw [p0, k0] at q0
  rw [p1, k1] at q1
  obtain ⟨y0, y1, y2, y3, k, _, _, g0, g1, g2, g3⟩ := trod_struct4 hc q0
  rw [o0, c0] at g0
  rw [o1, c1] at g1
  rw [o2, c2] at g2
  rw [o3, c3] at g3
  obtain ⟨n0, e0, _, w0⟩ := DataW.trod_int t0 g0
  obtain ⟨n1, e1, _, w1⟩ := DataW.trod_int t1 g1
  obtain ⟨n2, e2, _, w2⟩ := DataW.trod_int t2 g2
  obtain ⟨s3, e3, _, w3⟩ := DataW.trod_string t3 g3
  obtain ⟨n4, e4, _, w4⟩ := DataW.trod_int t4 q1
  have r0 := take1 e0
  have r1 := take1 e1
  have r2 := take1 e2
  have r3 := take1 e3
  have r4 := take1 e4
  rw [List.getElem?_take_of_lt (by omega), List.getElem?_drop] at r0 r1 r2 r3
  have b0' : 0 ≤ n0 ∧ n0 < 18446744073709551616 := by simp [Lit.wf, IntKind.max, IntKind.min, IntKind.signed, IntKind.bits] at w0; omega
  have b1' : 0 ≤ n1 ∧ n1 < 18446744073709551616 := by simp [Lit.wf, IntKind.max, IntKind.min, IntKind.signed, IntKind.bits] at w1; omega
  have b4' : 0 ≤ n4 ∧ n4 < 18446744073709551616 := by simp [Lit.wf, IntKind.max, IntKind.min, IntKind.signed, IntKind.bits] at w4; omega
  have b2' : 0 ≤ n2 ∧ n2 < 18446744073709551616 := by simp [Lit.wf, IntKind.max, IntKind.min, IntKind.signed, IntKind.bits] at w2; omega
  refine ⟨⟨⟨n0.toNat, n1.toNat, n2.toNat, s3.data.toList⟩, n4.toNat⟩, ⟨⟨by simp only; omega, by simp only; omega, by simp only; omega, w3⟩, by simp only; omega⟩, ?_, ?_, ?_, ?_, ?_⟩
  · simp only [Int.toNat_of_nonneg b0'.1]; exact r0
  · simp only [Int.toNat_of_nonneg b1'.1]; exact r1
  · simp only [Int.toNat_of_nonneg b2'.1]; exact r2
  · exact r3
  · simp only [Int.toNat_of_nonneg b4'.1]; exact r4

theorem open_ents {H : Type} {enc : TypeId × Value → H} {P : Program} {w : World} {base : Nat} {spare : Nat → Bool} {held : Bool} {r : Reach} {b0 : Nat} {t e : TypeId} {g0 g1 f0 f1 f2 f3 : Field} {v : Value} {d : DataW H} {p : List MemPlace}
    (ht : P.underlying t = some (.slice e)) (he : P.underlying e = some (.struct #[g0, g1])) (ce : P.cellsOf e = 5) (p0 : g0.offset = 0) (p1 : g1.offset = 4) (k0 : P.cellsOf g0.type = 4) (k1 : P.cellsOf g1.type = 1) (hc : P.underlying g0.type = some (.struct #[f0, f1, f2, f3])) (o0 : f0.offset = 0) (o1 : f1.offset = 1) (o2 : f2.offset = 2) (o3 : f3.offset = 3)
    (c0 : P.cellsOf f0.type = 1) (c1 : P.cellsOf f1.type = 1) (c2 : P.cellsOf f2.type = 1) (c3 : P.cellsOf f3.type = 1) (t0 : P.underlying f0.type = some (.int .u64)) (t1 : P.underlying f1.type = some (.int .u64)) (t2 : P.underlying f2.type = some (.int .u64)) (t3 : P.underlying f3.type = some .string) (t4 : P.underlying g1.type = some (.int .u64))
    (hv : Value.okWide P w r b0 t v) (h : DataW.Trod enc P w base spare held t v d p) :
    ∃ (a : Option Addr) (n c : Nat) (L : List EntL), v = .slice a n c ∧ L.length = n ∧ n ≤ 9223372036854775807 ∧ (∀ x ∈ L, x.fit) ∧ (n = 0 ∨ ∃ b off, a = some ⟨b, off, none⟩ ∧ Ens w b off L) := by
  obtain ⟨a, len, cap, rfl⟩ := okWide_slice ht hv
  obtain ⟨fuel, hf⟩ := h
  rcases open_slice ht hf with ⟨hcs, _⟩ | ⟨a', len', cap', m, n, D, Pl, hcs, _, hl, hm, hmm, _, hx⟩
  · simp [Value.cells] at hcs
    obtain ⟨rfl, rfl, rfl⟩ := hcs
    exact ⟨none, 0, 0, [], rfl, rfl, by omega, by simp, .inl rfl⟩
  · simp [Value.cells] at hcs
    obtain ⟨rfl, rfl, rfl⟩ := hcs
    have hlm : len ≤ m := by rw [hmm]; split <;> omega
    have each : ∀ i, i < len → ∃ x : EntL, x.fit ∧ w.cell? (a'.add (i * 5)) = some (.int .u64 (x.c.version : Nat)) ∧ w.cell? (a'.add (i * 5 + 1)) = some (.int .u64 (x.c.codec : Nat)) ∧ w.cell? (a'.add (i * 5 + 2)) = some (.int .u64 (x.c.code : Nat)) ∧ w.cell? (a'.add (i * 5 + 3)) = some (.string ⟨x.c.digest.toArray⟩) ∧ w.cell? (a'.add (i * 5 + 4)) = some (.int .u64 (x.off : Nat)) := by
      intro i hi
      obtain ⟨cs', h1, h2⟩ := hx i (by omega)
      rw [ce] at h1
      obtain ⟨_, hlen, hcell⟩ := World.cells?_some h1
      obtain ⟨y, hy, r0, r1, r2, r3, r4⟩ := open_ent_cells he p0 p1 k0 k1 hc o0 o1 o2 o3 c0 c1 c2 c3 t0 t1 t2 t3 t4 h2
      have q0 := hcell 0 (by omega)
      have q1 := hcell 1 (by omega)
      have q2 := hcell 2 (by omega)
      have q3 := hcell 3 (by omega)
      have q4 := hcell 4 (by omega)
      rw [add_add] at q0 q1 q2 q3 q4
      rw [r0] at q0
      rw [r1] at q1
      rw [r2] at q2
      rw [r3] at q3
      rw [r4] at q4
      exact ⟨y, hy, q0, q1, q2, q3, q4⟩
    obtain ⟨f, hF⟩ := choose_lt each
    refine ⟨some a', len, cap, (List.range len).map f, rfl, by simp, by have : cap ≤ 9223372036854775807 := hm; omega, ?_, ?_⟩
    · intro x hxm
      obtain ⟨i, hi, rfl⟩ := List.mem_map.1 hxm
      exact (hF i (List.mem_range.1 hi)).1
    · by_cases h0 : len = 0
      · exact .inl h0
      · right
        obtain ⟨b, off, sp⟩ := a'
        have hs : sp = none := by
          have := (hF 0 (by omega)).2.1
          cases sp with
          | none => rfl
          | some _ =>
            exfalso
            unfold World.cell? at this
            split at this
            · simp [Addr.add] at this
            · cases this
        subst hs
        refine ⟨b, off, rfl, fun i hi => ?_⟩
        simp only [List.length_map, List.length_range] at hi
        obtain ⟨_, g0, g1, g2, g3, g4⟩ := hF i hi
        have hadd : ∀ j, (⟨b, off, none⟩ : Addr).add j = ⟨b, off + j, none⟩ := fun j => by unfold Addr.add; split <;> simp_all
        rw [hadd] at g0 g1 g2 g3 g4
        simp only [List.getElem_map, List.getElem_range]
        exact ⟨g0, g1, g2, g3, g4⟩

set_option maxRecDepth 100000 in
set_option maxHeartbeats 2000000 in
theorem zzFits8_b (y : EntL) (w : World) (hf : y.fit) :
    Calls Tryz.prog 10 #[.agg y.val] w fun e w' => (∃ B, e = .returned (.bool B)) ∧ Below w.heap.size w w' := by
  obtain ⟨⟨v, k, u, d⟩, D⟩ := y
  unfold EntL.val
  simp only
  have hd : d.length ≤ 9223372036854775807 := hf.1.2.2.2
  clear hf
  have b0 := (Below.refl w.heap.size w).alloc (Nat.le_refl _) (.cells #[.int .u64 (v : Nat), .int .u64 (k : Nat), .int .u64 (u : Nat), .string ⟨d.toArray⟩, .int .u64 (D : Nat)] 33)
  go_enter Tryz.func10, Tryz.ntmps10
  go_wp2_with fail
  generalize w.alloc (.cells #[.int .u64 (v : Nat), .int .u64 (k : Nat), .int .u64 (u : Nat), .string ⟨d.toArray⟩, .int .u64 (D : Nat)] 33) = W at *
  refine (zzFits1_b _ _ _ _ W hd).mono ?_
  rintro e w1 ⟨rfl, b1⟩
  have b2 := Old.trans b0 b1
  clear b0 b1
  obtain ⟨Z, hZ⟩ : ∃ Z, decide (d.length ≤ 2147483647) = Z := ⟨_, rfl⟩
  rw [hZ]
  clear hZ
  cases Z
  · go_wp2_with fail
    go_ret
    exact ⟨⟨_, rfl⟩, b2⟩
  · go_wp2_with fail
    go_ret
    exact ⟨⟨_, rfl⟩, b2⟩

set_option maxRecDepth 100000 in
set_option maxHeartbeats 2000000 in
theorem zzFits7_any (a : Option Addr) (n c : Nat) (L : List EntL) (w : World) (hL : L.length = n) (hn : n ≤ 9223372036854775807) (hf : ∀ x ∈ L, x.fit) (h : n = 0 ∨ ∃ b off, a = some ⟨b, off, none⟩ ∧ Ens w b off L) :
    Calls Tryz.prog 4 #[.slice a n c] w fun e w' => (∃ B, e = .returned (.bool B) ∧ (B = true → n ≤ 2147483647)) ∧ Below w.heap.size w w' := by
  by_cases hz : n ≤ 2147483647
  · have hzd : decide ((2147483647 : Int) < (n : Int)) = false := by simp; omega
    have HF := Lib.hid (And.intro hL (And.intro hf h))
    clear hL hf h
    go_enter Tryz.func4, Tryz.ntmps4
    go_wp2_with fail
    go_loopw [10] (fun i wr => ∃ k : Nat, k ≤ n ∧ i = .int .i64 k ∧ Below w.heap.size w wr) (fun i _ => n - (intOf i).toNat)
    case atStart => exact ⟨0, Nat.zero_le _, rfl, Below.refl _ _⟩
    case round =>
      obtain ⟨k, hk, rfl, hB⟩ := hrel
      by_cases hkn : k < n
      · obtain h0 | ⟨b, off, rfl, hcs⟩ := HF.out.2.2
        · omega
        · have hkL : k < L.length := by rw [HF.out.1]; exact hkn
          obtain ⟨c0, c1, c2, c3, c4⟩ := (hcs.old hB) k hkL
          have hfit := HF.out.2.1 L[k] (List.getElem_mem hkL)
          obtain ⟨x, hx⟩ : ∃ x, L[k] = x := ⟨_, rfl⟩
          rw [hx] at c0 c1 c2 c3 c4 hfit
          have hkI : (k : Int) < (n : Int) := by omega
          have HX := Lib.hid (fun W => zzFits8_b x W hfit)
          clear hcs hfit hx
          have hB1 := Old.alloc hB (.cells #[.int .u64 (x.c.version : Nat), .int .u64 (x.c.codec : Nat), .int .u64 (x.c.code : Nat), .string ⟨x.c.digest.toArray⟩, .int .u64 (x.off : Nat)] 33)
          go_wp2_with fail
          refine (HX.out _).mono ?_
          rintro e w1 ⟨⟨Z, rfl⟩, b1⟩
          have hB2 := Old.trans hB1 b1
          clear c0 c1 c2 c3 c4
          cases Z
          · go_wp2_with fail
            go_ret
            exact ⟨⟨_, rfl, fun h => by cases h⟩, hB2⟩
          · go_wp2_with fail
            all_goals go_roundw
            case rel => exact ⟨k + 1, hkn, by go_num, hB2⟩
            case measure => simp [intOf]; omega
      · have hkn' : k = n := by omega
        subst hkn'
        go_wp2_with fail
        go_ret
        exact ⟨⟨_, rfl, fun _ => hz⟩, hB⟩
  · have hzd : decide ((2147483647 : Int) < (n : Int)) = true := by simp; omega
    have HF := Lib.hid hz
    clear hz h
    go_enter Tryz.func4, Tryz.ntmps4
    go_wp2_with fail
    go_ret
    exact ⟨⟨_, rfl, fun h => by cases h⟩, Below.refl _ _⟩

/-- Tidy, with a digest of 1 to 200 bytes. -/
def CidL.st (x : CidL) : Prop := x.tidy ∧ x.digest ≠ [] ∧ x.digest.length ≤ 200
/-- What stCid comes to. -/
def StPost (x : CidL) (w : World) (e : Ending) (w' : World) : Prop := (∃ B, e = .returned (.bool B) ∧ (B = true → x.st)) ∧ Below w.heap.size w w'

set_option maxRecDepth 100000 in
set_option maxHeartbeats 2000000 in
theorem stCid_any (x : CidL) (w : World) (hd : x.digest.length ≤ 9223372036854775807) :
    Calls Tryz.prog 11 #[.agg #[.int .u64 (x.version : Nat), .int .u64 (x.codec : Nat), .int .u64 (x.code : Nat), .string ⟨x.digest.toArray⟩]] w (StPost x w) := by
  have b0 := Old.alloc (Below.refl w.heap.size w) (.cells #[.int .u64 (x.version : Nat), .int .u64 (x.codec : Nat), .int .u64 (x.code : Nat), .string ⟨x.digest.toArray⟩] 31)
  have B0 := Blk.new w 31 #[.int .u64 (x.version : Nat), .int .u64 (x.codec : Nat), .int .u64 (x.code : Nat), .string ⟨x.digest.toArray⟩]
  obtain ⟨W, hW⟩ : ∃ W, w.alloc (.cells #[.int .u64 (x.version : Nat), .int .u64 (x.codec : Nat), .int .u64 (x.code : Nat), .string ⟨x.digest.toArray⟩] 31) = W := ⟨_, rfl⟩
  rw [hW] at b0 B0
  have c0 : W.cell? ⟨w.heap.size, 0, none⟩ = some (.int .u64 (x.version : Nat)) := B0.cell 0
  have c1 : W.cell? ⟨w.heap.size, 1, none⟩ = some (.int .u64 (x.codec : Nat)) := B0.cell 1
  have c2 : W.cell? ⟨w.heap.size, 2, none⟩ = some (.int .u64 (x.code : Nat)) := B0.cell 2
  have c3 : W.cell? ⟨w.heap.size, 3, none⟩ = some (.string ⟨x.digest.toArray⟩) := B0.cell 3
  have htd := tidy_any x.version x.codec x.code x.digest W hd
  obtain ⟨Z, hZ⟩ : ∃ Z, tidyB x.version x.codec x.code x.digest = Z := ⟨_, rfl⟩
  rw [hZ] at htd
  have HT := Lib.hid (And.intro htd hZ)
  clear htd hZ
  go_enter Tryz.func11, Tryz.ntmps11
  go_wp2_with fail
  clear hW c0 c1 c2 c3
  refine HT.out.1.mono ?_
  rintro e w1 ⟨rfl, b1⟩
  have b01 := Old.trans b0 b1
  have c3 : w1.cell? ⟨w.heap.size, 3, none⟩ = some (.string ⟨x.digest.toArray⟩) := (B0.old b1).cell 3
  clear b0 b1 B0
  cases Z
  · go_wp2_with fail
    go_ret
    exact ⟨⟨_, rfl, fun h => by cases h⟩, b01⟩
  by_cases h0 : x.digest.length = 0
  · have d0 : decide ((0 : Int) < (x.digest.length : Int)) = false := decide_eq_false (by omega)
    have d0' : decide (0 < x.digest.length) = false := decide_eq_false (by omega)
    have H0 := Lib.hid h0
    clear h0
    go_wp2_with fail
    go_ret
    exact ⟨⟨_, rfl, fun h => by cases h⟩, b01⟩
  have d0 : decide ((0 : Int) < (x.digest.length : Int)) = true := decide_eq_true (by omega)
  have d0' : decide (0 < x.digest.length) = true := decide_eq_true (by omega)
  by_cases h2 : x.digest.length ≤ 200
  · have d2 : decide ((x.digest.length : Int) ≤ 200) = true := by simp; omega
    have H2 := Lib.hid (And.intro h0 h2)
    clear h0 h2
    go_wp2_with fail
    go_ret
    exact ⟨⟨_, rfl, fun _ => ⟨(tidyB_iff x).1 HT.out.2, fun e => H2.out.1 (by rw [e]; rfl), H2.out.2⟩⟩, b01⟩
  · have d2 : decide ((x.digest.length : Int) ≤ 200) = false := by simp; omega
    have H2 := Lib.hid (And.intro h0 h2)
    clear h0 h2
    go_wp2_with fail
    go_ret
    exact ⟨⟨_, rfl, fun h => by cases h⟩, b01⟩

/-- What stEntries comes to. -/
def SePost (n : Nat) (L : List EntL) (w : World) (e : Ending) (w' : World) : Prop :=
  (∃ B, e = .returned (.bool B) ∧ (B = true → n ≤ 60 ∧ ∀ (j : Nat) (hj : j < L.length), L[j].c.st)) ∧ Below w.heap.size w w'

set_option maxRecDepth 100000 in
set_option maxHeartbeats 2000000 in
theorem stEntries_any (a : Option Addr) (n c : Nat) (L : List EntL) (w : World) (hL : L.length = n) (hn : n ≤ 9223372036854775807) (hf : ∀ x ∈ L, x.fit) (h : n = 0 ∨ ∃ b off, a = some ⟨b, off, none⟩ ∧ Ens w b off L) :
    Calls Tryz.prog 5 #[.slice a n c] w (SePost n L w) := by
  by_cases hz : n ≤ 60
  · have hzd : decide ((n : Int) ≤ 60) = true := by simp; omega
    have HF := Lib.hid (And.intro hL (And.intro hf h))
    clear hL hf h
    go_enter Tryz.func5, Tryz.ntmps5
    go_wp2_with fail
    go_loopw [3, 4] (fun o i wr => ∃ (k : Nat) (B : Bool), k ≤ n ∧ o = .bool B ∧ i = .int .i64 k ∧ Below w.heap.size w wr ∧ (B = true → ∀ (j : Nat) (hj : j < L.length), j < k → L[j].c.st)) (fun _ i _ => n - (intOf i).toNat)
    case atStart => exact ⟨0, true, Nat.zero_le _, rfl, rfl, Below.refl _ _, fun _ j _ h => absurd h (Nat.not_lt_zero _)⟩
    case round =>
      obtain ⟨k, B, hk, rfl, rfl, hB, hG⟩ := hrel
      have HG := Lib.hid hG
      clear hG
      cases B
      · go_wp2_with fail
        go_ret
        exact ⟨⟨_, rfl, fun h => by cases h⟩, hB⟩
      · by_cases hkn : k < n
        · obtain h0 | ⟨b, off, rfl, hcs⟩ := HF.out.2.2
          · omega
          · have hkL : k < L.length := by rw [HF.out.1]; exact hkn
            obtain ⟨c0, c1, c2, c3, c4⟩ := (hcs.old hB) k hkL
            have hfit := HF.out.2.1 L[k] (List.getElem_mem hkL)
            obtain ⟨x, hx⟩ : ∃ x, L[k] = x := ⟨_, rfl⟩
            rw [hx] at c0 c1 c2 c3 c4 hfit
            have hkI : (k : Int) < (n : Int) := by omega
            have HX := Lib.hid (And.intro (stCid_any x.c wr hfit.1.2.2.2) hx)
            clear hcs hfit hx
            go_wp2_with fail
            refine HX.out.1.mono ?_
            rintro e w1 ⟨⟨Z, rfl, hZ⟩, b1⟩
            have hB2 := Old.trans hB b1
            have HZ := Lib.hid hZ
            clear c0 c1 c2 c3 c4 hZ
            go_wp2_with fail
            all_goals go_roundw
            case rel =>
              refine ⟨k + 1, Z, hkn, rfl, by go_num, hB2, fun hz j hj hjk => ?_⟩
              by_cases hjk' : j < k
              · exact HG.out trivial j hj hjk'
              · obtain rfl : j = k := by omega
                rw [HX.out.2]
                exact HZ.out hz
            case measure => simp [intOf]; omega
        · have hkn' : k = n := by omega
          subst hkn'
          go_wp2_with fail
          go_ret
          exact ⟨⟨_, rfl, fun _ => ⟨hz, fun j hj => HG.out trivial j hj (by rw [HF.out.1] at hj; exact hj)⟩⟩, hB⟩
  · have hzd : decide ((n : Int) ≤ 60) = false := by simp; omega
    have HF := Lib.hid hz
    clear hz h
    go_enter Tryz.func5, Tryz.ntmps5
    go_wp2_with fail
    go_loopw [3] (fun o wr => o = .bool false ∧ wr = w) (fun _ _ => 0)
    case atStart => exact ⟨rfl, rfl⟩
    case round =>
      obtain ⟨rfl, rfl⟩ := hrel
      go_wp2_with fail
      go_ret
      exact ⟨⟨_, rfl, fun h => by cases h⟩, Below.refl _ _⟩
end Go.Proofs.YtcljffldbnoljaaGreatDoor
