/-
  (*llrb.LLRB).Min, AscendGreaterOrEqual, the closure of Flatten: their walks. Conditions: as each contract says.
  sort.insertionSort over index.recordSet, whatever order it sorts by: the very row that it leaves. Conditions: as each contract says.
-/
import Derived.Test.YtcljffldbnoljaaGreatDoorJOd
import Derived.Deep.RegionWith
import Derived.BigRegion
import Derived.Test.YtcljffldbnoljaaGreatDoorQd
namespace Go.Proofs.YtcljffldbnoljaaGreatDoor
open Go.RowKit

/-- A record's cells: the identifier's bytes, the offset. -/
def recC (p : List UInt8 × Nat) : List Value := [.string ⟨p.1.toArray⟩, .int .u64 (p.2 : Nat)]
theorem recs_len (S : List (List UInt8 × Nat)) : (S.flatMap recC).length = S.length * 2 := by
  induction S with
  | nil => rfl
  | cons a t ih => rw [List.flatMap_cons, List.length_append, ih, List.length_cons]; simp [recC]; omega
/-- Blocks bR, bI hold the row of n records in block g and how many are laid: S. -/
def Laying (B bR bI g n : Nat) (w : World) (S : List (List UInt8 × Nat)) : Prop :=
  Blk w bR 55 #[.slice (some ⟨g, 0, none⟩) n n] ∧ Blk w bI 3 #[.int .i64 S.length] ∧ (∃ zs, Blk w g 65 (S.flatMap recC ++ zs).toArray ∧ S.length * 2 + zs.length = n * 2) ∧ bR ≠ bI ∧ bR ≠ g ∧ bI ≠ g ∧ B ≤ bR ∧ B ≤ bI ∧ B ≤ g
theorem Laying.old {B bR bI g n : Nat} {w w' : World} {S : List (List UInt8 × Nat)} (h : Laying B bR bI g n w S) (b : Below w.heap.size w w') : Laying B bR bI g n w' S := by
  obtain ⟨h1, h2, ⟨zs, h3, h4⟩, h5⟩ := h
  exact ⟨h1.old b, h2.old b, ⟨zs, h3.old b, h4⟩, h5⟩

theorem laying_step {B bR bI g n k : Nat} {w0 w : World} {S : List (List UInt8 × Nat)} {z0 z1 : Value} {zs : List Value} {p : List UInt8 × Nat} (hk : S.length = k) (h1 : Blk w bR 55 #[.slice (some ⟨g, 0, none⟩) n n]) (h2 : Blk w bI 3 #[.int .i64 k]) (h3 : Blk w g 65 (S.flatMap recC ++ z0 :: z1 :: zs).toArray) (h4 : k * 2 + (zs.length + 2) = n * 2)
    (hRI : bR ≠ bI) (hRg : bR ≠ g) (hIg : bI ≠ g) (hR : B ≤ bR) (hI : B ≤ bI) (hg : B ≤ g) (hb : Below B w0 w) :
    Laying B bR bI g n (((w.setCells g (k * 2) (recC p)).setCell ⟨bI, 0, none⟩ (.int .i64 ((k : Int) + 1))).drew) (S ++ [p]) ∧ Below B w0 (((w.setCells g (k * 2) (recC p)).setCell ⟨bI, 0, none⟩ (.int .i64 ((k : Int) + 1))).drew) := by
  have hK : Kp [g] w (w.setCells g (k * 2) (recC p)) := Kp.of_setCells (.inl (by simp)) _ _ _ (Kp.refl _ _)
  have hK2 : Kp [g, bI] w (((w.setCells g (k * 2) (recC p)).setCell ⟨bI, 0, none⟩ (.int .i64 ((k : Int) + 1))).drew) := ((hK.weaken (by simp)).setCell (.inl (by simp)) _).drew
  have hG := blk_mid h3 (k * 2) (by rw [recs_len, hk]) (recC p) (by simp [recC])
  have h2' := h2.kp hK (by simp [hIg])
  have hlen : (S ++ [p]).length = k + 1 := by simp [hk]
  refine ⟨⟨h1.kp hK2 (by simp [hRg, hRI]), ?_, ⟨zs, ?_, by rw [hlen]; omega⟩, hRI, hRg, hIg, hR, hI, hg⟩, ?_⟩
  · have h := (h2'.set_ 0 (.int .i64 ((k : Int) + 1))).drew
    rw [hlen]
    simpa using h
  · have h := (hG.far (p := ⟨bI, 0, none⟩) (fun e => hIg e.symm) (.int .i64 ((k : Int) + 1))).drew
    have e1 : (S ++ [p]).flatMap recC ++ zs = (S.flatMap recC ++ recC p) ++ (z0 :: z1 :: zs).drop (recC p).length := by simp [recC]
    rw [e1]
    exact h
  · have h := below_setCells hg (recC p) (k * 2) _ hb
    exact RowKit.Below.drew (RowKit.Below.setCell h hI _)

theorem flat1_end {B bR bI g n k : Nat} {w0 w : World} {S : List (List UInt8 × Nat)} {z0 z1 : Value} {zs : List Value} (id : List UInt8) (off gg oo cc : Nat) (d : List UInt8) (hk : S.length = k) (h1 : Blk w bR 55 #[.slice (some ⟨g, 0, none⟩) n n]) (h2 : Blk w bI 3 #[.int .i64 k]) (h3 : Blk w g 65 (S.flatMap recC ++ z0 :: z1 :: zs).toArray) (h4 : k * 2 + (zs.length + 2) = n * 2)
    (hRI : bR ≠ bI) (hRg : bR ≠ g) (hIg : bI ≠ g) (hR : B ≤ bR) (hI : B ≤ bI) (hg : B ≤ g) (hb : Below B w0 w) :
    (Ending.returned (.bool true) = .returned (.bool true)) ∧ Laying B bR bI g n ((((w.setCell ⟨g, k * 2, none⟩ (.string ⟨id.toArray⟩)).setCell ⟨g, k * 2 + 1, none⟩ (.int .u64 (off : Nat))).setCell ⟨bI, 0, none⟩ (.int .i64 ((k : Int) + 1))).drew) (S ++ [saysR ⟨gg, oo, cc, d, id, off⟩]) ∧ Below B w0 ((((w.setCell ⟨g, k * 2, none⟩ (.string ⟨id.toArray⟩)).setCell ⟨g, k * 2 + 1, none⟩ (.int .u64 (off : Nat))).setCell ⟨bI, 0, none⟩ (.int .i64 ((k : Int) + 1))).drew) :=
  ⟨rfl, laying_step (p := (id, off)) hk h1 h2 h3 h4 hRI hRg hIg hR hI hg hb⟩

set_option maxRecDepth 100000 in
set_option maxHeartbeats 2000000 in
theorem flat1_any (B bR bI g n : Nat) (x : Rec) (w0 w : World) (S : List (List UInt8 × Nat)) (hB : B = w0.heap.size) (h : Laying B bR bI g n w S) (hb : Below B w0 w) (hS : S.length < n) (hn : n ≤ 1000) :
    Calls Tryz.prog 25 #[x.val, .pointer (some ⟨bR, 0, none⟩), .pointer (some ⟨bI, 0, none⟩)] w fun e w' => e = .returned (.bool true) ∧ Laying B bR bI g n w' (S ++ [saysR x]) ∧ Below B w0 w' := by
  obtain ⟨h1, h2, ⟨zs, h3, h4⟩, hRI, hRg, hIg, hR, hI, hg⟩ := h
  obtain ⟨k, hk⟩ : ∃ k, S.length = k := ⟨_, rfl⟩
  have hrl := recs_len S
  rw [hk] at h2 h4 hS hrl
  obtain ⟨z0, z1, zs', rfl⟩ : ∃ z0 z1 zs', zs = z0 :: z1 :: zs' := by
    match zs, h4 with
    | [], h4 => simp at h4; omega
    | [_], h4 => simp at h4; omega
    | a :: b :: t, _ => exact ⟨a, b, t, rfl⟩
  have c0 : w.cell? ⟨bR, 0, none⟩ = some (.slice (some ⟨g, 0, none⟩) n n) := h1.cell 0
  have c1 : w.cell? ⟨bI, 0, none⟩ = some (.int .i64 k) := h2.cell 0
  have f1 := h2.frozen 0
  have g0 := h3.frozen (k * 2)
  have g1 := h3.frozen (k * 2 + 1)
  have d0 : w.cell? ⟨g, k * 2, none⟩ = some z0 := by
    rw [h3.cell, List.getElem?_toArray, List.getElem?_append_right (by omega), hrl]; simp
  have d1 : w.cell? ⟨g, k * 2 + 1, none⟩ = some z1 := by
    rw [h3.cell, List.getElem?_toArray, List.getElem?_append_right (by omega), hrl]
    rw [show k * 2 + 1 - k * 2 = 1 by omega]; rfl
  have hkI : (k : Int) < (n : Int) := by omega
  have hta := fun v W => run_typeAssert_struct (P := Tryz.prog) (t := 67) (xT := 63) v W Tryz.underlying67
  have hta2 : ∀ v W, (Instr.typeAssert (.iface 67 v) 63 67 false).run Tryz.prog W = .ok v W := fun v W => by
    simp [Instr.typeAssert, run_underlying Tryz.underlying67, go_sem, Result.andThen]
  have hfd : ∀ a b c W, (Instr.field 67 (.agg #[a, b, c]) 1).run Tryz.prog W = .ok (.agg #[b, c]) W := fun _ _ _ _ => by kernel_rfl
  have hIR : ¬ bI = bR := fun e => hRI e.symm
  have hgR : ¬ g = bR := fun e => hRg e.symm
  have hgI : ¬ g = bI := fun e => hIg e.symm
  have H := Lib.hid (And.intro h1 (And.intro h2 (And.intro h3 (And.intro h4 (And.intro hR (And.intro hI (And.intro hg (And.intro hb hB))))))))
  have HK := Lib.hid hk
  clear h1 h2 h3 h4 hR hI hg hb hB hk hrl hta
  obtain ⟨gg, oo, cc, d, id, off⟩ := x
  unfold Rec.val Rec.agg
  simp only
  go_enter Tryz.func25, Tryz.ntmps25
  go_wp2_with fail
  go_region
  all_goals go_wp2_with fail
  all_goals exact bodyPost_ret (v := .bool true) (by simp [results, Tryz.results25, go_sem]) rfl (flat1_end id off gg oo cc d HK.out H.out.1 H.out.2.1 H.out.2.2.1 (by have := H.out.2.2.2.1; simp at this; omega) hRI hRg hIg H.out.2.2.2.2.1 H.out.2.2.2.2.2.1 H.out.2.2.2.2.2.2.1 H.out.2.2.2.2.2.2.2.1)

/-- The tree's least item. -/
def MnPost (s : Tre) (w : World) (e : Ending) (w' : World) : Prop := ∃ y t, e = .returned y.val ∧ s.ino = y :: t ∧ Below w.heap.size w w'

set_option maxRecDepth 100000 in
set_option maxHeartbeats 2000000 in
theorem llrbMin_any (ib : Nat) (n : Int) (s : Tre) (w : World) (hb : Blk w ib 60 #[.int .i64 n, .pointer s.adr]) (h : Tr w s) (hs : s ≠ .leaf) :
    Calls Tryz.prog 27 #[.pointer (some ⟨ib, 0, none⟩)] w (MnPost s w) := by
  cases hsc : s with
  | leaf => exact absurd hsc hs
  | node b0 y0 l0 r0 k0 =>
    obtain ⟨sa, hsa⟩ : ∃ sa, s.adr = sa := ⟨_, rfl⟩
    have hsa2 : sa = some ⟨b0, 0, none⟩ := by rw [← hsa, hsc]; rfl
    rw [hsa] at hb
    have HA := Lib.hid (And.intro hsa hsc)
    subst hsa2
    have q1 : w.cell? ⟨ib, 1, none⟩ = some (.pointer (some ⟨b0, 0, none⟩)) := hb.cell 1
    rw [← hsc]
    have HT := Lib.hid h
    clear hb h hsa hsc
    go_enter Tryz.func27, Tryz.ntmps27
    go_wp2_with fail
    clear q1
    go_loopw [3] (fun p wr => ∃ (s' : Tre) (t : List Rec), p = .pointer s'.adr ∧ s' ≠ .leaf ∧ Tr wr s' ∧ Hid (s.ino = s'.ino ++ t) ∧ Below w.heap.size w wr) (fun p wr => trSize wr p)
    case atStart => exact ⟨s, [], by rw [HA.out.1], hs, HT.out, Lib.hid (by simp), Below.refl _ _⟩
    case round =>
      obtain ⟨s', t, rfl, hne, hT, hQ, hB⟩ := hrel
      cases s' with
      | leaf => exact absurd rfl hne
      | node b y l r k =>
        cases l with
        | leaf =>
          have q0 : wr.cell? ⟨b, 0, none⟩ = some y.val := hT.1.cell 0
          have q1 : wr.cell? ⟨b, 1, none⟩ = some (.pointer none) := hT.1.cell 1
          have HF := Lib.hid (And.intro hQ.out hB)
          clear hT hQ hB hne
          simp only [Tre.adr]
          unfold Rec.val at q0
          go_wp2_with fail
          exact bodyPost_ret (v := y.val) (by simp [results, Tryz.results27, go_sem, Rec.val]) rfl ⟨y, r.ino ++ t, rfl, by rw [HF.out.1]; simp [Tre.ino], HF.out.2⟩
        | node b2 y2 l2 r2 k2 =>
          have q1 : wr.cell? ⟨b, 1, none⟩ = some (.pointer (some ⟨b2, 0, none⟩)) := hT.1.cell 1
          have hsz := trSize_eq hT
          have HF := Lib.hid (And.intro hT (And.intro hQ.out (And.intro hB hsz)))
          clear hT hQ hB hne hsz
          simp only [Tre.adr]
          go_wp2_with fail
          all_goals go_roundw
          case rel => exact ⟨.node b2 y2 l2 r2 k2, y :: (r.ino ++ t), rfl, by simp, HF.out.1.2.2.1, Lib.hid (by rw [HF.out.2.1]; simp [Tre.ino]), HF.out.2.2.1⟩
          case measure =>
            have h1 := HF.out.2.2.2
            have h2 := trSize_eq HF.out.1.2.2.1
            simp only [Tre.adr, Tre.size] at h1 h2 ⊢
            omega

set_option maxRecDepth 100000 in
set_option maxHeartbeats 4000000 in
theorem ascend_any (ta : Addr) (piv : Rec) (B bR bI g n : Nat) (w0 : World) (hB0 : B = w0.heap.size) (hp : It w0 piv) (hn : n ≤ 1000) : ∀ (s : Tre) (w : World) (S : List (List UInt8 × Nat)), Tr w0 s → (∀ y ∈ s.ino, ltB y.d piv.d = false) → Below B w0 w → Laying B bR bI g n w S → S.length + s.ino.length ≤ n →
    Calls Tryz.prog 43 #[.pointer (some ta), .pointer s.adr, piv.val, .func (.func 25) #[] #[.pointer (some ⟨bR, 0, none⟩), .pointer (some ⟨bI, 0, none⟩)]] w fun e w' => e = .returned (.bool true) ∧ Laying B bR bI g n w' (S ++ s.ino.map saysR) ∧ Below B w0 w' := by
  intro s
  induction s with
  | leaf =>
    intro w S _ _ hB hL _
    have H := Lib.hid (And.intro hB hL)
    clear hB hL
    unfold Tre.adr
    go_enter Tryz.func43, Tryz.ntmps43
    go_wp2_with fail
    exact bodyPost_ret (v := .bool true) (by simp [results, Tryz.results43, go_sem]) rfl ⟨rfl, by simpa [Tre.ino] using H.out.2, H.out.1⟩
  | node b y l r k ihl ihr =>
    intro w S hT hO hB hL hlen
    subst hB0
    have Tw := fun (w' : World) (hb : Below w0.heap.size w0 w') => Tr.old hb hT
    have hlt : ltB y.d piv.d = false := hO y (by simp [Tre.ino])
    have hless := fun (w' : World) (hb : Below w0.heap.size w0 w') => llrbLess_any y piv w' (Tw w' hb).2.1 (hp.old hb)
    simp only [hlt] at hless
    have hlen2 : S.length + l.ino.length + 1 + r.ino.length ≤ n := by simp only [Tre.ino, List.length_append, List.length_cons] at hlen; omega
    have q0 : w.cell? ⟨b, 0, none⟩ = some y.val := (Tw w hB).1.cell 0
    have hil := fun (w' : World) (hb : Below w0.heap.size w0 w') (hL' : Laying w0.heap.size bR bI g n w' S) => ihl w' S hT.2.2.1 (fun z hz => hO z (by simp [Tre.ino, hz])) hb hL' (by omega)
    have hir := fun (w' : World) (S' : List (List UInt8 × Nat)) (hb : Below w0.heap.size w0 w') (hL' : Laying w0.heap.size bR bI g n w' S') (hl : S'.length + r.ino.length ≤ n) => ihr w' S' hT.2.2.2 (fun z hz => hO z (by simp [Tre.ino, hz])) hb hL' hl
    have HI := Lib.hid (And.intro hless (And.intro hil (And.intro hir (And.intro Tw (And.intro hB (And.intro hL hlen2))))))
    clear hless hil hir Tw hB hL hlen2 ihl ihr hT hO hlt hp hlen
    unfold Tre.adr
    unfold Rec.val at q0
    obtain ⟨pv, hpv⟩ : ∃ pv, piv.val = pv := ⟨_, rfl⟩
    obtain ⟨ya, hya⟩ : ∃ ya, y.agg = ya := ⟨_, rfl⟩
    have hyv : y.val = .iface 67 ya := by rw [← hya]; rfl
    rw [hpv] at HI ⊢
    rw [hya] at q0
    rw [hyv] at HI
    have HV := Lib.hid hyv
    clear hya hpv hyv
    go_enter Tryz.func43, Tryz.ntmps43
    go_wp2_with fail
    refine (HI.out.1 w HI.out.2.2.2.2.1).mono ?_
    rintro e w1 ⟨rfl, b1⟩
    have hB1 : Below w0.heap.size w0 w1 := Old.trans HI.out.2.2.2.2.1 b1
    have L1 := HI.out.2.2.2.2.2.1.old b1
    have q1 : w1.cell? ⟨b, 1, none⟩ = some (.pointer l.adr) := (HI.out.2.2.2.1 w1 hB1).1.cell 1
    have H1 := Lib.hid (And.intro hB1 L1)
    clear q0 hB1 L1 b1
    go_wp2_with fail
    refine (HI.out.2.1 w1 H1.out.1 H1.out.2).mono ?_
    rintro e w2 ⟨rfl, L2, b2⟩
    have q0 : w2.cell? ⟨b, 0, none⟩ = some (.iface 67 ya) := (HI.out.2.2.2.1 w2 b2).1.cell 0 |>.trans (by rw [← HV.out]; rfl)
    have HF := Lib.hid (flat1_any w0.heap.size bR bI g n y w0 w2 _ rfl L2 b2 (by rw [List.length_append, List.length_map]; have := HI.out.2.2.2.2.2.2; omega) hn)
    rw [HV.out] at HF
    clear q1 L2 b2
    go_wp2_with fail
    refine HF.out.mono ?_
    rintro e w3 ⟨rfl, L3, b3⟩
    have q2 : w3.cell? ⟨b, 2, none⟩ = some (.pointer r.adr) := (HI.out.2.2.2.1 w3 b3).1.cell 2
    have H3 := Lib.hid (And.intro b3 L3)
    clear q0 b3 L3
    go_wp2_with fail
    refine (HI.out.2.2.1 w3 _ H3.out.1 H3.out.2 (by simp only [List.length_append, List.length_map, List.length_cons, List.length_nil]; have := HI.out.2.2.2.2.2.2; omega)).mono ?_
    rintro e w4 ⟨rfl, L4, b4⟩
    have H4 := Lib.hid (And.intro b4 L4)
    clear q2 b4 L4
    go_wp2_with fail
    exact bodyPost_ret (v := .bool true) (by simp [results, Tryz.results43, go_sem]) rfl ⟨rfl, by have := H4.out.2; simpa [Tre.ino] using this, H4.out.1⟩

set_option maxRecDepth 100000 in
set_option maxHeartbeats 2000000 in
theorem ascendTop_any (ib : Nat) (m : Int) (piv : Rec) (B bR bI g n : Nat) (w0 w : World) (hB0 : B = w0.heap.size) (s : Tre) (S : List (List UInt8 × Nat)) (hb : Blk w ib 60 #[.int .i64 m, .pointer s.adr]) (hp : It w0 piv) (hn : n ≤ 1000) (hT : Tr w0 s) (hO : ∀ y ∈ s.ino, ltB y.d piv.d = false) (hB : Below B w0 w) (hL : Laying B bR bI g n w S) (hlen : S.length + s.ino.length ≤ n) :
    Calls Tryz.prog 26 #[.pointer (some ⟨ib, 0, none⟩), piv.val, .func (.func 25) #[] #[.pointer (some ⟨bR, 0, none⟩), .pointer (some ⟨bI, 0, none⟩)]] w fun e w' => e = .returned (.tuple #[]) ∧ Laying B bR bI g n w' (S ++ s.ino.map saysR) ∧ Below B w0 w' := by
  have H := Lib.hid (ascend_any ⟨ib, 0, none⟩ piv B bR bI g n w0 hB0 hp hn s w S hT hO hB hL hlen)
  have q1 : w.cell? ⟨ib, 1, none⟩ = some (.pointer s.adr) := hb.cell 1
  clear hb hp hT hO hB hL hlen hB0
  obtain ⟨pv, hpv⟩ : ∃ pv, piv.val = pv := ⟨_, rfl⟩
  rw [hpv] at H ⊢
  clear hpv
  go_enter Tryz.func26, Tryz.ntmps26
  go_wp2_with fail
  refine H.out.mono ?_
  rintro e w1 ⟨rfl, h2⟩
  clear q1
  replace h2 := Lib.hid h2
  go_wp2_with fail
  go_end0
  exact ⟨rfl, h2.out⟩
end Go.Proofs.YtcljffldbnoljaaGreatDoor

namespace Go.Proofs.YtcljffldbnoljaaGreatDoor
open Go.RowKit Go.Sort
variable {α : Type} [Inhabited α]

/-- The set as the sort is handed it. -/
abbrev setV (rv : Value) : Value := .iface 249 rv
/-- Less tells the order at every place of the row; the row stays. -/
def LessI (rv : Value) (n : Nat) (lt : α → α → Bool) (R : World → Array α → Prop) : Prop := ∀ W d, R W d → d.size = n → ∀ i j : Nat, i < n → j < n →
  Calls Tryz.prog 244 #[rv, .int .i64 i, .int .i64 j] W fun e w' => e = .returned (.bool (lt d[i]! d[j]!)) ∧ R w' d ∧ Below W.heap.size W w'
/-- Swap swaps at every place of the row; only block blk turns. -/
def SwapI (rv : Value) (blk n : Nat) (R : World → Array α → Prop) : Prop := ∀ W d, R W d → d.size = n → ∀ i j : Nat, i < n → j < n →
  Calls Tryz.prog 245 #[rv, .int .i64 i, .int .i64 j] W fun e w' => e = .returned (.tuple #[]) ∧ R w' (swp d i j) ∧ Kp [blk] W w'
theorem lessM (rv : Value) (W : World) : (method 399 249 rv "Less").run Tryz.prog W = .ok (244, rv) W := by kernel_rfl
theorem swapM (rv : Value) (W : World) : (method 399 249 rv "Swap").run Tryz.prog W = .ok (245, rv) W := by kernel_rfl

set_option maxRecDepth 100000 in
set_option maxHeartbeats 2000000 in
theorem insertionSort_I (rv : Value) (blk n : Nat) (R : World → Array α → Prop) (hS : SwapI rv blk n R) (lt : α → α → Bool) (hL : LessI rv n lt R) (a b : Nat) (hab : a ≤ b) (hb : b ≤ n) (hn : n ≤ 1000) (w : World) (D : Array α) (h : R w D) (hD : D.size = n) :
    Calls Tryz.prog 185 #[setV rv, .int .i64 a, .int .i64 b] w fun e w' => e = .returned (.tuple #[]) ∧ R w' (insertionSort lt D a b) ∧ Kp [blk] w w' := by
  have HI := Lib.hid (And.intro h (And.intro hS hL))
  have mL := lessM rv
  have mS := swapM rv
  clear h hS hL
  have hw1 : IntKind.i64.wrap ((a : Int) + 1) = (a : Int) + 1 := by rw [IntKind.wrap_i64]; omega
  go_enter Tryz.func185, Tryz.ntmps185
  go_wp2_with fail
  go_loopw [6] (fun x wr => ∃ i : Nat, a < i ∧ i ≤ b + 1 ∧ x = .int .i64 i ∧ (∃ E, R wr E ∧ Hid (E.size = n ∧ insOuter lt a b i E = insertionSort lt D a b)) ∧ Kp [blk] w wr) (fun x _ => b + 1 - (intOf x).toNat)
  case atStart => exact ⟨a + 1, by omega, by omega, by go_num, ⟨D, HI.out.1, Lib.hid ⟨hD, rfl⟩⟩, Kp.refl _ _⟩
  case round =>
    obtain ⟨i, hai, hib, rfl, ⟨E, hIn, hE⟩, hK⟩ := hrel
    have hwi : IntKind.i64.wrap ((i : Int) + 1) = (i : Int) + 1 := by rw [IntKind.wrap_i64]; omega
    by_cases hlt : i < b
    · have hdd : decide ((i : Int) < (b : Int)) = true := by rw [decide_eq_true_eq]; omega
      have HX := Lib.hid (And.intro hIn hK)
      clear hIn hK
      go_wp2_with fail
      go_loopw [7] (fun y wr => ∃ j : Nat, a ≤ j ∧ j ≤ i ∧ y = .int .i64 j ∧ (∃ G, R wr G ∧ Hid (G.size = n ∧ insInner lt a j G = insInner lt a i E)) ∧ Kp [blk] w wr) (fun y _ => (intOf y).toNat)
      case atStart => exact ⟨i, by omega, Nat.le_refl _, rfl, ⟨E, HX.out.1, Lib.hid ⟨hE.out.1, rfl⟩⟩, HX.out.2⟩
      case round =>
        obtain ⟨j, haj, hji, rfl, ⟨G, hIn, hG⟩, hK⟩ := hrel
        have HO := Lib.hid (insOuter_step lt a b i E hlt)
        by_cases hja : a < j
        · have hdj : decide ((a : Int) < (j : Int)) = true := by rw [decide_eq_true_eq]; omega
          obtain ⟨jm, hjm⟩ : ∃ jm : Nat, j - 1 = jm := ⟨_, rfl⟩
          have hwj : IntKind.i64.wrap ((j : Int) - 1) = (jm : Int) := by rw [IntKind.wrap_i64]; omega
          have hjb : j < n ∧ jm < n ∧ jm < j ∧ a ≤ jm := by omega
          have HJM := Lib.hid hjm
          clear hjm
          have HL := Lib.hid (HI.out.2.2 wr G hIn hG.out.1 j jm hjb.1 hjb.2.1)
          have HK := Lib.hid hK
          clear hIn hK
          go_wp2_with fail
          refine HL.out.mono ?_
          rintro e w3 ⟨rfl, hI3, b3⟩
          have hK3 := HK.out.old b3
          have HS := Lib.hid (HI.out.2.1 w3 G hI3 hG.out.1 j jm hjb.1 hjb.2.1)
          have HY := Lib.hid (And.intro hI3 hK3)
          clear hI3 b3 hK3
          obtain ⟨bb, hbb⟩ : ∃ bb, lt G[j]! G[jm]! = bb := ⟨_, rfl⟩
          rw [hbb]
          have HB := Lib.hid hbb
          clear hbb
          cases bb
          · go_wp2_with fail
            go_roundw
            case rel =>
              refine ⟨i + 1, by omega, by omega, by go_num, ⟨G, HY.out.1, Lib.hid ⟨hG.out.1, ?_⟩⟩, HY.out.2⟩
              rw [← hE.out.2, HO.out, ← hG.out.2, insInner_end lt a j G (fun _ => by rw [HJM.out]; exact HB.out)]
            case measure => simp [intOf]; omega
          · go_wp2_with fail
            refine HS.out.mono ?_
            rintro e w4 ⟨rfl, hI4, k4⟩
            have HZ := Lib.hid (And.intro hI4 (HY.out.2.trans k4))
            clear hI4 k4
            go_wp2_with fail
            go_roundw
            case rel =>
              refine ⟨jm, by omega, by omega, rfl, ⟨_, HZ.out.1, Lib.hid ⟨(swp_size _ _ _).trans hG.out.1, ?_⟩⟩, HZ.out.2⟩
              rw [← hG.out.2, insInner_step lt a j G hja (by rw [HJM.out]; exact HB.out), HJM.out]
            case measure => simp [intOf]; omega
        · have hdj : decide ((a : Int) < (j : Int)) = false := by rw [decide_eq_false_iff_not]; omega
          have HY := Lib.hid (And.intro hIn hK)
          clear hIn hK
          go_wp2_with fail
          go_roundw
          case rel =>
            refine ⟨i + 1, by omega, by omega, by go_num, ⟨G, HY.out.1, Lib.hid ⟨hG.out.1, ?_⟩⟩, HY.out.2⟩
            rw [← hE.out.2, HO.out, ← hG.out.2, insInner_end lt a j G (fun hc => absurd hc hja)]
          case measure => simp [intOf]; omega
    · have hdd : decide ((i : Int) < (b : Int)) = false := by rw [decide_eq_false_iff_not]; omega
      have HX := Lib.hid (And.intro hIn hK)
      clear hIn hK
      go_wp2_with fail
      go_end0
      refine ⟨rfl, ?_, HX.out.2⟩
      rw [← hE.out.2, insOuter_end lt a b i E hlt]
      exact HX.out.1
end Go.Proofs.YtcljffldbnoljaaGreatDoor
