/-
  (*llrb.LLRB).InsertNoReplace, Get: their walks. Conditions: as each contract says.
-/
import Derived.Test.YtdfhfaeeejijcaaDoorLn
namespace Go.Proofs.YtdfhfaeeejijcaaDoor
open Go.RowKit

def Tre.size : Tre → Nat
  | .leaf => 0
  | .node _ _ l r _ => l.size + r.size + 1
theorem size_uniq {w : World} : ∀ (s s2 : Tre), Tr w s → Tr w s2 → s.adr = s2.adr → s.size = s2.size
  | .leaf, .leaf, _, _, _ => rfl
  | .leaf, .node .., _, _, h => by cases h
  | .node .., .leaf, _, _, h => by cases h
  | .node b x l r k, .node b2 x2 l2 r2 k2, h, h2, e => by
    have hb : b = b2 := by simpa [Tre.adr] using e
    subst hb
    have c1 := (h.1.cell 1).symm.trans (h2.1.cell 1)
    have c2 := (h.1.cell 2).symm.trans (h2.1.cell 2)
    have e1 : l.adr = l2.adr := by simpa [Tre.ptr] using c1
    have e2 : r.adr = r2.adr := by simpa [Tre.ptr] using c2
    rw [Tre.size, Tre.size, size_uniq l l2 h.2.2.1 h2.2.2.1 e1, size_uniq r r2 h.2.2.2 h2.2.2.2 e2]
open Classical in
noncomputable def trSize (w : World) (p : Value) : Nat := if h : ∃ s : Tre, p = .pointer s.adr ∧ Tr w s then (Classical.choose h).size else 0
theorem trSize_eq {w : World} {s : Tre} (h : Tr w s) : trSize w (.pointer s.adr) = s.size := by
  have hx : ∃ s' : Tre, (.pointer s.adr : Value) = .pointer s'.adr ∧ Tr w s' := ⟨s, rfl, h⟩
  unfold trSize
  rw [dif_pos hx]
  obtain ⟨h1, h2⟩ := Classical.choose_spec hx
  exact size_uniq _ _ h2 h (by injection h1.symm)

theorem It.ne {w : World} {x : Rec} {ib : Nat} {t : TypeId} {cs : Array Value} (h : It w x) (hb : Blk w ib t cs) (hc : ∀ (i : Nat) (v : Int), cs[i]? = some (.int .u8 v) → False) : x.g ≠ ib := by
  intro e
  obtain ⟨h1, h2, _⟩ := h
  have h0 := h1 0 (by cases hd : x.d with | nil => exact absurd hd h2 | cons a t => simp)
  rw [Nat.add_zero, e, hb.cell] at h0
  exact hc _ _ h0
theorem no_byte (n : Int) (p : Option Addr) (i : Nat) (v : Int) (h : (#[.int .i64 n, .pointer p] : Array Value)[i]? = some (.int .u8 v)) : False := by
  match i with
  | 0 => simp at h
  | 1 => simp at h
  | n + 2 => simp at h

/-- What Get comes to. -/
def GetPost (s : Tre) (x : Rec) (w : World) (e : Ending) (w' : World) : Prop :=
  Below w.heap.size w w' ∧ ((∃ y ∈ s.ino, y.d = x.d ∧ e = .returned y.val) ∨ ((∀ y ∈ s.ino, y.d ≠ x.d) ∧ e = .returned .nilIface))

set_option maxRecDepth 100000 in
set_option maxHeartbeats 4000000 in
theorem llrbGet_any (ib : Nat) (n : Int) (s : Tre) (x : Rec) (w : World) (hb : Blk w ib 113 #[.int .i64 n, .pointer s.adr]) (h : Tr w s) (hO : Ord s.ino) (hx : It w x) :
    Calls Tryd.prog 58 #[.pointer (some ⟨ib, 0, none⟩), x.val] w (GetPost s x w) := by
  obtain ⟨sa, hsa⟩ : ∃ sa, s.adr = sa := ⟨_, rfl⟩
  rw [hsa] at hb
  have HA := Lib.hid hsa
  have q1 : w.cell? ⟨ib, 1, none⟩ = some (.pointer sa) := hb.cell 1
  have HX := Lib.hid (And.intro hx hO)
  clear hsa
  have HT := Lib.hid h
  clear hb hx hO h
  go_enter Tryd.func58, Tryd.ntmps58
  go_wp2_with fail
  clear q1
  go_loopw [5] (fun p wr => ∃ s' : Tre, p = .pointer s'.adr ∧ Tr wr s' ∧ Ord s'.ino ∧ (∀ y ∈ s'.ino, y ∈ s.ino) ∧ ((∃ y ∈ s.ino, y.d = x.d) → ∃ y ∈ s'.ino, y.d = x.d) ∧ Below w.heap.size w wr) (fun p wr => trSize wr p)
  case atStart => exact ⟨s, by rw [HA.out], HT.out, HX.out.2, fun y hy => hy, fun h => h, Below.refl _ _⟩
  case round =>
    obtain ⟨s', rfl, hT, hO, hm, hf, hB⟩ := hrel
    cases s' with
    | leaf =>
      have HF := Lib.hid (And.intro hf hB)
      clear hT hO hm hf hB
      simp only [Tre.adr]
      go_wp2_with fail
      go_ret
      refine ⟨HF.out.2, .inr ⟨fun y hy he => ?_, rfl⟩⟩
      obtain ⟨z, hz, _⟩ := HF.out.1 ⟨y, hy, he⟩
      cases hz
    | node b y l r k =>
      have q0 : wr.cell? ⟨b, 0, none⟩ = some y.val := hT.1.cell 0
      have hl := Lib.hid (llrbLess_any x y wr (HX.out.1.old hB) hT.2.1)
      have H := Lib.hid (And.intro hT (And.intro hO (And.intro hm (And.intro hf hB))))
      clear hT hO hm hf hB
      simp only [Tre.adr]
      go_wp2_with fail
      refine hl.out.mono ?_
      rintro e w1 ⟨rfl, b1⟩
      have T1 := Tr.old b1 H.out.1
      have B1 := Old.trans H.out.2.2.2.2 b1
      have hO := H.out.2.1
      simp only [Tre.ino] at hO
      have hP := List.pairwise_append.1 hO
      have hy : y ∈ s.ino := H.out.2.2.1 y (by simp [Tre.ino])
      have hsz := trSize_eq H.out.1
      clear q0 hl
      cases hlt : ltB x.d y.d
      · have q0 : w1.cell? ⟨b, 0, none⟩ = some y.val := T1.1.cell 0
        have hl := Lib.hid (llrbLess_any y x w1 T1.2.1 (HX.out.1.old B1))
        have HH := Lib.hid (And.intro T1 (And.intro B1 (And.intro hP (And.intro hy (And.intro hsz hlt)))))
        clear T1 B1 hP hy hsz hlt hO b1
        go_wp2_with fail
        refine hl.out.mono ?_
        rintro e w2 ⟨rfl, b2⟩
        have T2 := Tr.old b2 HH.out.1
        have B2 := Old.trans HH.out.2.1 b2
        clear q0 hl
        cases hgt : ltB y.d x.d
        · have q0 : w2.cell? ⟨b, 0, none⟩ = some y.val := T2.1.cell 0
          have HG := Lib.hid hgt
          clear hgt b2
          go_wp2_with fail
          go_ret
          exact ⟨B2, .inl ⟨y, HH.out.2.2.2.1, (ltB_total HH.out.2.2.2.2.2 HG.out).symm, rfl⟩⟩
        · have q2 : w2.cell? ⟨b, 2, none⟩ = some (.pointer r.adr) := T2.1.cell 2
          have HG := Lib.hid hgt
          have HT2 := Lib.hid (And.intro T2 B2)
          clear hgt b2 T2 B2
          go_wp2_with fail
          all_goals go_roundw
          case rel =>
            have hP := HH.out.2.2.1
            refine ⟨r, rfl, HT2.out.1.2.2.2, (List.pairwise_cons.1 hP.2.1).2, fun z hz => H.out.2.2.1 z (by simp [Tre.ino, hz]), fun hz => ?_, HT2.out.2⟩
            obtain ⟨z, hz, he⟩ := H.out.2.2.2.1 hz
            simp only [Tre.ino, List.mem_append, List.mem_cons] at hz
            rcases hz with hz | rfl | hz
            · have := hP.2.2 z hz y (by simp)
              rw [he, HG.out] at this
              cases this
            · have hg := HG.out
              rw [he, ltB_irrefl] at hg
              cases hg
            · exact ⟨z, hz, he⟩
          case measure =>
            have h1 := HH.out.2.2.2.2.1
            have h2 := trSize_eq HT2.out.1.2.2.2
            simp only [Tre.adr, Tre.size] at h1
            rw [h1, h2]
            omega
      · have q1 : w1.cell? ⟨b, 1, none⟩ = some (.pointer l.adr) := T1.1.cell 1
        have HH := Lib.hid (And.intro T1 (And.intro B1 (And.intro hP (And.intro hy (And.intro hsz hlt)))))
        clear T1 B1 hP hy hsz hlt hO b1
        go_wp2_with fail
        all_goals go_roundw
        case rel =>
          have hP := HH.out.2.2.1
          refine ⟨l, rfl, HH.out.1.2.2.1, hP.1, fun z hz => H.out.2.2.1 z (by simp [Tre.ino, hz]), fun hz => ?_, HH.out.2.1⟩
          obtain ⟨z, hz, he⟩ := H.out.2.2.2.1 hz
          simp only [Tre.ino, List.mem_append, List.mem_cons] at hz
          have hlt := HH.out.2.2.2.2.2
          rcases hz with hz | rfl | hz
          · exact ⟨z, hz, he⟩
          · rw [he, ltB_irrefl] at hlt
            cases hlt
          · have := (List.pairwise_cons.1 hP.2.1).1 z hz
            rw [he, hlt] at this
            cases this
        case measure =>
          have h1 := HH.out.2.2.2.2.1
          have h2 := trSize_eq HH.out.1.2.2.1
          simp only [Tre.adr, Tre.size] at h1
          rw [h1, h2]
          omega

/-- What the insertion at the top comes to. -/
def TopPost (ib : Nat) (n : Int) (s : Tre) (x : Rec) (w : World) (e : Ending) (w' : World) : Prop :=
  e = .returned (.tuple #[]) ∧ ∃ s' : Tre, Blk w' ib 113 #[.int .i64 (n + 1), .pointer s'.adr] ∧ Tr w' s' ∧ s'.ino.Perm (x :: s.ino) ∧ (Ord s.ino → Ord s'.ino) ∧ s'.bs.Nodup ∧ ib ∉ s'.bs ∧ (∀ i ∈ s'.bs, i ∈ s.bs ∨ w.heap.size ≤ i) ∧ Kp (ib :: s.bs) w w'

set_option maxRecDepth 100000 in
set_option maxHeartbeats 4000000 in
theorem insertTop_any (ib : Nat) (n : Int) (s : Tre) (x : Rec) (w : World) (hb : Blk w ib 113 #[.int .i64 n, .pointer s.adr]) (hn0 : 0 ≤ n) (hn : n ≤ 1000000) (h : Tr w s) (nd : s.bs.Nodup) (hi : ib ∉ s.bs) (hx : It w x) :
    Calls Tryd.prog 47 #[.pointer (some ⟨ib, 0, none⟩), x.val] w (TopPost ib n s x w) := by
  have hi0 := insertRec_any ⟨ib, 0, none⟩ x s w h nd hx
  obtain ⟨sa, hsa⟩ : ∃ sa, s.adr = sa := ⟨_, rfl⟩
  rw [hsa] at hb hi0
  have q1 : w.cell? ⟨ib, 1, none⟩ = some (.pointer sa) := hb.cell 1
  have HI := Lib.hid hi0
  clear hsa hi0
  have H := Lib.hid (And.intro hb (And.intro h (And.intro nd (And.intro hi hx))))
  have hwn : IntKind.i64.wrap (n + 1) = n + 1 := by rw [IntKind.wrap_i64]; omega
  clear hb h nd hi hx
  unfold Rec.val at HI ⊢
  go_enter Tryd.func47, Tryd.ntmps47
  go_wp2_with fail
  refine HI.out.mono ?_
  rintro e w1 ⟨s', rfl, T1, hp, ho, hnd, hbs, k1, hne⟩
  have B1 := H.out.1.kp k1 H.out.2.2.2.1
  have hib : ib ∉ s'.bs := fun hm => by
    rcases hbs ib hm with h | h
    · exact H.out.2.2.2.1 h
    · have := H.out.1.lt; omega
  cases s' with
  | leaf => exact absurd rfl hne
  | node b y l r k =>
    have hbi : ¬ ib = b := fun e => hib (by simp [Tre.bs, e])
    have hib2 : ¬ b = ib := fun e => hbi e.symm
    have f0 := B1.frozen 0
    have f1 := B1.frozen 1
    have g3 := T1.1.frozen 3
    have q0 : w1.cell? ⟨ib, 0, none⟩ = some (.int .i64 n) := B1.cell 0
    have q1' : w1.cell? ⟨ib, 1, none⟩ = some (.pointer sa) := B1.cell 1
    have q3 : w1.cell? ⟨b, 3, none⟩ = some (.bool k) := T1.1.cell 3
    have hn1 : Nodes w1 (Tre.node b y l r k).bs := T1.nodes
    have nd1 := hnd
    simp only [Tre.bs, List.nodup_cons, List.mem_append, List.nodup_append] at nd1
    have V1 := B1.set_ 1 (.pointer (some ⟨b, 0, none⟩))
    have V2 := (V1.far (p := ⟨b, 3, none⟩) hbi (.bool true)).set_ 0 (.int .i64 (n + 1))
    have KK := ((((Kp.refl [ib] w1).setCell (p := ⟨ib, 1, none⟩) (.inl (by simp)) (.pointer (some ⟨b, 0, none⟩))).sub (M := [ib, b]) (fun i hi => by simp at hi ⊢; exact .inl hi)).setCell (p := ⟨b, 3, none⟩) (.inl (by simp)) (.bool true)).setCell (p := ⟨ib, 0, none⟩) (.inl (by simp)) (.int .i64 (n + 1))
    have N1 := ((T1.1.far (p := ⟨ib, 1, none⟩) hib2 (.pointer (some ⟨b, 0, none⟩))).set_ 3 (.bool true)).far (p := ⟨ib, 0, none⟩) hib2 (.int .i64 (n + 1))
    have hsub : ∀ (u : Tre), Tr w1 u → b ∉ u.bs → ib ∉ u.bs → Tr (((w1.setCell ⟨ib, 1, none⟩ (.pointer (some ⟨b, 0, none⟩))).setCell ⟨b, 3, none⟩ (.bool true)).setCell ⟨ib, 0, none⟩ (.int .i64 (n + 1))) u := by
      intro u hu hub hui
      have hin : ∀ z : Rec, It w1 z → z.g ≠ ib := fun z hz => hz.ne B1 (no_byte _ _)
      have hgo : ∀ (u : Tre), Tr w1 u → b ∉ u.bs → ib ∉ u.bs → Tr (((w1.setCell ⟨ib, 1, none⟩ (.pointer (some ⟨b, 0, none⟩))).setCell ⟨b, 3, none⟩ (.bool true)).setCell ⟨ib, 0, none⟩ (.int .i64 (n + 1))) u := by
        intro u
        induction u with
        | leaf => intros; trivial
        | node c z p q m ihp ihq =>
          intro hu hub hui
          simp only [Tre.bs, List.mem_cons, List.mem_append, not_or] at hub hui
          refine ⟨hu.1.kp KK (by simp; exact ⟨fun e => hui.1 e.symm, fun e => hub.1 e.symm⟩), ⟨hu.2.1.1.kp KK (by simp; exact ⟨hin z hu.2.1, fun e => hu.2.1.apart hn1 (by simp [Tre.bs, e])⟩), hu.2.1.2⟩, ihp hu.2.2.1 hub.2.1 hui.2.1, ihq hu.2.2.2 hub.2.2 hui.2.2⟩
      exact hgo u hu hub hui
    have hib3 := hib
    simp only [Tre.bs, List.mem_cons, List.mem_append, not_or] at hib3
    have L1 := hsub l T1.2.2.1 (fun h => nd1.1 (.inl h)) hib3.2.1
    have R1 := hsub r T1.2.2.2 (fun h => nd1.1 (.inr h)) hib3.2.2
    have hyg : y.g ≠ ib := T1.2.1.ne B1 (no_byte _ _)
    have Y1 : It (((w1.setCell ⟨ib, 1, none⟩ (.pointer (some ⟨b, 0, none⟩))).setCell ⟨b, 3, none⟩ (.bool true)).setCell ⟨ib, 0, none⟩ (.int .i64 (n + 1))) y := ⟨T1.2.1.1.kp KK (by simp; exact ⟨hyg, fun e => T1.2.1.apart hn1 (by simp [Tre.bs, e])⟩), T1.2.1.2⟩
    have HF := Lib.hid (And.intro V2 (And.intro N1 (And.intro Y1 (And.intro L1 (And.intro R1 (And.intro hp (And.intro ho (And.intro hnd (And.intro hib (And.intro hbs (And.intro k1 KK)))))))))))
    clear V1 V2 N1 Y1 L1 R1 hp ho hnd hib hbs k1 KK hsub hyg hib3 nd1 hn1 T1 B1 hne
    simp only [Tre.adr]
    go_wp2_with fail
    go_end0
    obtain ⟨V2, N1, Y1, L1, R1, hp, ho, hnd, hib, hbs, k1, KK⟩ := HF.out
    refine ⟨rfl, .node b y l r true, V2, ⟨N1, Y1, L1, R1⟩, hp, ho, hnd, hib, hbs, ?_⟩
    exact (k1.sub (fun i hi => by simp [hi])).step KK (fun i hi => by
      simp at hi
      rcases hi with rfl | rfl
      · exact .inl (by simp)
      · rcases hbs i (by simp [Tre.bs]) with h | h
        · exact .inl (by simp [h])
        · exact .inr h)
end Go.Proofs.YtdfhfaeeejijcaaDoor
