/-
  (*llrb.LLRB).insertNoReplace, InsertNoReplace: their walks. Conditions: as each contract says.
-/
import Derived.Test.YtdfhfaeeejijcaaDoorLm
namespace Go.Proofs.YtdfhfaeeejijcaaDoor
open Go.RowKit

/-- In order. -/
def Ord (L : List Rec) : Prop := L.Pairwise (fun a b => ltB b.d a.d = false)
theorem ltB_asymm {a b : List UInt8} (h : ltB a b = true) : ltB b a = false := by
  cases hb : ltB b a
  · rfl
  · have := ltB_trans h hb
    rw [ltB_irrefl] at this
    cases this
/-- x ahead of a, and a not behind y: x ahead of y. -/
theorem ltB_le {x a y : List UInt8} (h : ltB x a = true) (k : ltB y a = false) : ltB x y = true := by
  cases ha : ltB a y
  · rw [ltB_total ha k] at h; exact h
  · exact ltB_trans h ha
theorem ord_left {l r l' : List Rec} {x y : Rec} (h : Ord (l ++ y :: r)) (hl : Ord l') (hm : ∀ a ∈ l', a = x ∨ a ∈ l) (hx : ltB x.d y.d = true) : Ord (l' ++ y :: r) := by
  unfold Ord at h hl ⊢
  rw [List.pairwise_append] at h ⊢
  refine ⟨hl, h.2.1, fun a ha b hb => ?_⟩
  rcases hm a ha with rfl | ha
  · rcases List.mem_cons.1 hb with rfl | hb
    · exact ltB_asymm hx
    · have hyb := (List.pairwise_cons.1 h.2.1).1 b hb
      cases hba : ltB b.d a.d
      · rfl
      · have := ltB_trans hba hx
        rw [hyb] at this
        cases this
  · exact h.2.2 a ha b hb
theorem ord_right {l r r' : List Rec} {x y : Rec} (h : Ord (l ++ y :: r)) (hr : Ord r') (hm : ∀ a ∈ r', a = x ∨ a ∈ r) (hx : ltB x.d y.d = false) : Ord (l ++ y :: r') := by
  unfold Ord at h hr ⊢
  rw [List.pairwise_append] at h ⊢
  have hyr := (List.pairwise_cons.1 h.2.1).1
  refine ⟨h.1, List.pairwise_cons.2 ⟨fun b hb => ?_, hr⟩, fun a ha b hb => ?_⟩
  · rcases hm b hb with rfl | hb
    · exact hx
    · exact hyr b hb
  · rcases List.mem_cons.1 hb with rfl | hb
    · exact h.2.2 a ha _ (by simp)
    · rcases hm b hb with rfl | hb
      · have hay := h.2.2 a ha y (by simp)
        cases hba : ltB b.d a.d
        · rfl
        · have := ltB_le hba hay
          rw [hx] at this
          cases this
      · exact h.2.2 a ha b (by simp [hb])
theorem ord_sub {l r : List Rec} {y : Rec} (h : Ord (l ++ y :: r)) : Ord l ∧ Ord r := by
  unfold Ord at h ⊢
  rw [List.pairwise_append] at h
  exact ⟨h.1, (List.pairwise_cons.1 h.2.1).2⟩

set_option maxRecDepth 100000 in
theorem walkDown_any (a : Option Addr) (w : World) : Calls Tryd.prog 71 #[.pointer a] w fun e w' => e = .returned (.pointer a) ∧ w = w' := by
  go_enter Tryd.func71, Tryd.ntmps71
  go_wp2_with fail
  go_ret
  exact ⟨rfl, rfl⟩

/-- What an insertion comes to. -/
def InsPost (s : Tre) (x : Rec) (w : World) (e : Ending) (w' : World) : Prop :=
  ∃ s' : Tre, e = .returned (.pointer s'.adr) ∧ Tr w' s' ∧ s'.ino.Perm (x :: s.ino) ∧ (Ord s.ino → Ord s'.ino) ∧ s'.bs.Nodup ∧ (∀ i ∈ s'.bs, i ∈ s.bs ∨ w.heap.size ≤ i) ∧ Kp s.bs w w' ∧ s' ≠ .leaf

theorem Tr.set {w : World} {b i : Nat} {v : Value} {s : Tre} (h : Tr w s) (hn : Nodes w [b]) (hb : b ∉ s.bs) : Tr (w.setCell ⟨b, i, none⟩ v) s :=
  Tr.kp ((Kp.refl [b] w).setCell (p := ⟨b, i, none⟩) (.inl (by simp)) v) hn h (fun c hc hm => hb (by simp at hm; rw [← hm]; exact hc))

set_option maxRecDepth 100000 in
set_option maxHeartbeats 4000000 in
theorem insertRec_any (ta : Addr) (x : Rec) : ∀ (s : Tre) (w : World), Tr w s → s.bs.Nodup → It w x →
    Calls Tryd.prog 60 #[.pointer (some ta), .pointer s.adr, x.val] w (InsPost s x w) := by
  intro s
  induction s with
  | leaf =>
    intro w _ _ hx
    have HX := Lib.hid hx
    clear hx
    unfold Rec.val Tre.adr
    go_enter Tryd.func60, Tryd.ntmps60
    go_wp2_with fail
    refine (newNode_any _ _ w).mono ?_
    rintro e w1 ⟨rfl, B1, b1⟩
    go_wp2_with fail
    go_ret
    exact ⟨.node w.heap.size x .leaf .leaf false, rfl, ⟨B1, HX.out.old b1, trivial, trivial⟩, .refl _, fun _ => List.pairwise_singleton _ _, by simp [Tre.bs], fun i hi => .inr (by simp [Tre.bs] at hi; omega), Kp.of_below b1 _, by simp⟩
  | node b y l r k ihl ihr =>
    intro w h nd hx
    have hless := llrbLess_any x y w hx h.2.1
    have q0 : w.cell? ⟨b, 0, none⟩ = some y.val := h.1.cell 0
    have HL := Lib.hid (And.intro hless (And.intro h (And.intro nd hx)))
    have HI := Lib.hid (And.intro ihl ihr)
    clear hless h nd hx ihl ihr
    unfold Tre.adr
    go_enter Tryd.func60, Tryd.ntmps60
    go_wp2_with fail
    refine (walkDown_any _ w).mono ?_
    rintro e _ ⟨rfl, rfl⟩
    go_wp2_with fail
    refine HL.out.1.mono ?_
    rintro e w1 ⟨rfl, b1⟩
    have T1 := Tr.old b1 HL.out.2.1
    have X1 := HL.out.2.2.2.old b1
    have nd := HL.out.2.2.1
    have k01 : Kp (Tre.node b y l r k).bs w w1 := Kp.of_below b1 _
    clear q0
    have hbl : b ∉ l.bs ∧ b ∉ r.bs ∧ l.bs.Nodup ∧ r.bs.Nodup ∧ (∀ i ∈ l.bs, i ∉ r.bs) := by simp only [Tre.bs, List.nodup_cons, List.mem_append, List.nodup_append] at nd; grind
    cases hlt : ltB x.d y.d
    · have HC := Lib.hid (HI.out.2 w1 T1.2.2.2 hbl.2.2.2.1 X1)
      have q2 : w1.cell? ⟨b, 2, none⟩ = some (.pointer r.adr) := T1.1.cell 2
      have H1 := Lib.hid (And.intro T1 (And.intro X1 (And.intro nd (And.intro k01 (And.intro hbl hlt)))))
      have hwl : w.heap.size ≤ w1.heap.size := b1.size
      clear T1 X1 nd k01 hbl hlt b1
      go_wp2_with fail
      refine HC.out.mono ?_
      rintro e w2 ⟨s', rfl, T2, hp, ho, hnd, hbs, k2, hne⟩
      have B2 := H1.out.1.1.kp k2 H1.out.2.2.2.2.1.2.1
      have L2 := Tr.kp k2 H1.out.1.2.2.2.nodes H1.out.1.2.2.1 (fun i hi => H1.out.2.2.2.2.1.2.2.2.2 i hi)
      have Y2 := H1.out.1.2.1.kp k2 H1.out.1.2.2.2.nodes
      have hbs' : b ∉ s'.bs := fun hb => by rcases hbs b hb with h | h; exact H1.out.2.2.2.2.1.2.1 h; have := H1.out.1.1.lt; omega
      have hn2 : Nodes w2 [b] := fun i hi => by simp at hi; subst hi; exact ⟨_, _, _, _, B2⟩
      have f2 := B2.frozen 2
      have q2 : w2.cell? ⟨b, 2, none⟩ = some (.pointer r.adr) := B2.cell 2
      have T3 : Tr (w2.setCell ⟨b, 2, none⟩ (.pointer s'.adr)) (.node b y l s' k) := ⟨B2.set_ 2 (.pointer s'.adr), Y2.kp ((Kp.refl [b] w2).setCell (p := ⟨b, 2, none⟩) (.inl (by simp)) _) hn2, L2.set hn2 H1.out.2.2.2.2.1.1, T2.set hn2 hbs'⟩
      have nd3 : (Tre.node b y l s' k).bs.Nodup := by
        have hlt := fun i hi => H1.out.1.2.2.1.lt i hi
        have hd := H1.out.2.2.2.2.1
        simp only [Tre.bs, List.nodup_cons, List.mem_append, List.nodup_append]
        refine ⟨fun h => h.elim hd.1 hbs', hd.2.2.1, hnd, fun i hi j hj e => ?_⟩
        subst e
        rcases hbs i hj with h | h
        · exact hd.2.2.2.2 i hi h
        · have := hlt i hi; omega
      have k3 : Kp (Tre.node b y l r k).bs w (w2.setCell ⟨b, 2, none⟩ (.pointer s'.adr)) := (H1.out.2.2.2.1.trans (k2.sub (fun i hi => by simp [Tre.bs, hi]))).setCell (p := ⟨b, 2, none⟩) (.inl (by simp [Tre.bs])) _
      have hw := walkUp_any b y l s' k _ T3 nd3
      have HW := Lib.hid hw
      have HF := Lib.hid (And.intro hp (And.intro ho (And.intro hbs (And.intro k3 nd3))))
      clear hw T3 nd3 k3 hp ho hnd hbs k2 hne T2 L2 Y2 hbs' hn2 HC
      go_wp2_with fail
      refine HW.out.mono ?_
      rintro e w4 ⟨s'', rfl, T4, hi4, hp4, k4⟩
      unfold Tre.ptr
      go_wp2_with fail
      go_ret
      refine ⟨s'', rfl, T4, ?_, fun hO => ?_, hp4.nodup_iff.2 HF.out.2.2.2.2, fun i hi => ?_, ?_, ?_⟩
      · rw [hi4]
        simp only [Tre.ino]
        exact (List.Perm.append_left _ ((HF.out.1.cons y).trans (List.Perm.swap _ _ _))).trans List.perm_middle
      · rw [hi4]
        simp only [Tre.ino] at hO ⊢
        exact ord_right hO (HF.out.2.1 (ord_sub hO).2) (fun a ha => by simpa using HF.out.1.mem_iff.1 ha) H1.out.2.2.2.2.2
      · have := hp4.mem_iff.1 hi
        simp only [Tre.bs, List.mem_cons, List.mem_append] at this ⊢
        rcases this with h | h | h
        · exact .inl (.inl h)
        · exact .inl (.inr (.inl h))
        · rcases HF.out.2.2.1 i h with h | h
          · exact .inl (.inr (.inr h))
          · exact .inr (by omega)
      · exact HF.out.2.2.2.1.step k4 (fun i hi => by
          simp only [Tre.bs, List.mem_cons, List.mem_append] at hi ⊢
          rcases hi with h | h | h
          · exact .inl (.inl h)
          · exact .inl (.inr (.inl h))
          · rcases HF.out.2.2.1 i h with h | h
            · exact .inl (.inr (.inr h))
            · exact .inr (by omega))
      · rintro rfl
        simp [Tre.bs] at hp4
    · have HC := Lib.hid (HI.out.1 w1 T1.2.2.1 hbl.2.2.1 X1)
      have q1 : w1.cell? ⟨b, 1, none⟩ = some (.pointer l.adr) := T1.1.cell 1
      have H1 := Lib.hid (And.intro T1 (And.intro X1 (And.intro nd (And.intro k01 (And.intro hbl hlt)))))
      have hwl : w.heap.size ≤ w1.heap.size := b1.size
      clear T1 X1 nd k01 hbl hlt b1
      go_wp2_with fail
      refine HC.out.mono ?_
      rintro e w2 ⟨s', rfl, T2, hp, ho, hnd, hbs, k2, hne⟩
      have B2 := H1.out.1.1.kp k2 H1.out.2.2.2.2.1.1
      have L2 := Tr.kp k2 H1.out.1.2.2.1.nodes H1.out.1.2.2.2 (fun i hi hm => H1.out.2.2.2.2.1.2.2.2.2 i hm hi)
      have Y2 := H1.out.1.2.1.kp k2 H1.out.1.2.2.1.nodes
      have hbs' : b ∉ s'.bs := fun hb => by rcases hbs b hb with h | h; exact H1.out.2.2.2.2.1.1 h; have := H1.out.1.1.lt; omega
      have hn2 : Nodes w2 [b] := fun i hi => by simp at hi; subst hi; exact ⟨_, _, _, _, B2⟩
      have f2 := B2.frozen 1
      have q2 : w2.cell? ⟨b, 1, none⟩ = some (.pointer l.adr) := B2.cell 1
      have T3 : Tr (w2.setCell ⟨b, 1, none⟩ (.pointer s'.adr)) (.node b y s' r k) := ⟨B2.set_ 1 (.pointer s'.adr), Y2.kp ((Kp.refl [b] w2).setCell (p := ⟨b, 1, none⟩) (.inl (by simp)) _) hn2, T2.set hn2 hbs', L2.set hn2 H1.out.2.2.2.2.1.2.1⟩
      have nd3 : (Tre.node b y s' r k).bs.Nodup := by
        have hlt := fun i hi => H1.out.1.2.2.2.lt i hi
        have hd := H1.out.2.2.2.2.1
        simp only [Tre.bs, List.nodup_cons, List.mem_append, List.nodup_append]
        refine ⟨fun h => h.elim hbs' hd.2.1, hnd, hd.2.2.2.1, fun i hi j hj e => ?_⟩
        subst e
        rcases hbs i hi with h | h
        · exact hd.2.2.2.2 i h hj
        · have := hlt i hj; omega
      have k3 : Kp (Tre.node b y l r k).bs w (w2.setCell ⟨b, 1, none⟩ (.pointer s'.adr)) := (H1.out.2.2.2.1.trans (k2.sub (fun i hi => by simp [Tre.bs, hi]))).setCell (p := ⟨b, 1, none⟩) (.inl (by simp [Tre.bs])) _
      have hw := walkUp_any b y s' r k _ T3 nd3
      have HW := Lib.hid hw
      have HF := Lib.hid (And.intro hp (And.intro ho (And.intro hbs (And.intro k3 nd3))))
      clear hw T3 nd3 k3 hp ho hnd hbs k2 hne T2 L2 Y2 hbs' hn2 HC
      go_wp2_with fail
      refine HW.out.mono ?_
      rintro e w4 ⟨s'', rfl, T4, hi4, hp4, k4⟩
      unfold Tre.ptr
      go_wp2_with fail
      go_ret
      refine ⟨s'', rfl, T4, ?_, fun hO => ?_, hp4.nodup_iff.2 HF.out.2.2.2.2, fun i hi => ?_, ?_, ?_⟩
      · rw [hi4]
        simp only [Tre.ino]
        exact (List.Perm.append_right _ HF.out.1)
      · rw [hi4]
        simp only [Tre.ino] at hO ⊢
        exact ord_left hO (HF.out.2.1 (ord_sub hO).1) (fun a ha => by simpa using HF.out.1.mem_iff.1 ha) H1.out.2.2.2.2.2
      · have := hp4.mem_iff.1 hi
        simp only [Tre.bs, List.mem_cons, List.mem_append] at this ⊢
        rcases this with h | h | h
        · exact .inl (.inl h)
        · rcases HF.out.2.2.1 i h with h | h
          · exact .inl (.inr (.inl h))
          · exact .inr (by omega)
        · exact .inl (.inr (.inr h))
      · exact HF.out.2.2.2.1.step k4 (fun i hi => by
          simp only [Tre.bs, List.mem_cons, List.mem_append] at hi ⊢
          rcases hi with h | h | h
          · exact .inl (.inl h)
          · rcases HF.out.2.2.1 i h with h | h
            · exact .inl (.inr (.inl h))
            · exact .inr (by omega)
          · exact .inl (.inr (.inr h)))
      · rintro rfl
        simp [Tre.bs] at hp4
end Go.Proofs.YtdfhfaeeejijcaaDoor
