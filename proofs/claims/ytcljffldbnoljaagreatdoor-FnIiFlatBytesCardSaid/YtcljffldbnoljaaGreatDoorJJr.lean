/-
  (*index.InsertionIndex).Flatten, impl.IiFlat: the very bytes. Conditions: as each contract says. (Printed by mkjq.py.)
  Entries opened, with their capacity; spec.Once. Conditions: as each law says.
-/
import Derived.Test.YtcljffldbnoljaaGreatDoorJs
import Derived.BigRegion
import Derived.Test.YtcljffldbnoljaaGreatDoorJQu
import Derived.Test.YtcljffldbnoljaaGreatDoorJCdS
namespace Go.Proofs.YtcljffldbnoljaaGreatDoor
open Go.RowKit Go.Sort Go.Lib

theorem Tr.it {w : World} : ∀ {s : Tre}, Tr w s → ∀ y ∈ s.ino, It w y
  | .leaf, _, y, hy => by cases hy
  | .node b x l r k, h, y, hy => by
    rcases List.mem_append.1 hy with h1 | h1
    · exact Tr.it h.2.2.1 y h1
    · rcases List.mem_cons.1 h1 with rfl | h1
      · exact h.2.1
      · exact Tr.it h.2.2.2 y h1
theorem mk_recs (n : Nat) (hn : n ≤ 1000) : ∃ zs : List Value, zs.length = n * 2 ∧ ∀ W : World, (Instr.makeSlice 55 (.int .i64 n) (.int .i64 n)).run Tryz.prog W = .ok (.slice (some ⟨W.heap.size, 0, none⟩) n n) (W.alloc (.cells zs.toArray 65)) := by
  obtain ⟨i0, hi, hz0, hz1, hz2⟩ := recT
  refine ⟨(madeCells (Value.agg #[.string ⟨#[]⟩, .int .u64 0]).cells (n * 2)).toList, by rw [Array.length_toList, size_madeCells], fun W => ?_⟩
  have hr := run_make (P := Tryz.prog) W 55 65 i0 _ Tryz.underlying55 hi hz0 .i64 .i64 n n (by omega) (by omega) (by rw [hz2]; omega) (by omega)
  simpa [hz1] using hr
theorem min_least {l : List Rec} {y : Rec} {t : List Rec} (h : Ord l) (e : l = y :: t) : ∀ z ∈ l, ltB z.d y.d = false := by
  subst e
  intro z hz
  rcases List.mem_cons.1 hz with rfl | hz
  · exact ltB_irrefl _
  · exact (List.pairwise_cons.1 h).1 z hz
set_option maxRecDepth 100000 in
set_option maxHeartbeats 2000000 in
theorem llrbLen_any (ib : Nat) (n : Nat) (w : World) (h : w.cell? ⟨ib, 0, none⟩ = some (.int .i64 n)) : Calls Tryz.prog 24 #[.pointer (some ⟨ib, 0, none⟩)] w fun e w' => e = .returned (.int .i64 n) ∧ w' = w := by
  go_enter Tryz.func24, Tryz.ntmps24
  go_wp2_with fail
  exact bodyPost_ret (v := .int .i64 n) (by simp [results, Tryz.results24, go_sem]) rfl ⟨rfl, rfl⟩

/-- What it answers: the bytes of the entries in some order. -/
def IfPost0 (L : List EntL) (w : World) (e : Ending) (w' : World) : Prop := ∃ (S : List UInt8) (L' : List EntL), e = .returned (.tuple #[.string ⟨S.toArray⟩, .bool true]) ∧ L'.Perm L ∧ WrittenIs 1024 L' S ∧ S.length ≤ 46800814 ∧ Below w.heap.size w w'
/-- What Flatten comes to. -/
def FlPost0 (L : List EntL) (w : World) (e : Ending) (w' : World) : Prop := ∃ (pb mb B : Nat) (L' : List EntL), e = .returned (.tuple #[.iface 133 (.pointer (some ⟨pb, 0, none⟩)), .nilIface]) ∧ L'.Perm L ∧ w'.cell? ⟨pb, 0, none⟩ = some (.map (some mb)) ∧ MwOk w' mb B L' ∧ Below w.heap.size w w'

set_option maxRecDepth 100000 in
set_option maxHeartbeats 8000000 in
theorem flatten0 (ib : Nat) (L : List EntL) (s : Tre) (w : World) (hb : Blk w ib 60 #[.int .i64 L.length, .pointer s.adr]) (hT : Tr w s) (hO : Ord s.ino) (hS : SameP L L.length s.ino) (hst : ∀ x ∈ L, x.ok) (hn : L.length ≤ 60) (hne : L ≠ []) (E : E4 w) :
    Calls Tryz.prog 13 #[.pointer (some ⟨ib, 0, none⟩), .int .u64 1024] w (FlPost0 L w) := by
  obtain ⟨n, hnl⟩ : ∃ n, L.length = n := ⟨_, rfl⟩
  have hS0 := hS
  unfold SameP at hS
  rw [List.take_length] at hS
  rw [hnl] at hb hn
  have hil : s.ino.length = n := by have := hS.length_eq; rwa [List.length_map, List.length_map, hnl] at this
  obtain ⟨L', hP, hL'⟩ := perm_told saysE (s.ino.map saysR) L hS
  have hs : s ≠ .leaf := fun e => hne (List.eq_nil_of_length_eq_zero (by rw [hnl, ← hil, e]; rfl))
  obtain ⟨zs, hzs, hmk⟩ := mk_recs n (by omega)
  have HN := Lib.hid (ixNew0_any w)
  have H := Lib.hid (And.intro hb (And.intro hT (And.intro hO (And.intro hil (And.intro hP (And.intro hL' (And.intro hs (And.intro hst (And.intro hnl (And.intro E hzs))))))))))
  have hib := hb.lt
  clear hb hT hO hS hS0 hst hne E hil hP hL' hs hnl hzs
  go_enter Tryz.func13, Tryz.ntmps13
  go_wp2_with fail
  refine HN.out.mono ?_
  rintro e w1 ⟨pb, mb, rfl, hNew, hpb, hmb, b1⟩
  obtain ⟨hb, hT, hO, hil, hP, hL', hs, hst, hnl, E, hzs⟩ := H.out
  have hb1 := hb.old b1
  have q0 : w1.cell? ⟨ib, 0, none⟩ = some (.int .i64 n) := hb1.cell 0
  have HLn := Lib.hid (llrbLen_any ib n w1 q0)
  obtain ⟨g, hg⟩ : ∃ g, w1.heap.size = g := ⟨_, rfl⟩
  obtain ⟨W2, hW2⟩ : ∃ W2, w1.alloc (.cells zs.toArray 65) = W2 := ⟨_, rfl⟩
  obtain ⟨W3, hW3⟩ : ∃ W3, W2.alloc (.cells #[.slice (some ⟨g, 0, none⟩) n n] 55) = W3 := ⟨_, rfl⟩
  obtain ⟨W4, hW4⟩ : ∃ W4, W3.alloc (.cells #[.int .i64 0] 3) = W4 := ⟨_, rfl⟩
  have hs2 : W2.heap.size = g + 1 := by rw [← hW2, ← hg]; simp
  have hs3 : W3.heap.size = g + 2 := by rw [← hW3]; simp [hs2]
  have b12 : Below w1.heap.size w1 W2 := by rw [← hW2]; exact Old.alloc (Below.refl _ _) _
  have b23 : Below W2.heap.size W2 W3 := by rw [← hW3]; exact Old.alloc (Below.refl _ _) _
  have b34 : Below W3.heap.size W3 W4 := by rw [← hW4]; exact Old.alloc (Below.refl _ _) _
  have b14 := Old.trans (Old.trans b12 b23) b34
  have G4 : Blk W4 g 65 zs.toArray := by
    have := Blk.new w1 65 zs.toArray
    rw [hW2, hg] at this
    exact (this.old b23).old b34
  have R4 : Blk W4 (g + 1) 55 #[.slice (some ⟨g, 0, none⟩) n n] := by
    have := Blk.new W2 55 #[.slice (some ⟨g, 0, none⟩) n n]
    rw [hW3, hs2] at this
    exact this.old b34
  have I4 : Blk W4 (g + 2) 3 #[.int .i64 0] := by
    have := Blk.new W3 3 #[.int .i64 0]
    rwa [hW4, hs3] at this
  have i4 : W4.cell? ⟨g + 2, 0, none⟩ = some (.int .i64 0) := I4.cell 0
  have if4 := I4.frozen 0
  obtain ⟨W5, hW5⟩ : ∃ W5, W4.setCell ⟨g + 2, 0, none⟩ (.int .i64 0) = W5 := ⟨_, rfl⟩
  have k45 : Kp [g + 2] W4 W5 := by rw [← hW5]; exact (Kp.refl _ _).setCell (p := ⟨g + 2, 0, none⟩) (.inl (by simp)) _
  have I5 : Blk W5 (g + 2) 3 #[.int .i64 0] := by rw [← hW5]; exact I4.set_ 0 (.int .i64 0)
  have R5 := R4.kp k45 (by simp)
  have G5 := G4.kp k45 (by simp)
  have b15 : Below w1.heap.size w1 W5 := ((Kp.of_below b14 []).step k45 (fun i hi => by rw [List.mem_singleton.1 hi]; exact .inr (by omega))).below
  have hLay : Laying w1.heap.size (g + 1) (g + 2) g n W5 [] := ⟨R5, I5, ⟨zs, by simpa using G5, by simp; exact hzs⟩, by omega, by omega, by omega, by omega, by omega, by omega⟩
  have hdr : Below W5.heap.size W5 W5.drew := RowKit.Below.drew (Below.refl _ _)
  have hb4 := ((hb1.old b15).old hdr)
  have hT1 := Tr.old b1 hT
  have hT4 := Tr.old hdr (Tr.old b15 hT1)
  have HMn := Lib.hid (llrbMin_any ib n s W5.drew hb4 hT4 hs)
  have H1 := Lib.hid (And.intro hNew (And.intro hpb (And.intro hmb (And.intro b1 (And.intro (hLay.old hdr) (And.intro hb4 (And.intro hT1 (And.intro (Old.trans b15 hdr) hg))))))))
  clear hb hT hO hil hP hL' hs hst hnl E hzs hNew hpb hmb b1 hb1 b12 b23 b34 b14 G4 R4 I4 k45 I5 R5 G5 b15 hLay hdr hb4 hT1 hT4 HN
  go_wp2_with fail
  refine HLn.out.mono ?_
  rintro e w2 ⟨rfl, hw12⟩
  obtain rfl : w1 = w2 := hw12.symm
  clear hw12
  clear q0 HLn
  go_wp2_with fail
  clear i4 if4
  have hAs : ∀ y ty w5, s.ino = y :: ty → Below W5.drew.heap.size W5.drew w5 → Calls Tryz.prog 26 #[.pointer (some ⟨ib, 0, none⟩), y.val, .func (.func 25) #[] #[.pointer (some ⟨g + 1, 0, none⟩), .pointer (some ⟨g + 2, 0, none⟩)]] w5 fun e w' => e = .returned (.tuple #[]) ∧ Laying w1.heap.size (g + 1) (g + 2) g n w' ([] ++ s.ino.map saysR) ∧ Below w1.heap.size w1 w' := fun y ty w5 hyt b5 => by
    obtain ⟨hb, hT, hO, hil, hP, hL', hs, hst, hnl, E, hzs⟩ := H.out
    obtain ⟨_, _, _, _, hLy, hb4, hT1, hbw, _⟩ := H1.out
    exact ascendTop_any ib n y w1.heap.size (g + 1) (g + 2) g n w1 w5 rfl s [] (hb4.old b5) (Tr.it hT1 y (by rw [hyt]; simp)) (by omega) hT1 (min_least hO hyt) (Old.trans hbw b5) (hLy.old b5) (by rw [hil]; simp)
  have HAs := Lib.hid hAs
  clear hAs
  go_region_with (first | (go_at_call 27; refine HMn.out.mono ?_; rintro _ w5 ⟨y, ty, rfl, hyt, b5⟩; replace hyt := Lib.hid (And.intro hyt b5); clear b5) | (go_at_call 26; refine (HAs.out _ _ _ hyt.out.1 hyt.out.2).mono ?_; rintro _ w6 ⟨rfl, hLay6, b6⟩; replace hLay6 := Lib.hid (And.intro hLay6 b6); clear b6))
  all_goals
    obtain ⟨hLy, b16⟩ := hLay6.out
    obtain ⟨hb, hT, hO, hil, hP, hL', hs, hst, hnl, E, hzs⟩ := H.out
    obtain ⟨hNew, hpb, hmb, b1, _, _, _, _, _⟩ := H1.out
    obtain ⟨RB, _, ⟨zs', GB, hzl⟩, _⟩ := hLy
    rw [List.nil_append] at GB hzl
    have hz0 : zs' = [] := List.eq_nil_of_length_eq_zero (by rw [List.length_map, hil] at hzl; omega)
    rw [hz0, List.append_nil] at GB
    have hRV := blk_recV GB (by rw [List.length_map, hil]) (by unfold maxLen; omega)
    rw [hL'] at hRV
    have r0 : w6.cell? ⟨g + 1, 0, none⟩ = some (.slice (some ⟨g, 0, none⟩) n n) := RB.cell 0
    have HLd := Lib.hid (loaded0 pb mb _ L' w w6 (hNew.old b16) hRV (fun x hx => hst x (hP.mem_iff.1 hx)) (by rw [hP.length_eq, hnl]; exact hn) E (Old.trans b1 b16) hmb)
    have hmL : ∀ v W, (method 399 133 v "Load").run Tryz.prog W = .ok (169, v) W := fun _ _ => by kernel_rfl
    have HPm := Lib.hid hP
    clear b16 hb hT hO hil hP hL' hs hst hnl E hzs hNew hpb hmb b1 RB GB hzl hz0 hRV hLay6 HAs HMn
    go_wp2_with fail
    refine HLd.out.mono ?_
    rintro e w7 ⟨rfl, hp7, hO7, b7⟩
    have HB := Lib.hid (And.intro hp7 (And.intro hO7 b7))
    clear hp7 hO7 b7 HLd
    go_wp2_with fail
    exact bodyPost_ret (v := .tuple #[.iface 133 (.pointer (some ⟨pb, 0, none⟩)), .nilIface]) (by simp [results, Tryz.results13, go_sem]) rfl ⟨pb, mb, _, L', rfl, HPm.out, HB.out.1, HB.out.2.1, HB.out.2.2⟩

set_option maxRecDepth 100000 in
set_option maxHeartbeats 4000000 in
theorem iiFlat0 (a : Option Addr) (n c : Nat) (L : List EntL) (w : World) (hL : L.length = n) (hn : n ≤ 60) (hne : L ≠ []) (hst : ∀ x ∈ L, x.ok) (h : n = 0 ∨ ∃ b off, a = some ⟨b, off, none⟩ ∧ Ens w b off L) (E : E4 w) :
    Calls Tryz.prog 7 #[.slice a n c, .int .u64 1024] w (IfPost0 L w) := by
  have HI := Lib.hid (insertion_perm a n c L w hL (by omega) (fun j hj => (hst _ (List.getElem_mem hj)).1) h E)
  have H := Lib.hid (And.intro hL (And.intro hne (And.intro hst E)))
  clear hL hne hst h E
  go_enter Tryz.func7, Tryz.ntmps7
  go_wp2_with fail
  refine HI.out.mono ?_
  rintro e w1 ⟨ib, s, rfl, hb, hT, hO, hS, b1⟩
  have HFl := Lib.hid (flatten0 ib L s w1 hb hT hO hS H.out.2.2.1 (by rw [H.out.1]; exact hn) H.out.2.1 (H.out.2.2.2.old b1))
  have H1 := Lib.hid b1
  clear hb hT hO hS b1 HI
  go_wp2_with fail
  refine HFl.out.mono ?_
  rintro e w2 ⟨pb, mb, B, L', rfl, hP, hp2, hO2, b2⟩
  have HW := Lib.hid (written0 pb mb B L' w2 hp2 hO2 (fun x hx => H.out.2.2.1 x (hP.mem_iff.1 hx)) (by rw [hP.length_eq, H.out.1]; exact hn) (fun e => H.out.2.1 (List.eq_nil_of_length_eq_zero (by rw [← hP.length_eq, e]; rfl))))
  have H2 := Lib.hid (And.intro hP (Old.trans H1.out b2))
  clear hP hp2 hO2 b2 HFl
  go_wp2_with fail
  refine HW.out.mono ?_
  rintro e w3 ⟨S, rfl, hS, hSl, b3⟩
  have H3 := Lib.hid (And.intro hS (And.intro hSl (Old.trans H2.out.2 b3)))
  clear hS hSl b3 HW
  go_wp2_with fail
  exact bodyPost_ret (v := .tuple #[.string ⟨S.toArray⟩, .bool true]) (by simp [results, Tryz.results7, go_sem]) rfl ⟨S, L', rfl, H2.out.1, H3.out⟩

/-- What it answers: the bytes of the entries in some order. -/
def IfPost1 (L : List EntL) (w : World) (e : Ending) (w' : World) : Prop := ∃ (S : List UInt8) (L' : List EntL), e = .returned (.tuple #[.string ⟨S.toArray⟩, .bool true]) ∧ L'.Perm L ∧ WrittenIs 1025 L' S ∧ S.length ≤ 46800814 ∧ Below w.heap.size w w'
/-- What Flatten comes to. -/
def FlPost1 (L : List EntL) (w : World) (e : Ending) (w' : World) : Prop := ∃ (pb mb B : Nat) (L' : List EntL), e = .returned (.tuple #[.iface 93 (.pointer (some ⟨pb, 0, none⟩)), .nilIface]) ∧ L'.Perm L ∧ w'.cell? ⟨pb, 0, none⟩ = some (.map (some mb)) ∧ MhOk w' mb B L' ∧ Below w.heap.size w w'

set_option maxRecDepth 100000 in
set_option maxHeartbeats 8000000 in
theorem flatten1 (ib : Nat) (L : List EntL) (s : Tre) (w : World) (hb : Blk w ib 60 #[.int .i64 L.length, .pointer s.adr]) (hT : Tr w s) (hO : Ord s.ino) (hS : SameP L L.length s.ino) (hst : ∀ x ∈ L, x.ok) (hn : L.length ≤ 60) (hne : L ≠ []) (E : E4 w) :
    Calls Tryz.prog 13 #[.pointer (some ⟨ib, 0, none⟩), .int .u64 1025] w (FlPost1 L w) := by
  obtain ⟨n, hnl⟩ : ∃ n, L.length = n := ⟨_, rfl⟩
  have hS0 := hS
  unfold SameP at hS
  rw [List.take_length] at hS
  rw [hnl] at hb hn
  have hil : s.ino.length = n := by have := hS.length_eq; rwa [List.length_map, List.length_map, hnl] at this
  obtain ⟨L', hP, hL'⟩ := perm_told saysE (s.ino.map saysR) L hS
  have hs : s ≠ .leaf := fun e => hne (List.eq_nil_of_length_eq_zero (by rw [hnl, ← hil, e]; rfl))
  obtain ⟨zs, hzs, hmk⟩ := mk_recs n (by omega)
  have HN := Lib.hid (ixNew1_any w)
  have H := Lib.hid (And.intro hb (And.intro hT (And.intro hO (And.intro hil (And.intro hP (And.intro hL' (And.intro hs (And.intro hst (And.intro hnl (And.intro E hzs))))))))))
  have hib := hb.lt
  clear hb hT hO hS hS0 hst hne E hil hP hL' hs hnl hzs
  go_enter Tryz.func13, Tryz.ntmps13
  go_wp2_with fail
  refine HN.out.mono ?_
  rintro e w1 ⟨pb, mb, rfl, hNew, hpb, hmb, b1⟩
  obtain ⟨hb, hT, hO, hil, hP, hL', hs, hst, hnl, E, hzs⟩ := H.out
  have hb1 := hb.old b1
  have q0 : w1.cell? ⟨ib, 0, none⟩ = some (.int .i64 n) := hb1.cell 0
  have HLn := Lib.hid (llrbLen_any ib n w1 q0)
  obtain ⟨g, hg⟩ : ∃ g, w1.heap.size = g := ⟨_, rfl⟩
  obtain ⟨W2, hW2⟩ : ∃ W2, w1.alloc (.cells zs.toArray 65) = W2 := ⟨_, rfl⟩
  obtain ⟨W3, hW3⟩ : ∃ W3, W2.alloc (.cells #[.slice (some ⟨g, 0, none⟩) n n] 55) = W3 := ⟨_, rfl⟩
  obtain ⟨W4, hW4⟩ : ∃ W4, W3.alloc (.cells #[.int .i64 0] 3) = W4 := ⟨_, rfl⟩
  have hs2 : W2.heap.size = g + 1 := by rw [← hW2, ← hg]; simp
  have hs3 : W3.heap.size = g + 2 := by rw [← hW3]; simp [hs2]
  have b12 : Below w1.heap.size w1 W2 := by rw [← hW2]; exact Old.alloc (Below.refl _ _) _
  have b23 : Below W2.heap.size W2 W3 := by rw [← hW3]; exact Old.alloc (Below.refl _ _) _
  have b34 : Below W3.heap.size W3 W4 := by rw [← hW4]; exact Old.alloc (Below.refl _ _) _
  have b14 := Old.trans (Old.trans b12 b23) b34
  have G4 : Blk W4 g 65 zs.toArray := by
    have := Blk.new w1 65 zs.toArray
    rw [hW2, hg] at this
    exact (this.old b23).old b34
  have R4 : Blk W4 (g + 1) 55 #[.slice (some ⟨g, 0, none⟩) n n] := by
    have := Blk.new W2 55 #[.slice (some ⟨g, 0, none⟩) n n]
    rw [hW3, hs2] at this
    exact this.old b34
  have I4 : Blk W4 (g + 2) 3 #[.int .i64 0] := by
    have := Blk.new W3 3 #[.int .i64 0]
    rwa [hW4, hs3] at this
  have i4 : W4.cell? ⟨g + 2, 0, none⟩ = some (.int .i64 0) := I4.cell 0
  have if4 := I4.frozen 0
  obtain ⟨W5, hW5⟩ : ∃ W5, W4.setCell ⟨g + 2, 0, none⟩ (.int .i64 0) = W5 := ⟨_, rfl⟩
  have k45 : Kp [g + 2] W4 W5 := by rw [← hW5]; exact (Kp.refl _ _).setCell (p := ⟨g + 2, 0, none⟩) (.inl (by simp)) _
  have I5 : Blk W5 (g + 2) 3 #[.int .i64 0] := by rw [← hW5]; exact I4.set_ 0 (.int .i64 0)
  have R5 := R4.kp k45 (by simp)
  have G5 := G4.kp k45 (by simp)
  have b15 : Below w1.heap.size w1 W5 := ((Kp.of_below b14 []).step k45 (fun i hi => by rw [List.mem_singleton.1 hi]; exact .inr (by omega))).below
  have hLay : Laying w1.heap.size (g + 1) (g + 2) g n W5 [] := ⟨R5, I5, ⟨zs, by simpa using G5, by simp; exact hzs⟩, by omega, by omega, by omega, by omega, by omega, by omega⟩
  have hdr : Below W5.heap.size W5 W5.drew := RowKit.Below.drew (Below.refl _ _)
  have hb4 := ((hb1.old b15).old hdr)
  have hT1 := Tr.old b1 hT
  have hT4 := Tr.old hdr (Tr.old b15 hT1)
  have HMn := Lib.hid (llrbMin_any ib n s W5.drew hb4 hT4 hs)
  have H1 := Lib.hid (And.intro hNew (And.intro hpb (And.intro hmb (And.intro b1 (And.intro (hLay.old hdr) (And.intro hb4 (And.intro hT1 (And.intro (Old.trans b15 hdr) hg))))))))
  clear hb hT hO hil hP hL' hs hst hnl E hzs hNew hpb hmb b1 hb1 b12 b23 b34 b14 G4 R4 I4 k45 I5 R5 G5 b15 hLay hdr hb4 hT1 hT4 HN
  go_wp2_with fail
  refine HLn.out.mono ?_
  rintro e w2 ⟨rfl, hw12⟩
  obtain rfl : w1 = w2 := hw12.symm
  clear hw12
  clear q0 HLn
  go_wp2_with fail
  clear i4 if4
  have hAs : ∀ y ty w5, s.ino = y :: ty → Below W5.drew.heap.size W5.drew w5 → Calls Tryz.prog 26 #[.pointer (some ⟨ib, 0, none⟩), y.val, .func (.func 25) #[] #[.pointer (some ⟨g + 1, 0, none⟩), .pointer (some ⟨g + 2, 0, none⟩)]] w5 fun e w' => e = .returned (.tuple #[]) ∧ Laying w1.heap.size (g + 1) (g + 2) g n w' ([] ++ s.ino.map saysR) ∧ Below w1.heap.size w1 w' := fun y ty w5 hyt b5 => by
    obtain ⟨hb, hT, hO, hil, hP, hL', hs, hst, hnl, E, hzs⟩ := H.out
    obtain ⟨_, _, _, _, hLy, hb4, hT1, hbw, _⟩ := H1.out
    exact ascendTop_any ib n y w1.heap.size (g + 1) (g + 2) g n w1 w5 rfl s [] (hb4.old b5) (Tr.it hT1 y (by rw [hyt]; simp)) (by omega) hT1 (min_least hO hyt) (Old.trans hbw b5) (hLy.old b5) (by rw [hil]; simp)
  have HAs := Lib.hid hAs
  clear hAs
  go_region_with (first | (go_at_call 27; refine HMn.out.mono ?_; rintro _ w5 ⟨y, ty, rfl, hyt, b5⟩; replace hyt := Lib.hid (And.intro hyt b5); clear b5) | (go_at_call 26; refine (HAs.out _ _ _ hyt.out.1 hyt.out.2).mono ?_; rintro _ w6 ⟨rfl, hLay6, b6⟩; replace hLay6 := Lib.hid (And.intro hLay6 b6); clear b6))
  all_goals
    obtain ⟨hLy, b16⟩ := hLay6.out
    obtain ⟨hb, hT, hO, hil, hP, hL', hs, hst, hnl, E, hzs⟩ := H.out
    obtain ⟨hNew, hpb, hmb, b1, _, _, _, _, _⟩ := H1.out
    obtain ⟨RB, _, ⟨zs', GB, hzl⟩, _⟩ := hLy
    rw [List.nil_append] at GB hzl
    have hz0 : zs' = [] := List.eq_nil_of_length_eq_zero (by rw [List.length_map, hil] at hzl; omega)
    rw [hz0, List.append_nil] at GB
    have hRV := blk_recV GB (by rw [List.length_map, hil]) (by unfold maxLen; omega)
    rw [hL'] at hRV
    have r0 : w6.cell? ⟨g + 1, 0, none⟩ = some (.slice (some ⟨g, 0, none⟩) n n) := RB.cell 0
    have HLd := Lib.hid (loaded1 pb mb _ L' w w6 (hNew.old b16) hRV (fun x hx => hst x (hP.mem_iff.1 hx)) (by rw [hP.length_eq, hnl]; exact hn) E (Old.trans b1 b16) hmb)
    have hmL : ∀ v W, (method 399 93 v "Load").run Tryz.prog W = .ok (165, v) W := fun _ _ => by kernel_rfl
    have HPm := Lib.hid hP
    clear b16 hb hT hO hil hP hL' hs hst hnl E hzs hNew hpb hmb b1 RB GB hzl hz0 hRV hLay6 HAs HMn
    go_wp2_with fail
    refine HLd.out.mono ?_
    rintro e w7 ⟨rfl, hp7, hO7, b7⟩
    have HB := Lib.hid (And.intro hp7 (And.intro hO7 b7))
    clear hp7 hO7 b7 HLd
    go_wp2_with fail
    exact bodyPost_ret (v := .tuple #[.iface 93 (.pointer (some ⟨pb, 0, none⟩)), .nilIface]) (by simp [results, Tryz.results13, go_sem]) rfl ⟨pb, mb, _, L', rfl, HPm.out, HB.out.1, HB.out.2.1, HB.out.2.2⟩

set_option maxRecDepth 100000 in
set_option maxHeartbeats 4000000 in
theorem iiFlat1 (a : Option Addr) (n c : Nat) (L : List EntL) (w : World) (hL : L.length = n) (hn : n ≤ 60) (hne : L ≠ []) (hst : ∀ x ∈ L, x.ok) (h : n = 0 ∨ ∃ b off, a = some ⟨b, off, none⟩ ∧ Ens w b off L) (E : E4 w) :
    Calls Tryz.prog 7 #[.slice a n c, .int .u64 1025] w (IfPost1 L w) := by
  have HI := Lib.hid (insertion_perm a n c L w hL (by omega) (fun j hj => (hst _ (List.getElem_mem hj)).1) h E)
  have H := Lib.hid (And.intro hL (And.intro hne (And.intro hst E)))
  clear hL hne hst h E
  go_enter Tryz.func7, Tryz.ntmps7
  go_wp2_with fail
  refine HI.out.mono ?_
  rintro e w1 ⟨ib, s, rfl, hb, hT, hO, hS, b1⟩
  have HFl := Lib.hid (flatten1 ib L s w1 hb hT hO hS H.out.2.2.1 (by rw [H.out.1]; exact hn) H.out.2.1 (H.out.2.2.2.old b1))
  have H1 := Lib.hid b1
  clear hb hT hO hS b1 HI
  go_wp2_with fail
  refine HFl.out.mono ?_
  rintro e w2 ⟨pb, mb, B, L', rfl, hP, hp2, hO2, b2⟩
  have HW := Lib.hid (written1 pb mb B L' w2 hp2 hO2 (fun x hx => H.out.2.2.1 x (hP.mem_iff.1 hx)) (by rw [hP.length_eq, H.out.1]; exact hn) (fun e => H.out.2.1 (List.eq_nil_of_length_eq_zero (by rw [← hP.length_eq, e]; rfl))))
  have H2 := Lib.hid (And.intro hP (Old.trans H1.out b2))
  clear hP hp2 hO2 b2 HFl
  go_wp2_with fail
  refine HW.out.mono ?_
  rintro e w3 ⟨S, rfl, hS, hSl, b3⟩
  have H3 := Lib.hid (And.intro hS (And.intro hSl (Old.trans H2.out.2 b3)))
  clear hS hSl b3 HW
  go_wp2_with fail
  exact bodyPost_ret (v := .tuple #[.string ⟨S.toArray⟩, .bool true]) (by simp [results, Tryz.results7, go_sem]) rfl ⟨S, L', rfl, H2.out.1, H3.out⟩

end Go.Proofs.YtcljffldbnoljaaGreatDoor

namespace Go.Proofs.YtcljffldbnoljaaGreatDoor
open Go.RowKit Go.ChangeShapes Go.WideShapes Go.ChangeAt Go.Joins Go.Deep

theorem open_entsC {H : Type} {enc : TypeId × Value → H} {P : Program} {w : World} {base : Nat} {spare : Nat → Bool} {held : Bool} {r : Reach} {b0 : Nat} {t e : TypeId} {g0 g1 f0 f1 f2 f3 : Field} {v : Value} {d : DataW H} {p : List MemPlace}
    (ht : P.underlying t = some (.slice e)) (he : P.underlying e = some (.struct #[g0, g1])) (ce : P.cellsOf e = 5) (p0 : g0.offset = 0) (p1 : g1.offset = 4) (k0 : P.cellsOf g0.type = 4) (k1 : P.cellsOf g1.type = 1) (hc : P.underlying g0.type = some (.struct #[f0, f1, f2, f3])) (o0 : f0.offset = 0) (o1 : f1.offset = 1) (o2 : f2.offset = 2) (o3 : f3.offset = 3)
    (c0 : P.cellsOf f0.type = 1) (c1 : P.cellsOf f1.type = 1) (c2 : P.cellsOf f2.type = 1) (c3 : P.cellsOf f3.type = 1) (t0 : P.underlying f0.type = some (.int .u64)) (t1 : P.underlying f1.type = some (.int .u64)) (t2 : P.underlying f2.type = some (.int .u64)) (t3 : P.underlying f3.type = some .string) (t4 : P.underlying g1.type = some (.int .u64))
    (hv : Value.okWide P w r b0 t v) (h : DataW.Trod enc P w base spare held t v d p) :
    ∃ (a : Option Addr) (n c : Nat) (L : List EntL), v = .slice a n c ∧ L.length = n ∧ n ≤ 9223372036854775807 ∧ (∀ x ∈ L, x.fit) ∧ (n ≤ c ∧ c ≤ maxLen) ∧ (n = 0 ∨ ∃ b off, a = some ⟨b, off, none⟩ ∧ Ens w b off L) := by
  obtain ⟨a, len, cap, rfl⟩ := okWide_slice ht hv
  obtain ⟨fuel, hf⟩ := h
  rcases open_slice ht hf with ⟨hcs, _⟩ | ⟨a', len', cap', m, n, D, Pl, hcs, _, hl, hm, hmm, _, hx⟩
  · simp [Value.cells] at hcs
    obtain ⟨rfl, rfl, rfl⟩ := hcs
    exact ⟨none, 0, 0, [], rfl, rfl, by omega, by simp, ⟨Nat.le_refl _, Nat.zero_le _⟩, .inl rfl⟩
  · simp [Value.cells] at hcs
    obtain ⟨rfl, rfl, rfl⟩ := hcs
    have hlm : len ≤ m := by rw [hmm]; split <;> omega
    have each : ∀ i, i < len → ∃ x : EntL, x.fit ∧ w.cell? (a'.add (i * 5)) = some (.int .u64 (x.c.version : Nat)) ∧ w.cell? (a'.add (i * 5 + 1)) = some (.int .u64 (x.c.codec : Nat)) ∧ w.cell? (a'.add (i * 5 + 2)) = some (.int .u64 (x.c.code : Nat)) ∧ w.cell? (a'.add (i * 5 + 3)) = some (.string ⟨x.c.digest.toArray⟩) ∧ w.cell? (a'.add (i * 5 + 4)) = some (.int .u64 (x.off : Nat)) := by
      intro i hi
      obtain ⟨cs', h1, h2⟩ := hx i (by omega)
      rw [ce] at h1
      obtain ⟨_, hlen, hcell⟩ := World.cells?_some h1
      obtain ⟨y, hy, r0, r1, r2, r3, r4⟩ := open_ent_cells he p0 p1 k0 k1 hc o0 o1 o2 o3 c0 c1 c2 c3 t0 t1 t2 t3 t4 h2
      have q0 := hcell 0 (by omega)
      have q1 := hcell 1 (by omega)
      have q2 := hcell 2 (by omega)
      have q3 := hcell 3 (by omega)
      have q4 := hcell 4 (by omega)
      rw [add_add] at q0 q1 q2 q3 q4
      rw [r0] at q0
      rw [r1] at q1
      rw [r2] at q2
      rw [r3] at q3
      rw [r4] at q4
      exact ⟨y, hy, q0, q1, q2, q3, q4⟩
    obtain ⟨f, hF⟩ := choose_lt each
    refine ⟨some a', len, cap, (List.range len).map f, rfl, by simp, by have : cap ≤ 9223372036854775807 := hm; omega, ?_, ⟨hl, hm⟩, ?_⟩
    · intro x hxm
      obtain ⟨i, hi, rfl⟩ := List.mem_map.1 hxm
      exact (hF i (List.mem_range.1 hi)).1
    · by_cases h0 : len = 0
      · exact .inl h0
      · right
        obtain ⟨b, off, sp⟩ := a'
        have hs : sp = none := by
          have := (hF 0 (by omega)).2.1
          cases sp with
          | none => rfl
          | some _ =>
            exfalso
            unfold World.cell? at this
            split at this
            · simp [Addr.add] at this
            · cases this
        subst hs
        refine ⟨b, off, rfl, fun i hi => ?_⟩
        simp only [List.length_map, List.length_range] at hi
        obtain ⟨_, g0, g1, g2, g3, g4⟩ := hF i hi
        have hadd : ∀ j, (⟨b, off, none⟩ : Addr).add j = ⟨b, off + j, none⟩ := fun j => by unfold Addr.add; split <;> simp_all
        rw [hadd] at g0 g1 g2 g3 g4
        simp only [List.getElem_map, List.getElem_range]
        exact ⟨g0, g1, g2, g3, g4⟩

theorem apart_of : ∀ {L : List EntL}, L.Pairwise (fun x y => x.c.digest ≠ y.c.digest) → Apart L
  | [], _ => fun x hx => by cases hx
  | a :: t, h => by
    rw [List.pairwise_cons] at h
    intro x hx y hy e
    rcases List.mem_cons.1 hx with ex | hx2
    · rcases List.mem_cons.1 hy with ey | hy2
      · rw [ex, ey]
      · exact absurd e (by rw [ex]; exact h.1 y hy2)
    · rcases List.mem_cons.1 hy with ey | hy2
      · exact absurd e.symm (by rw [ey]; exact h.1 x hx2)
      · exact apart_of h.2 x hx2 y hy2 e

/-- What Once comes to. -/
def OncePost (L : List EntL) (w : World) (e : Ending) (w' : World) : Prop := (∃ B, e = .returned (.bool B) ∧ (B = true → Apart L)) ∧ Below w.heap.size w w'

set_option maxRecDepth 100000 in
set_option maxHeartbeats 8000000 in
theorem once_any (a : Option Addr) (n c : Nat) (L : List EntL) (w : World) (hL : L.length = n) (hn : n ≤ 60) (hnc : n ≤ c) (h : n = 0 ∨ ∃ b off, a = some ⟨b, off, none⟩ ∧ Ens w b off L) :
    Calls Tryz.prog 6 #[.slice a n c, .int .u64 1024] w (OncePost L w) := by
  have HF := Lib.hid (And.intro hL h)
  clear hL h
  go_enter Tryz.func6, Tryz.ntmps6
  go_wp2_with fail
  go_loopw [11] (fun v11 wr => ∃ (i : Nat), i ≤ n ∧ v11 = .int .i64 i ∧ Below w.heap.size w wr ∧ Hid ((L.take i).Pairwise (fun x y => x.c.digest ≠ y.c.digest))) (fun v11 _ => n - (intOf v11).toNat)
  case atStart => exact ⟨0, Nat.zero_le _, rfl, Below.refl _ _, Lib.hid (by simp)⟩
  case round =>
    obtain ⟨i, hi, rfl, hB, hP⟩ := hrel
    by_cases hin : i < n
    · obtain h0 | ⟨b, off, rfl, hcs⟩ := HF.out.2
      · omega
      have hiL : i < L.length := by rw [HF.out.1]; exact hin
      obtain ⟨c0, c1, c2, c3, c4⟩ := (hcs.old hB) i hiL
      have htk := List.take_succ_eq_append_getElem hiL
      obtain ⟨x, hx⟩ : ∃ x, L[i] = x := ⟨_, rfl⟩
      rw [hx] at c0 c1 c2 c3 c4 htk
      have hiI : (i : Int) < (n : Int) := by omega
      have hicI : (i : Int) ≤ (c : Int) := by omega
      have hc0 : ¬ c = 0 := by omega
      have hB1 := Old.alloc hB (.cells #[.int .u64 (x.c.version : Nat), .int .u64 (x.c.codec : Nat), .int .u64 (x.c.code : Nat), .string ⟨x.c.digest.toArray⟩, .int .u64 (x.off : Nat)] 33)
      have X1 := Blk.new wr 33 #[.int .u64 (x.c.version : Nat), .int .u64 (x.c.codec : Nat), .int .u64 (x.c.code : Nat), .string ⟨x.c.digest.toArray⟩, .int .u64 (x.off : Nat)]
      obtain ⟨W1, hW1⟩ : ∃ W1, wr.alloc (.cells #[.int .u64 (x.c.version : Nat), .int .u64 (x.c.codec : Nat), .int .u64 (x.c.code : Nat), .string ⟨x.c.digest.toArray⟩, .int .u64 (x.off : Nat)] 33) = W1 := ⟨_, rfl⟩
      rw [hW1] at hB1 X1
      obtain ⟨dx, hdx⟩ : ∃ dx, wr.heap.size = dx := ⟨_, rfl⟩
      rw [hdx] at X1
      have HX := Lib.hid (And.intro hB1 (And.intro X1 (And.intro hcs (And.intro htk hP.out))))
      clear hB hP hcs htk hx hB1 X1
      go_wp2_with fail
      clear hW1 c0 c1 c2 c3 c4
      go_loopw [20] (fun v20 wj => ∃ (j : Nat), j ≤ i ∧ v20 = .int .i64 j ∧ Below W1.heap.size W1 wj ∧ Hid (∀ y ∈ L.take j, y.c.digest ≠ x.c.digest)) (fun v20 _ => i - (intOf v20).toNat)
      case atStart => exact ⟨0, Nat.zero_le _, rfl, Below.refl _ _, Lib.hid (by simp)⟩
      case round =>
        obtain ⟨j, hj, rfl, hB2, hQ⟩ := hrel
        have hwj := Old.trans HX.out.1 hB2
        have X2 := HX.out.2.1.old hB2
        by_cases hji : j < i
        · have hjL : j < L.length := by omega
          obtain ⟨c0, c1, c2, c3, c4⟩ := (HX.out.2.2.1.old hwj) j hjL
          have htk := List.take_succ_eq_append_getElem hjL
          obtain ⟨y, hy⟩ : ∃ y, L[j] = y := ⟨_, rfl⟩
          rw [hy] at c0 c1 c2 c3 c4 htk
          have hjI : (j : Int) < (i : Int) := by omega
          obtain ⟨W2, hW2⟩ : ∃ W2, wr.alloc (.cells #[.int .u64 (y.c.version : Nat), .int .u64 (y.c.codec : Nat), .int .u64 (y.c.code : Nat), .string ⟨y.c.digest.toArray⟩, .int .u64 (y.off : Nat)] 33) = W2 := ⟨_, rfl⟩
          have b2 : Below wr.heap.size wr W2 := by rw [← hW2]; exact Old.alloc (Below.refl _ _) _
          have Y2 : Blk W2 wr.heap.size 33 #[.int .u64 (y.c.version : Nat), .int .u64 (y.c.codec : Nat), .int .u64 (y.c.code : Nat), .string ⟨y.c.digest.toArray⟩, .int .u64 (y.off : Nat)] := by rw [← hW2]; exact Blk.new _ _ _
          have q3 : W2.cell? ⟨wr.heap.size, 3, none⟩ = some (.string ⟨y.c.digest.toArray⟩) := Y2.cell 3
          have p3 : W2.cell? ⟨dx, 3, none⟩ = some (.string ⟨x.c.digest.toArray⟩) := (X2.old b2).cell 3
          have HY := Lib.hid (And.intro (Old.trans hB2 b2) (And.intro htk (And.intro hQ.out (Old.trans hwj b2))))
          clear hB2 hwj X2 htk hy b2 Y2 hQ
          by_cases he : x.c.digest = y.c.digest
          · rw [← he] at q3 hW2 c3
            clear he
            go_wp2_with fail
            refine bodyPost_ret (v := .bool false) (by simp [results, Tryz.results6, go_sem]) rfl ⟨⟨false, rfl, fun h => by cases h⟩, HY.out.2.2.2⟩
          · have HEq := Lib.hid he
            have hse : (x.c.digest == y.c.digest) = false := by simpa using he
            have hse3 : ((⟨x.c.digest.toArray⟩ : ByteArray).toList == y.c.digest) = false := by
              cases h : ((⟨x.c.digest.toArray⟩ : ByteArray).toList == y.c.digest)
              · rfl
              · exfalso
                simp at h
                exact he h
            clear he
            go_wp2_with fail
            all_goals go_roundw
            case rel =>
              refine ⟨j + 1, by omega, by go_num, HY.out.1, Lib.hid fun u hu => ?_⟩
              rw [HY.out.2.1] at hu
              rcases List.mem_append.1 hu with h1 | h1
              · exact HY.out.2.2.1 u h1
              · rw [List.mem_singleton.1 h1]; exact fun e => HEq.out e.symm
            case measure => simp [intOf]; omega
        · have hjj : j = i := by omega
          have HZ := Lib.hid (And.intro hwj hQ.out)
          subst hjj
          clear hB2 hwj X2 hQ
          go_wp2_with fail
          all_goals go_roundw
          case rel =>
            refine ⟨j + 1, by omega, by go_num, HZ.out.1, Lib.hid ?_⟩
            rw [HX.out.2.2.2.1, List.pairwise_append]
            refine ⟨HX.out.2.2.2.2, by simp, fun u hu v hv => ?_⟩
            rw [List.mem_singleton.1 hv]
            exact HZ.out.2 u hu
          case measure => simp [intOf]; omega
    · have hin' : i = n := by omega
      subst hin'
      have hA : Apart L := by
        have h1 := hP.out
        rw [List.take_of_length_le (by rw [HF.out.1]; exact Nat.le_refl _)] at h1
        exact apart_of h1
      have HA := Lib.hid (And.intro hA hB)
      clear hA hB hP
      go_wp2_with fail
      exact bodyPost_ret (v := .bool true) (by simp [results, Tryz.results6, go_sem]) rfl ⟨⟨true, rfl, fun _ => HA.out.1⟩, HA.out.2⟩
end Go.Proofs.YtcljffldbnoljaaGreatDoor
