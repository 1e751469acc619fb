/-
  spec.Generated: what it leaves. Conditions: as the contract says.
-/
import Derived.Test.YtlafdmmjbkdkaaaGreatDoorPj
import Derived.Test.YtlafdmmjbkdkaaaGreatDoorJCfr
import Derived.Deep.RegionLaw
namespace Go.Proofs.YtlafdmmjbkdkaaaGreatDoor
open Go.RowKit Go.Sort

theorem ownV_lit (w : World) (v : Value) (d : Array (CidL × Nat)) (y : CidL × Nat) (hy : EntG y) (h : OwnV w v d) (hn : d.size + 1 ≤ 1000000000) :
    ∃ v' w', (Builtin.append_ #[61, 61] 61 #[v, .slice (some ⟨w.heap.size, 0, none⟩) 1 1]).run Tryz.prog (w.alloc (.cells (entC y).toArray 96)) = .ok v' w' ∧ OwnV w' v' (d.push y) ∧ AppT w w' v v' := by
  obtain ⟨v', w', hrun, hR, hT⟩ := rowV_lit w 61 96 entE _ 5 48 Tryz.underlying61 entI entZ (by kernel_rfl) (by kernel_rfl) (by kernel_rfl) (by decide) v d.size _ h.1 (entC y) rfl (entC_one y) hn (by decide)
  refine ⟨v', w', hrun, ⟨?_, fun i hi => ?_⟩, hT⟩
  · rw [flatK_push entC 5 entC_len (by decide) d y, Array.size_push]
    exact hR
  · rw [getElem!_pos (d.push y) i hi]
    rw [Array.size_push] at hi
    by_cases h1 : i < d.size
    · rw [Array.getElem_push_lt h1]
      have := h.2 i h1
      rwa [getElem!_pos d i h1] at this
    · have : i = d.size := by omega
      subst this
      simpa using hy

set_option maxRecDepth 100000 in
set_option maxHeartbeats 4000000 in
theorem generated_any (a : Option Addr) (n c : Nat) (L : List CidL) (a2 : Option Addr) (n2 c2 : Nat) (B : List BlkL) (w : World) (h : CarR a n L a2 n2 B w) (hok : CarOk L B) :
    Calls Tryz.prog 21 #[.agg #[.slice a n c, .slice a2 n2 c2], .bool false] w (ELPost w n2) := by
  have b0 := Old.alloc (Below.refl w.heap.size w) (.cells #[.slice a n c, .slice a2 n2 c2] 25)
  have B0 := Blk.new w 25 #[.slice a n c, .slice a2 n2 c2]
  obtain ⟨W, hW⟩ : ∃ W, w.alloc (.cells #[.slice a n c, .slice a2 n2 c2] 25) = W := ⟨_, rfl⟩
  rw [hW] at b0 B0
  have q0 : W.cell? ⟨w.heap.size, 0, none⟩ = some (.slice a n c) := B0.cell 0
  have q1 : W.cell? ⟨w.heap.size, 1, none⟩ = some (.slice a2 n2 c2) := B0.cell 1
  have hn2 : n2 ≤ 50 := by rw [← h.hB]; exact hok.n2
  have hpl := places_any a n c L a2 n2 c2 B W (h.old b0) hok
  have H := Lib.hid (And.intro hpl (And.intro h (And.intro hok (And.intro B0 b0))))
  clear hpl h hok B0 b0
  go_enter Tryz.func21, Tryz.ntmps21
  go_wp2_with fail
  clear hW
  refine H.out.1.mono ?_
  rintro e w1 ⟨⟨vp, l, rfl, hP, hl, hlx⟩, b1⟩
  have b01 := Old.trans H.out.2.2.2.2 b1
  replace hl := Lib.hid hl
  obtain ⟨bp, cp, rfl, hPc⟩ := ownN_form hP
  have r1 : w1.cell? ⟨w.heap.size, 1, none⟩ = some (.slice a2 n2 c2) := (H.out.2.2.2.1.old b1).cell 1
  have HP := Lib.hid (And.intro hPc (And.intro hlx b01))
  clear q0 q1 b1 hPc hlx hP b01
  go_wp2_with fail
  clear r1
  go_loopw [5, 14] (fun v5 i wr => ∃ (k : Nat) (d : Array (CidL × Nat)), k ≤ n2 ∧ i = .int .i64 k ∧ d.size ≤ k ∧ OwnV wr v5 d ∧ AppT w1 wr (.slice none 0 0) v5) (fun _ i _ => n2 - (intOf i).toNat)
  case atStart => exact ⟨0, #[], Nat.zero_le _, rfl, Nat.le_refl _, ⟨by simpa [flatK] using rowV_nil w1 5, fun i hi => by simp at hi⟩, AppT.refl _ _⟩
  case round =>
    obtain ⟨k, d, hk, rfl, hd, hO, hT⟩ := hrel
    by_cases hkn : k < n2
    · obtain h0 | ⟨b, off, rfl, hcs⟩ := H.out.2.1.hK
      · omega
      have hkL : k < B.length := by rw [H.out.2.1.hB]; exact hkn
      obtain ⟨c0, c1, c2', c3, c4⟩ := (hcs.old (Old.trans HP.out.2.2 hT.below)) k hkL
      have htd := H.out.2.2.1.B _ (List.getElem_mem hkL)
      obtain ⟨x, hx⟩ : ∃ x, B[k] = x := ⟨_, rfl⟩
      rw [hx] at c0 c1 c2' c3 c4 htd
      have hkl : k < l.length := by have := hl.out; omega
      obtain ⟨gp, rfl, hpc, hgp, hpk⟩ := HP.out.1 k hkl
      have hpx := HP.out.2.1 _ (List.getElem_mem hkl)
      obtain ⟨p, hp⟩ : ∃ p : Nat, l[k] = (p : Int) := ⟨l[k].toNat, by omega⟩
      rw [hp] at hpk hpx
      have hp2 : p ≤ 10000000 := by omega
      have hkI : (k : Int) < (n2 : Int) := by omega
      have hkJ : (k : Int) < (l.length : Int) := by omega
      have hpk' : wr.cell? ⟨gp, k, none⟩ = some (.int .i64 p) := (hT.below.cell (p := ⟨gp, k, none⟩) hgp).trans hpk
      have b1 := Old.alloc (Below.refl wr.heap.size wr) (.cells #[.int .u64 (x.c.version : Nat), .int .u64 (x.c.codec : Nat), .int .u64 (x.c.code : Nat), .string ⟨x.c.digest.toArray⟩, .string ⟨x.data.toArray⟩] 41)
      have N1 := Blk.new wr 41 #[.int .u64 (x.c.version : Nat), .int .u64 (x.c.codec : Nat), .int .u64 (x.c.code : Nat), .string ⟨x.c.digest.toArray⟩, .string ⟨x.data.toArray⟩]
      have hgl := Nat.lt_of_lt_of_le hgp hT.below.size
      obtain ⟨W1, hW1⟩ : ∃ W1, wr.alloc (.cells #[.int .u64 (x.c.version : Nat), .int .u64 (x.c.codec : Nat), .int .u64 (x.c.code : Nat), .string ⟨x.c.digest.toArray⟩, .string ⟨x.data.toArray⟩] 41) = W1 := ⟨_, rfl⟩
      obtain ⟨dd, hdd⟩ : ∃ dd, wr.heap.size = dd := ⟨_, rfl⟩
      rw [hW1] at b1 N1
      rw [hdd] at N1 hgl
      have e0 : W1.cell? ⟨dd, 0, none⟩ = some (.int .u64 (x.c.version : Nat)) := N1.cell 0
      have e1 : W1.cell? ⟨dd, 1, none⟩ = some (.int .u64 (x.c.codec : Nat)) := N1.cell 1
      have e2 : W1.cell? ⟨dd, 2, none⟩ = some (.int .u64 (x.c.code : Nat)) := N1.cell 2
      have e3 : W1.cell? ⟨dd, 3, none⟩ = some (.string ⟨x.c.digest.toArray⟩) := N1.cell 3
      have e4 : W1.cell? ⟨dd, 4, none⟩ = some (.string ⟨x.data.toArray⟩) := N1.cell 4
      have e5 : W1.cell? ⟨gp, k, none⟩ = some (.int .i64 p) := (b1.cell (p := ⟨gp, k, none⟩) (by show gp < wr.heap.size; omega)).trans hpk'
      have hwp : IntKind.u64.wrap (p : Int) = (p : Int) := by rw [IntKind.wrap_u64]; omega
      have hG : EntG (x.c, p) := ⟨htd.2.1, by rcases htd.1 with h | h <;> (show x.c.code < 9223372036854775808; omega), hp2⟩
      have HX := Lib.hid (And.intro (hO.old b1) (And.intro (hT.old b1) hG))
      clear hcs htd hx b1 hO hT hG hpk hpx hp hpk' N1
      by_cases hz : ((x.c.code : Nat) : Int) = 0
      · have hz' : x.c.code = 0 := by omega
        clear e0 e1 e3 e4 e5
        go_wp2_with fail
        refine ⟨⟨k + 1, d, hkn, by go_num, by omega, ?_, ?_⟩, by simp [intOf]; omega⟩
        · rw [hz'] at hW1; rw [show wr.alloc (.cells #[.int .u64 (x.c.version : Nat), .int .u64 (x.c.codec : Nat), .int .u64 0, .string ⟨x.c.digest.toArray⟩, .string ⟨x.data.toArray⟩] 41) = W1 from hW1]; exact HX.out.1
        · rw [hz'] at hW1; rw [show wr.alloc (.cells #[.int .u64 (x.c.version : Nat), .int .u64 (x.c.codec : Nat), .int .u64 0, .string ⟨x.c.digest.toArray⟩, .string ⟨x.data.toArray⟩] 41) = W1 from hW1]; exact HX.out.2.1
      · go_wp2_with fail
        clear hW1 c0 c1 c2' c3 c4
        obtain ⟨v', w', hap, hO', hT'⟩ := ownV_lit W1.drew u5 d (x.c, p) HX.out.2.2 (HX.out.1.old (Below.refl W1.heap.size W1).drew) (by omega)
        replace hO' := Lib.hid (And.intro hO' (AppT.trans (HX.out.2.1.old (Below.refl W1.heap.size W1).drew) hT'))
        have hap' : (Builtin.append_ #[61, 61] 61 #[u5, .slice (some ⟨W1.heap.size, 0, none⟩) 1 1]).run Tryz.prog (W1.drew.alloc (.cells #[.int .u64 (x.c.version : Nat), .int .u64 (x.c.codec : Nat), .int .u64 (x.c.code : Nat), .string ⟨x.c.digest.toArray⟩, .int .u64 (p : Nat)] 96)) = .ok v' w' := hap
        have HAP := Lib.hid hap'
        clear hap hap' hT'
        go_region_law (refine step_append_run rfl (.tmp 26) (.tmp 35) 61 61 rfl u5 (.slice (some ⟨W1.heap.size, 0, none⟩) 1 1) (by simp [Act.eval]) (by simp [Act.eval]) _ _ HAP.out ?_)
        all_goals go_wp2_with fail
        all_goals try go_roundw
        all_goals first | (simp [intOf]; omega) | exact ⟨k + 1, d.push (x.c, p), hkn, by go_num, by simp; omega, hO'.out.1, hO'.out.2⟩
    · have hkn' : k = n2 := by omega
      subst hkn'
      replace hO := Lib.hid (And.intro hO hT)
      clear hT
      go_wp2_with fail
      refine bodyPost_ret (v := u5) (by simp [results, Tryz.results21, go_sem]) rfl ⟨⟨u5, d.size, rfl, ownV_ents hO.out.1, hd, fun j hj => by have h1 := (hO.out.2.2 j hj).resolve_left (by simp [Value.ownBlock]); have h2 := HP.out.2.2.size; omega⟩, Old.trans HP.out.2.2 hO.out.2.below⟩
end Go.Proofs.YtlafdmmjbkdkaaaGreatDoor
