/-
  impl.WrExtract with all-zero options, of a file of version 2 and of one of version 1. Conditions: as each contract says.
-/
import Derived.Test.YtlafdmmjbkdkaaaGreatDoorJMe
import Derived.Deep.RegionWith
import Derived.BigQuiet
namespace Go.Proofs.YtlafdmmjbkdkaaaGreatDoor
open Go.RowKit

theorem bsInM (l : List UInt8) (W : World) {v1 : World} (b : Below (Lib.bytesWorld W 5 ⟨l.toArray⟩).heap.size (Lib.bytesWorld W 5 ⟨l.toArray⟩) v1) : Bs v1 W.heap.size 0 l := (bw_bs W 5 ⟨l.toArray⟩).old b
theorem bInM (l : List UInt8) {W v1 v2 : World} (b : Below (Lib.bytesWorld W.drew 5 ⟨l.toArray⟩).heap.size (Lib.bytesWorld W.drew 5 ⟨l.toArray⟩) v1) (b2 : Below v1.heap.size v1 v2) : Below W.heap.size W v2 :=
  Old.trans (Old.trans (((Below.refl W.heap.size W).drew).trans (bw_below W.drew 5 ⟨l.toArray⟩)) b) b2
theorem eql_nil_err (a : Addr) (W : World) : (binOp .eql 49 .nilIface (.iface 110 (.pointer (some a)))).run Tryz.prog W = .ok (.bool false) W :=
  run_eql_iface_nil_left (P := Tryz.prog) W 110 (.pointer (some a)) Tryz.underlying49

/-- The world in which the two files' bytes are about to be laid: the options, what was there before, the file in memory. -/
structure WxSt (over : List UInt8) (w V : World) (d g0 f cap0 : Nat) : Prop where
  O : Blk V d 33 #[.bool false, .bool false, .bool false, .bool false, .bool false, .bool false, .int .u64 0, .int .u64 0, .int .u64 0, .int .u64 0, .int .u64 0, .int .u64 0]
  M : Mem V f g0 cap0 over 0
  b : Below w.heap.size w V
  n : w.heap.size ≤ d ∧ w.heap.size ≤ g0 ∧ w.heap.size ≤ f ∧ d < V.heap.size

/-- ExtractV1File where WrExtract calls it: a file of version 2. -/
theorem extX2 (over s rest l : List UInt8) (u : Nat) (z : Int) (aE aU aO aM aS aA : Addr) (w V v1 v2 : World) (d g0 f cap0 g8 b0 b1 b2 b3 b4 b5 b6 b7 : Nat)
    (hP : l = 10 :: (pt ++ rest) ∧ (l.drop 11).take 40 = hdBytes 0 0 (u : Nat) (s.length : Nat) z ∧ (0 ≤ z ∧ z < 9223372036854775808) ∧ 51 ≤ u ∧ u ≤ 1000 ∧ (l.drop u).take s.length = s ∧ 0 < s.length ∧ s.length ≤ 10000000 ∧ u + s.length ≤ l.length ∧ l.length ≤ 100000000 ∧ over.length ≤ 10000000 ∧ EX aE aU aO aM aS aA w)
    (hC : WxSt over w V d g0 f cap0) (R1 : Rdr v1 (Lib.bytesWorld V.drew 5 ⟨l.toArray⟩).heap.size V.heap.size 0 l.length (grownCap V.drew l.length 0 5) 0) (B1 : Below (Lib.bytesWorld V.drew 5 ⟨l.toArray⟩).heap.size (Lib.bytesWorld V.drew 5 ⟨l.toArray⟩) v1)
    (O2 : Opts v2 g8 b0 b1 b2 b3 b4 b5 b6 b7) (B2 : Below v1.heap.size v1 v2) :
    Calls Tryz.prog 14 #[.iface 51 (.pointer (some ⟨(Lib.bytesWorld V.drew 5 ⟨l.toArray⟩).heap.size, 0, none⟩)), .iface 44 (.pointer (some ⟨f, 0, none⟩)), .slice (some ⟨g8, 0, none⟩) 8 8] v2 (XtPost s f g0 (Lib.bytesWorld V.drew 5 ⟨l.toArray⟩).heap.size v2) := by
  obtain ⟨h1, h2, h3, h4, h5, h6, h7, h8, h9, h10, h11, h12⟩ := hP
  have hV := bInM l B1 B2
  have hz := bw_size V.drew 5 ⟨l.toArray⟩
  have hzd : V.drew.heap.size = V.heap.size := rfl
  have hbs := (bsInM l V.drew B1).old B2
  have hfl := hC.M.F.lt
  have hgl := hC.M.R.lt
  have hs := hV.size
  have hB1 := B1.size
  have hB2 := B2.size
  have hw := hC.b.size
  have hn := hC.n
  rw [hzd] at hz hbs
  obtain ⟨r, hr⟩ : ∃ r, (Lib.bytesWorld V.drew 5 ⟨l.toArray⟩).heap.size = r := ⟨_, rfl⟩
  rw [hr] at R1 hz hB1 ⊢
  exact extract2 r V.heap.size l.length _ f g0 cap0 g8 b0 b1 b2 b3 b4 b5 b6 b7 u z over s rest l aE aU aO aM aS aA v2 w h1 h2 h3 h4 h5 h6 h7 h8 (R1.old B2) hbs rfl h9 (grownCap_ge _ _ _ _) h10 (hC.M.old hV) h11
    (by omega) (by omega) (Old.trans hC.b hV) h12 (by omega) O2

set_option maxRecDepth 100000 in
set_option maxHeartbeats 8000000 in
theorem wrX2 (over s rest l : List UInt8) (u : Nat) (z : Int) (aE aU aO aM aS aA : Addr) (w : World) (hpl : l = 10 :: (pt ++ rest)) (h40 : (l.drop 11).take 40 = hdBytes 0 0 (u : Nat) (s.length : Nat) z) (hz : 0 ≤ z ∧ z < 9223372036854775808) (hu51 : 51 ≤ u) (hu9 : u ≤ 1000) (hs : (l.drop u).take s.length = s) (hs0 : 0 < s.length) (hs2 : s.length ≤ 10000000)
    (hu : u + s.length ≤ l.length) (hl : l.length ≤ 100000000) (hov : over.length ≤ 10000000) (hE : EX aE aU aO aM aS aA w) :
    Calls Tryz.prog 7 #[.string ⟨l.toArray⟩, .string ⟨over.toArray⟩, .agg #[.bool false, .bool false, .bool false, .bool false, .bool false, .bool false, .int .u64 0, .int .u64 0, .int .u64 0, .int .u64 0, .int .u64 0, .int .u64 0]] w fun e w' => e = .returned (.tuple #[.string ⟨s.toArray⟩, .int .u8 0]) ∧ Below w.heap.size w w' := by
  have HP := Lib.hid (And.intro hpl (And.intro h40 (And.intro hz (And.intro hu51 (And.intro hu9 (And.intro hs (And.intro hs0 (And.intro hs2 (And.intro hu (And.intro hl (And.intro hov hE)))))))))))
  clear hpl h40 hz hu51 hu9 hs hs0 hs2 hu hl hE
  obtain ⟨d, hd⟩ : ∃ d, w.heap.size = d := ⟨_, rfl⟩
  obtain ⟨W, hW⟩ : ∃ W, w.alloc (.cells #[.bool false, .bool false, .bool false, .bool false, .bool false, .bool false, .int .u64 0, .int .u64 0, .int .u64 0, .int .u64 0, .int .u64 0, .int .u64 0] 33) = W := ⟨_, rfl⟩
  have bW : Below w.heap.size w W := by rw [← hW]; exact Old.alloc (Below.refl _ _) _
  have DW : Blk W d 33 #[.bool false, .bool false, .bool false, .bool false, .bool false, .bool false, .int .u64 0, .int .u64 0, .int .u64 0, .int .u64 0, .int .u64 0, .int .u64 0] := by rw [← hW, ← hd]; exact Blk.new _ _ _
  have hcv := fun W (l : List UInt8) => Lib.run_convert_string_bytes (P := Tryz.prog) W 9 45 5 ⟨l.toArray⟩ Tryz.underlying9 Tryz.underlying45 Tryz.underlying5
  have hsz : ∀ l : List UInt8, (⟨l.toArray⟩ : ByteArray).size = l.length := fun l => by simp [ByteArray.size]
  simp only [hsz] at hcv
  obtain ⟨cap0, hcap⟩ : ∃ cap0, grownCap W over.length 0 5 = cap0 := ⟨_, rfl⟩
  have hc1 := hcv W over
  have hRow := rowB_bytes W 5 over (by omega)
  have hb1 := bw_below W 5 ⟨over.toArray⟩
  have hz1 := bw_size W 5 ⟨over.toArray⟩
  rw [hcap] at hc1 hRow
  obtain ⟨W1, hW1⟩ : ∃ W1, Lib.bytesWorld W 5 ⟨over.toArray⟩ = W1 := ⟨_, rfl⟩
  rw [hW1] at hc1 hRow hb1 hz1
  obtain ⟨g0, hg0⟩ : ∃ g0, W.heap.size = g0 := ⟨_, rfl⟩
  rw [hg0] at hc1 hRow hz1
  obtain ⟨f, hf⟩ : ∃ f, W1.heap.size = f := ⟨_, rfl⟩
  obtain ⟨V, hV⟩ : ∃ V, W1.alloc (.cells #[.slice (some ⟨g0, 0, none⟩) over.length cap0, .int .i64 0] 47) = V := ⟨_, rfl⟩
  have st : WxSt over w V d g0 f cap0 := by
    have b2 := Old.alloc (Below.refl W1.heap.size W1) (.cells #[.slice (some ⟨g0, 0, none⟩) over.length cap0, .int .i64 0] 47)
    have F := Blk.new W1 47 #[.slice (some ⟨g0, 0, none⟩) over.length cap0, .int .i64 0]
    rw [hV] at b2 F
    rw [hf] at F
    have h1 := bW.size
    have h2 := b2.size
    have h3 := DW.lt
    exact ⟨(DW.old hb1).old b2, ⟨F, hRow.old b2, by omega⟩, Old.trans bW (Old.trans hb1 b2), by omega⟩
  have D := st.O
  have q0 : V.cell? ⟨d, 0, none⟩ = some (.bool false) := D.cell 0
  have q1 : V.cell? ⟨d, 1, none⟩ = some (.bool false) := D.cell 1
  have q2 : V.cell? ⟨d, 2, none⟩ = some (.bool false) := D.cell 2
  have q3 : V.cell? ⟨d, 3, none⟩ = some (.bool false) := D.cell 3
  have q4 : V.cell? ⟨d, 4, none⟩ = some (.bool false) := D.cell 4
  have q5 : V.cell? ⟨d, 5, none⟩ = some (.bool false) := D.cell 5
  have q6 : V.cell? ⟨d, 6, none⟩ = some (.int .u64 0) := D.cell 6
  have q7 : V.cell? ⟨d, 7, none⟩ = some (.int .u64 0) := D.cell 7
  have q8 : V.cell? ⟨d, 8, none⟩ = some (.int .u64 0) := D.cell 8
  have q9 : V.cell? ⟨d, 9, none⟩ = some (.int .u64 0) := D.cell 9
  have q10 : V.cell? ⟨d, 10, none⟩ = some (.int .u64 0) := D.cell 10
  have q11 : V.cell? ⟨d, 11, none⟩ = some (.int .u64 0) := D.cell 11
  have hdl := D.lt
  have HC := Lib.hid st
  have HX := Lib.hid hcv
  clear st D hRow hb1 hz1 bW DW hcap hcv
  go_enter Tryz.func7, Tryz.ntmps7
  go_wp2_with fail
  have hcv := fun W => HX.out W l
  clear hW hc1 hW1 hg0 hf hV hd HX hsz hov
  have HQ := Lib.hid (show ∀ W', Below V.heap.size V W' → W'.cell? ⟨d, 0, none⟩ = some (.bool false) ∧ W'.cell? ⟨d, 1, none⟩ = some (.bool false) ∧ W'.cell? ⟨d, 2, none⟩ = some (.bool false) ∧ W'.cell? ⟨d, 3, none⟩ = some (.bool false) ∧ W'.cell? ⟨d, 4, none⟩ = some (.bool false) ∧ W'.cell? ⟨d, 5, none⟩ = some (.bool false) ∧ W'.cell? ⟨d, 6, none⟩ = some (.int .u64 0) ∧ W'.cell? ⟨d, 7, none⟩ = some (.int .u64 0) ∧ W'.cell? ⟨d, 8, none⟩ = some (.int .u64 0) ∧ W'.cell? ⟨d, 9, none⟩ = some (.int .u64 0) ∧ W'.cell? ⟨d, 10, none⟩ = some (.int .u64 0) ∧ W'.cell? ⟨d, 11, none⟩ = some (.int .u64 0) from fun W' b => ⟨(b.cell (p := ⟨d, 0, none⟩) hdl).trans q0, (b.cell (p := ⟨d, 1, none⟩) hdl).trans q1, (b.cell (p := ⟨d, 2, none⟩) hdl).trans q2, (b.cell (p := ⟨d, 3, none⟩) hdl).trans q3, (b.cell (p := ⟨d, 4, none⟩) hdl).trans q4, (b.cell (p := ⟨d, 5, none⟩) hdl).trans q5, (b.cell (p := ⟨d, 6, none⟩) hdl).trans q6, (b.cell (p := ⟨d, 7, none⟩) hdl).trans q7, (b.cell (p := ⟨d, 8, none⟩) hdl).trans q8, (b.cell (p := ⟨d, 9, none⟩) hdl).trans q9, (b.cell (p := ⟨d, 10, none⟩) hdl).trans q10, (b.cell (p := ⟨d, 11, none⟩) hdl).trans q11⟩)
  have hbw : Below V.heap.size V (Lib.bytesWorld V.drew 5 ⟨l.toArray⟩) := ((Below.refl V.heap.size V).drew).trans (bw_below V.drew 5 ⟨l.toArray⟩)
  obtain ⟨p0, p1, p2, p3, p4, p5, p6, p7, p8, p9, p10, p11⟩ := HQ.out _ hbw
  clear hbw
  go_region_with (first
      | (go_at_call 15; refine (newReader_any _ _ _ _ _).mono ?_; rintro _ v1 ⟨rfl, R1, B1⟩; obtain ⟨r0, r1, r2, r3, r4, r5, r6, r7, r8, r9, r10, r11⟩ := HQ.out v1 (bInM l B1 (Below.refl _ _)))
      | (go_at_call 16; refine (options_any _).mono ?_; rintro _ v2 ⟨g8, b0, b1, b2, b3, b4, b5, b6, b7, rfl, O2, B2⟩)
      | (go_at_call 14; refine (extX2 over s rest l u z aE aU aO aM aS aA w V v1 v2 d g0 f cap0 g8 b0 b1 b2 b3 b4 b5 b6 b7 HP.out HC.out R1 B1 O2 B2).mono ?_; rintro _ v3 ⟨rfl, ⟨g', cap', M3⟩, K3⟩))
  all_goals
    have hbV := bInM l B1 B2
    have hws := HC.out.b.size
    have hzr := bw_size V.drew 5 ⟨l.toArray⟩
    have hzd : V.drew.heap.size = V.heap.size := rfl
    have b3 : Below w.heap.size w v3 := below_kp (Old.trans HC.out.b hbV) K3 (Nat.le_trans hws hbV.size) (by have := HC.out.n; simp; omega)
    have eA := HP.out.2.2.2.2.2.2.2.2.2.2.2.eA.old b3
    have qA : v3.cell? ⟨0, 0, none⟩ = some (.iface 110 (.pointer (some aA))) := eA
    have qf : v3.cell? ⟨f, 0, none⟩ = some (.slice (some ⟨g', 0, none⟩) s.length cap') := M3.F.cell 0
    have hcvs : (convert 45 9 (.slice (some ⟨g', 0, none⟩) s.length cap')).run Tryz.prog v3 = .ok (.string ⟨s.toArray⟩) v3 := conv_str (P := Tryz.prog) Tryz.underlying45 Tryz.underlying5 Tryz.underlying9 M3.R.bs rfl
    have hne := fun W => eql_nil_err aA W
    have HB := Lib.hid b3
    clear b3 eA M3 K3 hbV hws hzr hzd O2 R1 B1 B2 hcv q0 p0 r0 q1 p1 r1 q2 p2 r2 q3 p3 r3 q4 p4 r4 q5 p5 r5 q6 p6 r6 q7 p7 r7 q8 p8 r8 q9 p9 r9 q10 p10 r10 q11 p11 r11
    go_wp2_with fail
    go_ret2
    exact ⟨rfl, HB.out⟩

/-- ExtractV1File where WrExtract calls it: a file of version 1. -/
theorem extX1 (over rest l : List UInt8) (L : List CidL) (aE aU aO aM aS aA : Addr) (w V v1 v2 : World) (d g0 f cap0 g8 b0 b1 b2 b3 b4 b5 b6 b7 : Nat)
    (hP : L.length ≤ 100 ∧ (∀ x ∈ L, x.tidy ∧ x.digest.length ≤ 200) ∧ l = hdrB (wrR L) ++ rest ∧ l.length ≤ 100000000 ∧ over.length ≤ 10000000 ∧ EX aE aU aO aM aS aA w)
    (hC : WxSt over w V d g0 f cap0) (R1 : Rdr v1 (Lib.bytesWorld V.drew 5 ⟨l.toArray⟩).heap.size V.heap.size 0 l.length (grownCap V.drew l.length 0 5) 0) (B1 : Below (Lib.bytesWorld V.drew 5 ⟨l.toArray⟩).heap.size (Lib.bytesWorld V.drew 5 ⟨l.toArray⟩) v1)
    (O2 : Opts v2 g8 b0 b1 b2 b3 b4 b5 b6 b7) (B2 : Below v1.heap.size v1 v2) :
    Calls Tryz.prog 14 #[.iface 51 (.pointer (some ⟨(Lib.bytesWorld V.drew 5 ⟨l.toArray⟩).heap.size, 0, none⟩)), .iface 44 (.pointer (some ⟨f, 0, none⟩)), .slice (some ⟨g8, 0, none⟩) 8 8] v2 fun e w' => e = .returned (.iface 110 (.pointer (some aA))) ∧ Kp [(Lib.bytesWorld V.drew 5 ⟨l.toArray⟩).heap.size] v2 w' := by
  obtain ⟨h1, h2, h3, h4, h5, h6⟩ := hP
  have hV := bInM l B1 B2
  have hz := bw_size V.drew 5 ⟨l.toArray⟩
  have hzd : V.drew.heap.size = V.heap.size := rfl
  have hbs := (bsInM l V.drew B1).old B2
  have hs := hV.size
  have hB1 := B1.size
  have hB2 := B2.size
  have hw := hC.b.size
  rw [hzd] at hz hbs
  obtain ⟨r, hr⟩ : ∃ r, (Lib.bytesWorld V.drew 5 ⟨l.toArray⟩).heap.size = r := ⟨_, rfl⟩
  rw [hr] at R1 hz hB1 ⊢
  exact extract1 L r V.heap.size l.length _ f g8 b0 b1 b2 b3 b4 b5 b6 b7 rest l aE aU aO aM aS aA v2 w h1 h2 h3 (R1.old B2) hbs rfl (grownCap_ge _ _ _ _) (by omega) (by omega) (by omega) (Old.trans hC.b hV) h6 (by omega) O2

set_option maxRecDepth 100000 in
set_option maxHeartbeats 8000000 in
theorem wrX1 (over rest l : List UInt8) (L : List CidL) (aE aU aO aM aS aA : Addr) (w : World) (hLn : L.length ≤ 100) (hL : ∀ x ∈ L, x.tidy ∧ x.digest.length ≤ 200) (hpl : l = hdrB (wrR L) ++ rest) (hl : l.length ≤ 100000000) (hov : over.length ≤ 10000000) (hE : EX aE aU aO aM aS aA w) :
    Calls Tryz.prog 7 #[.string ⟨l.toArray⟩, .string ⟨over.toArray⟩, .agg #[.bool false, .bool false, .bool false, .bool false, .bool false, .bool false, .int .u64 0, .int .u64 0, .int .u64 0, .int .u64 0, .int .u64 0, .int .u64 0]] w fun e w' => e = .returned (.tuple #[.string ⟨#[]⟩, .int .u8 1]) ∧ Below w.heap.size w w' := by
  have HP := Lib.hid (And.intro hLn (And.intro hL (And.intro hpl (And.intro hl (And.intro hov hE)))))
  clear hLn hL hpl hl hE
  obtain ⟨d, hd⟩ : ∃ d, w.heap.size = d := ⟨_, rfl⟩
  obtain ⟨W, hW⟩ : ∃ W, w.alloc (.cells #[.bool false, .bool false, .bool false, .bool false, .bool false, .bool false, .int .u64 0, .int .u64 0, .int .u64 0, .int .u64 0, .int .u64 0, .int .u64 0] 33) = W := ⟨_, rfl⟩
  have bW : Below w.heap.size w W := by rw [← hW]; exact Old.alloc (Below.refl _ _) _
  have DW : Blk W d 33 #[.bool false, .bool false, .bool false, .bool false, .bool false, .bool false, .int .u64 0, .int .u64 0, .int .u64 0, .int .u64 0, .int .u64 0, .int .u64 0] := by rw [← hW, ← hd]; exact Blk.new _ _ _
  have hcv := fun W (l : List UInt8) => Lib.run_convert_string_bytes (P := Tryz.prog) W 9 45 5 ⟨l.toArray⟩ Tryz.underlying9 Tryz.underlying45 Tryz.underlying5
  have hsz : ∀ l : List UInt8, (⟨l.toArray⟩ : ByteArray).size = l.length := fun l => by simp [ByteArray.size]
  simp only [hsz] at hcv
  obtain ⟨cap0, hcap⟩ : ∃ cap0, grownCap W over.length 0 5 = cap0 := ⟨_, rfl⟩
  have hc1 := hcv W over
  have hRow := rowB_bytes W 5 over (by omega)
  have hb1 := bw_below W 5 ⟨over.toArray⟩
  have hz1 := bw_size W 5 ⟨over.toArray⟩
  rw [hcap] at hc1 hRow
  obtain ⟨W1, hW1⟩ : ∃ W1, Lib.bytesWorld W 5 ⟨over.toArray⟩ = W1 := ⟨_, rfl⟩
  rw [hW1] at hc1 hRow hb1 hz1
  obtain ⟨g0, hg0⟩ : ∃ g0, W.heap.size = g0 := ⟨_, rfl⟩
  rw [hg0] at hc1 hRow hz1
  obtain ⟨f, hf⟩ : ∃ f, W1.heap.size = f := ⟨_, rfl⟩
  obtain ⟨V, hV⟩ : ∃ V, W1.alloc (.cells #[.slice (some ⟨g0, 0, none⟩) over.length cap0, .int .i64 0] 47) = V := ⟨_, rfl⟩
  have st : WxSt over w V d g0 f cap0 := by
    have b2 := Old.alloc (Below.refl W1.heap.size W1) (.cells #[.slice (some ⟨g0, 0, none⟩) over.length cap0, .int .i64 0] 47)
    have F := Blk.new W1 47 #[.slice (some ⟨g0, 0, none⟩) over.length cap0, .int .i64 0]
    rw [hV] at b2 F
    rw [hf] at F
    have h1 := bW.size
    have h2 := b2.size
    have h3 := DW.lt
    exact ⟨(DW.old hb1).old b2, ⟨F, hRow.old b2, by omega⟩, Old.trans bW (Old.trans hb1 b2), by omega⟩
  have D := st.O
  have q0 : V.cell? ⟨d, 0, none⟩ = some (.bool false) := D.cell 0
  have q1 : V.cell? ⟨d, 1, none⟩ = some (.bool false) := D.cell 1
  have q2 : V.cell? ⟨d, 2, none⟩ = some (.bool false) := D.cell 2
  have q3 : V.cell? ⟨d, 3, none⟩ = some (.bool false) := D.cell 3
  have q4 : V.cell? ⟨d, 4, none⟩ = some (.bool false) := D.cell 4
  have q5 : V.cell? ⟨d, 5, none⟩ = some (.bool false) := D.cell 5
  have q6 : V.cell? ⟨d, 6, none⟩ = some (.int .u64 0) := D.cell 6
  have q7 : V.cell? ⟨d, 7, none⟩ = some (.int .u64 0) := D.cell 7
  have q8 : V.cell? ⟨d, 8, none⟩ = some (.int .u64 0) := D.cell 8
  have q9 : V.cell? ⟨d, 9, none⟩ = some (.int .u64 0) := D.cell 9
  have q10 : V.cell? ⟨d, 10, none⟩ = some (.int .u64 0) := D.cell 10
  have q11 : V.cell? ⟨d, 11, none⟩ = some (.int .u64 0) := D.cell 11
  have hdl := D.lt
  have HC := Lib.hid st
  have HX := Lib.hid hcv
  clear st D hRow hb1 hz1 bW DW hcap hcv
  go_enter Tryz.func7, Tryz.ntmps7
  go_wp2_with fail
  have hcv := fun W => HX.out W l
  clear hW hc1 hW1 hg0 hf hV hd HX hsz hov
  have HQ := Lib.hid (show ∀ W', Below V.heap.size V W' → W'.cell? ⟨d, 0, none⟩ = some (.bool false) ∧ W'.cell? ⟨d, 1, none⟩ = some (.bool false) ∧ W'.cell? ⟨d, 2, none⟩ = some (.bool false) ∧ W'.cell? ⟨d, 3, none⟩ = some (.bool false) ∧ W'.cell? ⟨d, 4, none⟩ = some (.bool false) ∧ W'.cell? ⟨d, 5, none⟩ = some (.bool false) ∧ W'.cell? ⟨d, 6, none⟩ = some (.int .u64 0) ∧ W'.cell? ⟨d, 7, none⟩ = some (.int .u64 0) ∧ W'.cell? ⟨d, 8, none⟩ = some (.int .u64 0) ∧ W'.cell? ⟨d, 9, none⟩ = some (.int .u64 0) ∧ W'.cell? ⟨d, 10, none⟩ = some (.int .u64 0) ∧ W'.cell? ⟨d, 11, none⟩ = some (.int .u64 0) from fun W' b => ⟨(b.cell (p := ⟨d, 0, none⟩) hdl).trans q0, (b.cell (p := ⟨d, 1, none⟩) hdl).trans q1, (b.cell (p := ⟨d, 2, none⟩) hdl).trans q2, (b.cell (p := ⟨d, 3, none⟩) hdl).trans q3, (b.cell (p := ⟨d, 4, none⟩) hdl).trans q4, (b.cell (p := ⟨d, 5, none⟩) hdl).trans q5, (b.cell (p := ⟨d, 6, none⟩) hdl).trans q6, (b.cell (p := ⟨d, 7, none⟩) hdl).trans q7, (b.cell (p := ⟨d, 8, none⟩) hdl).trans q8, (b.cell (p := ⟨d, 9, none⟩) hdl).trans q9, (b.cell (p := ⟨d, 10, none⟩) hdl).trans q10, (b.cell (p := ⟨d, 11, none⟩) hdl).trans q11⟩)
  have hbw : Below V.heap.size V (Lib.bytesWorld V.drew 5 ⟨l.toArray⟩) := ((Below.refl V.heap.size V).drew).trans (bw_below V.drew 5 ⟨l.toArray⟩)
  obtain ⟨p0, p1, p2, p3, p4, p5, p6, p7, p8, p9, p10, p11⟩ := HQ.out _ hbw
  clear hbw
  go_region_with (first
      | (go_at_call 15; refine (newReader_any _ _ _ _ _).mono ?_; rintro _ v1 ⟨rfl, R1, B1⟩; obtain ⟨r0, r1, r2, r3, r4, r5, r6, r7, r8, r9, r10, r11⟩ := HQ.out v1 (bInM l B1 (Below.refl _ _)))
      | (go_at_call 16; refine (options_any _).mono ?_; rintro _ v2 ⟨g8, b0, b1, b2, b3, b4, b5, b6, b7, rfl, O2, B2⟩)
      | (go_at_call 14; refine (extX1 over rest l L aE aU aO aM aS aA w V v1 v2 d g0 f cap0 g8 b0 b1 b2 b3 b4 b5 b6 b7 HP.out HC.out R1 B1 O2 B2).mono ?_; rintro _ v3 ⟨rfl, K3⟩))
  all_goals
    have hbV := bInM l B1 B2
    have hws := HC.out.b.size
    have hzr := bw_size V.drew 5 ⟨l.toArray⟩
    have hzd : V.drew.heap.size = V.heap.size := rfl
    have b3 : Below w.heap.size w v3 := below_kp (Old.trans HC.out.b hbV) K3 (Nat.le_trans hws hbV.size) (by simp; omega)
    have eA := HP.out.2.2.2.2.2.eA.old b3
    have qA : v3.cell? ⟨0, 0, none⟩ = some (.iface 110 (.pointer (some aA))) := eA
    have hne := fun W => eql_same aA W
    have HB := Lib.hid b3
    clear b3 eA K3 hbV hws hzr hzd O2 R1 B1 B2 hcv q0 p0 r0 q1 p1 r1 q2 p2 r2 q3 p3 r3 q4 p4 r4 q5 p5 r5 q6 p6 r6 q7 p7 r7 q8 p8 r8 q9 p9 r9 q10 p10 r10 q11 p11 r11
    go_wp2_with fail
    go_ret2
    exact ⟨rfl, HB.out⟩
end Go.Proofs.YtlafdmmjbkdkaaaGreatDoor
