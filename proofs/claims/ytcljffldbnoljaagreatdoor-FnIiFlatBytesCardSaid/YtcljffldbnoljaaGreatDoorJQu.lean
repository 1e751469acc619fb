/-
  spec.IndexBody, spec.IndexBytes: the very bytes. Conditions: as each contract says.
  What the program's indexes write is what the specification writes, where no two entries are of one digest. Conditions: as each law says.
  cmp.Less at uint32; a row of uint32: what reading two of its places wants, what swapping them leaves. Conditions: as each law says.
-/
import Derived.Test.YtcljffldbnoljaaGreatDoorJQt
import Derived.Test.YtcljffldbnoljaaGreatDoorJJh
import Derived.Test.YtcljffldbnoljaaGreatDoorQd
import Derived.BigRegion
import Derived.BigQuiet
import Derived.Deep.QuietTactic
import Derived.Deep.RegionWith
namespace Go.Proofs.YtcljffldbnoljaaGreatDoor
open Go.RowKit Go.Sort

/-- T is what an index sorted by digests writes of L. -/
def SortedIs (L : List EntL) (T : List UInt8) : Prop := ∃ S ws, S.Perm L ∧ S.Pairwise (fun a b => entLt b a = false) ∧ KeysS (fun x => (x.c.digest.length : Int)) L ws ∧ T = sortedY S ws
/-- What is written of the codes, one behind the other. -/
inductive CodesT (L : List EntL) : List Int → List UInt8 → Prop
  | nil : CodesT L [] []
  | snoc {cs : List Int} {r : List UInt8} {c : Int} {T : List UInt8} (h : CodesT L cs r) (hT : SortedIs (L.filter (codeIs c)) T) : CodesT L (cs ++ [c]) (r ++ (Lib.leBytes 8 c.toNat ++ T))
/-- T is what an index sorted by hash functions and digests writes of L. -/
def CodedIs (L : List EntL) (T : List UInt8) : Prop := ∃ cs t, KeysS (fun x => (x.c.code : Int)) L cs ∧ CodesT L cs t ∧ T = Lib.leBytes 4 cs.length ++ t
/-- What it answers: a text of which Q holds. -/
def XtPost (w : World) (N : Nat) (Q : List UInt8 → Prop) (e : Ending) (w' : World) : Prop := ∃ S : List UInt8, e = .returned (.string ⟨S.toArray⟩) ∧ S.length ≤ N ∧ Q S ∧ Below w.heap.size w w'

theorem ownL_text {w : World} {v : Value} {l : List UInt8} (h : OwnL w v l) (hn : l ≠ []) : ∃ g c, v = .slice (some ⟨g, 0, none⟩) l.length c ∧ Bs w g 0 l := by
  obtain ⟨h0, ⟨rfl, h1⟩ | ⟨g, cap, rfl, _, _, _, hc, _⟩⟩ := h
  · exact absurd (List.eq_nil_of_length_eq_zero h1) hn
  · exact ⟨g, cap, rfl, fun j hj => by
      rw [Nat.zero_add]
      exact hc j _ (by simp [Lib.byteCells, hj])⟩
theorem sortedY_len {S L : List EntL} {ws : List Int} (hp : S.Perm L) (hw : KeysS (fun x => (x.c.digest.length : Int)) L ws ∧ ws.length ≤ L.length) (hG : ∀ x ∈ L, EnG x) (hn : L.length ≤ 60) : (sortedY S ws).length ≤ 755000 := by
  have hS : ∀ x ∈ S, x.c.digest.length ≤ 200 := fun x hx => (hG x (hp.mem_iff.1 hx)).1
  have h1 : ∀ n, (widthY S n).length ≤ 12492 := fun n => by
    have h2 := rowsY_len (n := n) hS
    have h3 : S.length ≤ 60 := by rw [hp.length_eq]; exact hn
    have h4 := Nat.mul_le_mul_right 208 h3
    simp only [widthY, List.length_append, Lib.leBytes_length]
    omega
  have h2 : ∀ l : List Int, (l.flatMap (widthY S)).length ≤ l.length * 12492 := by
    intro l
    induction l with
    | nil => simp
    | cons x l ih =>
      have := h1 x
      rw [List.flatMap_cons, List.length_append, List.length_cons, Nat.succ_mul]
      omega
  have h3 := h2 ws
  have h4 : ws.length ≤ 60 := Nat.le_trans hw.2 hn
  have h5 := Nat.mul_le_mul_right 12492 h4
  simp only [sortedY, List.length_append, Lib.leBytes_length]
  omega

set_option maxRecDepth 100000 in
set_option maxHeartbeats 8000000 in
theorem body0_eq (vl : Value) (L : List EntL) (w : World) (h : EnS w vl L) (hG : ∀ x ∈ L, EnG x) (hn : L.length ≤ 60) :
    Calls Tryz.prog 17 #[vl, .int .u64 1024] w (XtPost w 40000000 (SortedIs L)) := by
  have hs := sorted_eq (.slice none 0 0) [] vl L w (ownL_nil w) (by simp) h hG hn (by simp [Value.ownBlock])
  have H := Lib.hid hs
  clear hs
  go_enter Tryz.func17, Tryz.ntmps17
  go_wp2_with fail
  refine H.out.mono ?_
  rintro e w1 ⟨v1, S, ws, rfl, hO, hS, hws, hT⟩
  rw [List.nil_append] at hO
  obtain ⟨l, hl⟩ : ∃ l, sortedY S ws = l := ⟨_, rfl⟩
  rw [hl] at hO
  have hlb := sortedY_len hS.1 hws hG hn
  rw [hl] at hlb
  obtain ⟨g, c, rfl, hbs⟩ := ownL_text hO (by intro e; rw [e] at hl; have := congrArg List.length hl; simp [sortedY, Lib.leBytes_length] at this)
  have hcv := conv_str (P := Tryz.prog) Tryz.underlying47 Tryz.underlying5 Tryz.underlying9 (c := c) hbs rfl
  have HT := Lib.hid (And.intro hT.below (And.intro (show SortedIs L l from ⟨S, ws, hS.1, hS.2, hws.1, hl.symm⟩) hlb))
  clear hO hT hbs hl hS hws hlb hG h hn
  go_wp2_with fail
  refine bodyPost_ret (v := .string ⟨l.toArray⟩) (by simp [results, Tryz.results17, go_sem]) rfl ⟨l, rfl, Nat.le_trans HT.out.2.2 (by decide), HT.out.2.1, HT.out.1⟩

set_option maxRecDepth 100000 in
set_option maxHeartbeats 8000000 in
theorem body1_eq (vl : Value) (L : List EntL) (w : World) (h : EnS w vl L) (hG : ∀ x ∈ L, EnG x) (hn : L.length ≤ 60) :
    Calls Tryz.prog 17 #[vl, .int .u64 1025] w (XtPost w 46000000 (CodedIs L)) := by
  have H := Lib.hid h
  have HG := Lib.hid hG
  clear h hG
  go_enter Tryz.func17, Tryz.ntmps17
  go_wp2_with fail
  refine (codes_eq vl L w H.out HG.out (by omega)).mono ?_
  rintro e w1 ⟨⟨vc, lc, rfl, hC, hks, hlc, _⟩, b1⟩
  have HK := Lib.hid hks
  clear hks
  obtain ⟨bc, cc, rfl, _⟩ := ownN_form hC
  have hsz1 := b1.size
  have hc50 : (lc.length : Int) ≤ 60 := by omega
  have hwl : IntKind.u64.wrap (lc.length : Int) = (lc.length : Int) := by rw [IntKind.wrap_u64]; omega
  have hlow := low_eq (.slice none 0 0) [] (lc.length : Int) 4 w1 (ownL_nil w1) (by omega) (by simp) (by omega)
  rw [Int.toNat_natCast, List.nil_append] at hlow
  have H1 := Lib.hid (And.intro hlow (And.intro hC b1))
  clear hlow hC b1
  go_wp2_with fail
  refine H1.out.1.mono ?_
  rintro e w2 ⟨v1, rfl, hB2, hT2⟩
  have b12 := hT2.below
  have hv1 : ∀ i ∈ v1.ownBlock.toList, w1.heap.size ≤ i := fun i hi => (hT2.2 i hi).resolve_left (by simp [Value.ownBlock])
  have hvc : ∀ i ∈ (Value.slice bc lc.length cc).ownBlock.toList, i ∉ v1.ownBlock.toList := fun i hi h => by
    have := hv1 i h
    have := RowV.lt H1.out.2.1 i hi
    omega
  have hvl : ∀ i ∈ vl.ownBlock.toList, i < w1.heap.size := fun i hi => Nat.lt_of_lt_of_le (H.out.lt i hi) H1.out.2.2.size
  have H2 := Lib.hid (And.intro (RowV.old H1.out.2.1 b12) (And.intro (H.out.old (Old.trans H1.out.2.2 b12)) (And.intro (Old.trans H1.out.2.2 b12) (And.intro hB2 (And.intro hv1 (And.intro hvc (And.intro hvl b12.size)))))))
  clear hB2 hT2 b12 hv1 hvc hvl H1
  go_wp2_with fail
  go_loopw [6, 22] (fun v6 v22 wr => ∃ (i : Nat) (r t : List UInt8), i ≤ lc.length ∧ v22 = .int .i64 i ∧ OwnL wr v6 r ∧ r.length ≤ 4 + i * 760000 ∧ AppT w2 wr v1 v6 ∧ Hid (r = Lib.leBytes 4 lc.length ++ t ∧ CodesT L (lc.take i) t)) (fun _ v22 _ => lc.length - (intOf v22).toNat)
  case atStart => exact ⟨0, _, [], Nat.zero_le _, rfl, H2.out.2.2.2.1, by rw [Lib.leBytes_length]; omega, AppT.refl _ _, Lib.hid ⟨by simp, by rw [List.take_zero]; exact .nil⟩⟩
  case round =>
    obtain ⟨i, r, t, hi, rfl, hO, hr, hT, hQ⟩ := hrel
    by_cases hik : i < lc.length
    · have hdd : decide ((i : Int) < (lc.length : Int)) = true := by rw [decide_eq_true_eq]; omega
      have hCr : OwnN .u64 wr (.slice bc lc.length cc) lc := RowV.kp H2.out.1 hT.1 H2.out.2.2.2.2.2.1
      have hvl6 : ∀ i ∈ vl.ownBlock.toList, i ∉ u6.ownBlock.toList := fun k hk h => by
        have h1 := H2.out.2.2.2.2.2.2.1 k hk
        have h3 := H2.out.2.2.2.2.2.2.2
        rcases hT.2 k h with h2 | h2
        · have := H2.out.2.2.2.2.1 k h2; omega
        · omega
      have hEr : EnS wr vl L := H2.out.2.1.kp hT.1 (fun k hk h => by have := H2.out.2.2.2.2.2.2.1 k hk; have := H2.out.2.2.2.2.1 k h; omega)
      obtain ⟨g, rfl, hnc, hgw, hcell⟩ := ownN_at hCr i hik
      obtain ⟨X, hX⟩ : ∃ X, lc[i] = X := ⟨_, rfl⟩
      rw [hX] at hcell
      have hXk := (HK.out.2 X).1 (by rw [← hX]; exact List.getElem_mem hik)
      have hX0 : 0 ≤ X := by
        obtain ⟨y, hy, e⟩ := hXk
        have h2 : (y.c.code : Int) = X := e
        omega
      have hfne : Hid (L.filter (codeIs X) ≠ []) := Lib.hid (by
        obtain ⟨y, hy, e⟩ := hXk
        have h2 : (y.c.code : Int) = X := e
        exact List.ne_nil_of_mem (List.mem_filter.2 ⟨hy, by simp [codeIs, h2]⟩))
      have hfl : Hid ((L.filter (codeIs X)).length ≤ 60) := Lib.hid (Nat.le_trans (List.length_filter_le _ _) hn)
      have hts : Hid (lc.take (i + 1) = lc.take i ++ [X]) := Lib.hid (by rw [List.take_succ_eq_append_getElem hik, hX])
      clear hXk
      have hiI : (i : Int) < (lc.length : Int) := by omega
      have hr2 : r.length ≤ 46000000 := by have := Nat.mul_le_mul_right 760000 hi; omega
      have hl8 := low_eq u6 r X 8 wr hO hX0 (by omega) (by omega)
      have HR := Lib.hid (And.intro hl8 (And.intro hT (And.intro hEr (And.intro hvl6 (And.intro hr hQ.out)))))
      clear hCr hO hT hEr hX hvl6 hl8 hr hQ
      go_wp2_with fail
      clear hcell
      refine HR.out.1.mono ?_
      rintro e w4 ⟨v4, rfl, hO4, hT4⟩
      have hE4 : EnS w4 vl L := HR.out.2.2.1.kp hT4.1 HR.out.2.2.2.1
      have H4 := Lib.hid (And.intro (coded_eq vl L X w4 hE4 (by omega)) (And.intro hO4 (HR.out.2.1.trans hT4)))
      clear hE4 hO4 hT4
      go_wp2_with fail
      refine H4.out.1.mono ?_
      rintro e w5 ⟨⟨vd, dA, rfl, hE5, hm, hgd⟩, b5⟩
      have hE6 : EnS w5 vd (L.filter (codeIs X)) := by rw [← hm]; exact ownV_enS hE5 (by rw [hm]; exact hfne.out)
      have hsd := sorted_eq v4 _ vd _ w5 (H4.out.2.1.old b5) (by rw [List.length_append, Lib.leBytes_length]; omega) hE6 (fun x hx => HG.out x (List.mem_filter.1 hx).1) hfl.out (fun k hk h => by have := hgd k hk; have := H4.out.2.1.lt k h; omega)
      have H5 := Lib.hid (And.intro hsd (H4.out.2.2.old b5))
      clear hsd hE5 hgd b5 hE6 hm
      go_wp2_with fail
      refine H5.out.1.mono ?_
      rintro e w6 ⟨v6, S6, ws6, rfl, hO6, hS6, hws6, hT6⟩
      have hlb := sortedY_len hS6.1 hws6 (fun x hx => HG.out x (List.mem_filter.1 hx).1) hfl.out
      have HQ6 : Hid (SortedIs (L.filter (codeIs X)) (sortedY S6 ws6) ∧ (sortedY S6 ws6).length ≤ 755000) := Lib.hid ⟨⟨S6, ws6, hS6.1, hS6.2, hws6.1, rfl⟩, hlb⟩
      have H6 := Lib.hid (And.intro hO6 (H5.out.2.trans hT6))
      clear hO6 hT6 hS6 hws6 hlb
      go_wp2_with fail
      go_roundw
      case rel =>
        refine ⟨i + 1, _, t ++ (Lib.leBytes 8 X.toNat ++ sortedY S6 ws6), by omega, by go_num, H6.out.1, ?_, H6.out.2, Lib.hid ⟨?_, ?_⟩⟩
        · simp only [List.length_append, Lib.leBytes_length]
          have h1 := HR.out.2.2.2.2.1
          have h2 := HQ6.out.2
          omega
        · rw [HR.out.2.2.2.2.2.1]; simp
        · rw [hts.out]; exact .snoc HR.out.2.2.2.2.2.2 HQ6.out.1
      case measure => simp [intOf]; omega
    · have hdd : decide ((i : Int) < (lc.length : Int)) = false := by rw [decide_eq_false_iff_not]; omega
      have hii : i = lc.length := by omega
      obtain ⟨g, c, rfl, hbs⟩ := ownL_text hO (by intro e; have h1 := congrArg List.length hQ.out.1; rw [e, List.length_append, Lib.leBytes_length, List.length_nil] at h1; omega)
      have hcv := conv_str (P := Tryz.prog) Tryz.underlying47 Tryz.underlying5 Tryz.underlying9 (c := c) hbs rfl
      have hb : Below w.heap.size w wr := ((Kp.of_below H2.out.2.2.1 []).step hT.1 (fun k hk => .inr (Nat.le_trans hsz1 (H2.out.2.2.2.2.1 k hk)))).below
      have hcd : CodedIs L r := by
        refine ⟨lc, t, HK.out, ?_, hQ.out.1⟩
        have := hQ.out.2
        rw [hii, List.take_length] at this
        exact this
      have hlr : r.length ≤ 46000000 := by have := Nat.mul_le_mul_right 760000 hi; omega
      have HR := Lib.hid (And.intro hcd hlr)
      clear hcd hii hlr hQ hr
      have HT := Lib.hid hb
      clear hO hT hbs hb
      go_wp2_with fail
      refine bodyPost_ret (v := .string ⟨r.toArray⟩) (by simp [results, Tryz.results17, go_sem]) rfl ⟨r, rfl, HR.out.2, HR.out.1, HT.out⟩

/-- S is what an index of a kind is written as. -/
def IndexIs (kind : Nat) (L : List EntL) (S : List UInt8) : Prop := ∃ T, S = Lib.uvarint kind ++ T ∧ ((kind = 1024 ∧ SortedIs L T) ∨ (kind = 1025 ∧ CodedIs L T))

set_option maxRecDepth 100000 in
set_option maxHeartbeats 4000000 in
theorem indexBytes_eq (vl : Value) (L : List EntL) (kind : Nat) (w : World) (h : EnS w vl L) (hG : ∀ x ∈ L, EnG x) (hn : L.length ≤ 60) (hk : kind = 1024 ∨ kind = 1025) :
    Calls Tryz.prog 9 #[vl, .int .u64 kind] w (XtPost w 50000000 (IndexIs kind L)) := by
  have hA := fun W => specVarint_cv (kind : Int) W (by omega) (by omega)
  rw [Int.toNat_natCast] at hA
  have hl1 := Lib.uvarint_length64 (x := kind) (by omega)
  obtain ⟨U, hU⟩ : ∃ U, Lib.uvarint kind = U := ⟨_, rfl⟩
  have HQ : Hid (∀ T, ((kind = 1024 ∧ SortedIs L T) ∨ (kind = 1025 ∧ CodedIs L T)) → IndexIs kind L (U ++ T)) := Lib.hid fun T hT => ⟨T, by rw [hU], hT⟩
  rw [hU] at hA hl1
  have hBd : ∀ W, Below w.heap.size w W → Calls Tryz.prog 17 #[vl, .int .u64 kind] W (XtPost W 46000000 (fun T => (kind = 1024 ∧ SortedIs L T) ∨ (kind = 1025 ∧ CodedIs L T))) := fun W b => by
    rcases hk with rfl | rfl
    · refine (body0_eq vl L W (h.old b) hG hn).mono ?_
      rintro e w' ⟨S, h1, h2, h3, h4⟩
      exact ⟨S, h1, Nat.le_trans h2 (by decide), .inl ⟨rfl, h3⟩, h4⟩
    · refine (body1_eq vl L W (h.old b) hG hn).mono ?_
      rintro e w' ⟨S, h1, h2, h3, h4⟩
      exact ⟨S, h1, h2, .inr ⟨rfl, h3⟩, h4⟩
  have happ := sp_app
  obtain ⟨QI, hQI⟩ : ∃ QI, IndexIs kind L = QI := ⟨_, rfl⟩
  obtain ⟨QB, hQB⟩ : ∃ QB : List UInt8 → Prop, (fun T => (kind = 1024 ∧ SortedIs L T) ∨ (kind = 1025 ∧ CodedIs L T)) = QB := ⟨_, rfl⟩
  have HQ2 : Hid (∀ T, QB T → QI (U ++ T)) := Lib.hid (by rw [← hQI, ← hQB]; exact HQ.out)
  rw [hQB] at hBd
  rw [hQI]
  obtain ⟨X, hX⟩ : ∃ X : Int, (kind : Int) = X := ⟨_, rfl⟩
  rw [hX] at hA hBd ⊢
  have H := Lib.hid (And.intro hA hBd)
  clear hA hBd hU h hk hX HQ hQI hQB hG
  go_enter Tryz.func9, Tryz.ntmps9
  go_wp2_with fail
  go_region_held (fun _ => True) (first | trivial | go_keep) (first | (go_at_call 16; refine (H.out.1 _).mono ?_; rintro _ wA ⟨vA, rfl, hbA, HA⟩; have iA := HA.out wA (Below.refl _ _)) | (go_at_call 17; refine (H.out.2 _ ?_).mono ?_; exact (((Below.refl w.heap.size w).drew).trans hbA); rintro _ wB ⟨SB, rfl, hSB, hqB, hbB⟩; replace hqB := Lib.hid hqB; have iA2 := HA.out wB hbB))
  all_goals go_wp2_with fail
  all_goals refine bodyPost_ret (v := .string ⟨(U ++ SB).toArray⟩) (by simp [results, Tryz.results9, go_sem]) rfl ⟨U ++ SB, rfl, by simp; omega, HQ2.out SB hqB.out, Old.trans (((Below.refl w.heap.size w).drew).trans hbA) hbB⟩
end Go.Proofs.YtcljffldbnoljaaGreatDoor

namespace Go.Proofs.YtcljffldbnoljaaGreatDoor
open Go.RowKit Go.Sort

/-- No two entries are of one digest. -/
def Apart (L : List EntL) : Prop := ∀ x ∈ L, ∀ y ∈ L, x.c.digest = y.c.digest → x = y
theorem Apart.perm {L L' : List EntL} (h : Apart L) (hp : L'.Perm L) : Apart L' := fun x hx y hy => h x (hp.mem_iff.1 hx) y (hp.mem_iff.1 hy)
theorem Apart.filter {L : List EntL} (h : Apart L) (p : EntL → Bool) : Apart (L.filter p) := fun x hx y hy => h x (List.mem_filter.1 hx).1 y (List.mem_filter.1 hy).1
/-- What rows say, as bytes. -/
def rowsP (S : List (List UInt8 × Nat)) : List UInt8 := S.flatMap (fun p => rowY p.1 p.2)
/-- What an index writes at one width. -/
def widthP (f : Int → List (List UInt8 × Nat)) (n : Int) : List UInt8 := Lib.leBytes 4 n.toNat ++ Lib.leBytes 8 (rowsP (f n)).length ++ rowsP (f n)
abbrev widK : EntL → Int := fun x => (x.c.digest.length : Int) + 8
abbrev codK : EntL → Int := fun x => (x.c.code : Int)
/-- T is what an index of the program's, sorted by digests, writes of L. -/
def MwT (L : List EntL) (T : List UInt8) : Prop := ∃ (ks : List Int) (f : Int → List (List UInt8 × Nat)), KeysS widK L ks ∧ (∀ k ∈ ks, (f k).Perm ((ofKey widK L k).map sayD) ∧ (f k).Pairwise (fun a b => ltB b.1 a.1 = false)) ∧ T = Lib.leBytes 4 ks.length ++ ks.flatMap (widthP f)
/-- What the program writes of the codes. -/
inductive McT (L : List EntL) : List Int → List UInt8 → Prop
  | nil : McT L [] []
  | snoc {cs : List Int} {r : List UInt8} {c : Int} {T : List UInt8} (h : McT L cs r) (hT : MwT (ofKey codK L c) T) : McT L (cs ++ [c]) (r ++ (Lib.leBytes 8 c.toNat ++ T))
/-- T is what an index of the program's, sorted by hash functions, writes of L. -/
def MhT (L : List EntL) (T : List UInt8) : Prop := ∃ cs t, KeysS codK L cs ∧ McT L cs t ∧ T = Lib.leBytes 4 cs.length ++ t

/-- Two rising lists with the same numbers are one. -/
theorem rising_eq : ∀ {l l' : List Int}, l.Pairwise (· < ·) → l'.Pairwise (· < ·) → (∀ x, x ∈ l ↔ x ∈ l') → l = l'
  | [], [], _, _, _ => rfl
  | [], b :: _, _, _, h => by have := (h b).2 (by simp); simp at this
  | a :: _, [], _, _, h => by have := (h a).1 (by simp); simp at this
  | a :: l, b :: l', h1, h2, h => by
    rw [List.pairwise_cons] at h1 h2
    have e : a = b := by
      have ha := (h a).1 (by simp)
      have hb := (h b).2 (by simp)
      rcases List.mem_cons.1 ha with e | e
      · exact e
      · rcases List.mem_cons.1 hb with e2 | e2
        · exact e2.symm
        · have := h1.1 b e2
          have := h2.1 a e
          omega
    subst e
    rw [rising_eq h1.2 h2.2 fun x => ?_]
    constructor
    · intro hx
      rcases List.mem_cons.1 ((h x).1 (List.mem_cons_of_mem _ hx)) with e | e
      · have := h1.1 x hx; omega
      · exact e
    · intro hx
      rcases List.mem_cons.1 ((h x).2 (List.mem_cons_of_mem _ hx)) with e | e
      · have := h2.1 x hx; omega
      · exact e
theorem keysS_eq {key : EntL → Int} {L L' : List EntL} {l l' : List Int} (h : KeysS key L l) (h' : KeysS key L' l') (hp : ∀ x, x ∈ L' ↔ x ∈ L) : l' = l :=
  rising_eq h'.1 h.1 fun x => by
    rw [h'.2, h.2]
    constructor
    · rintro ⟨y, hy, e⟩; exact ⟨y, (hp y).1 hy, e⟩
    · rintro ⟨y, hy, e⟩; exact ⟨y, (hp y).2 hy, e⟩
theorem keysS_add {L : List EntL} {l : List Int} (h : KeysS (fun x => (x.c.digest.length : Int)) L l) : KeysS widK L (l.map (· + 8)) := by
  refine ⟨?_, fun x => ?_⟩
  · rw [List.pairwise_map]
    exact h.1.imp (fun h => by omega)
  · rw [List.mem_map]
    constructor
    · rintro ⟨a, ha, rfl⟩
      obtain ⟨y, hy, e⟩ := (h.2 a).1 ha
      have e2 : (y.c.digest.length : Int) = a := e
      exact ⟨y, hy, by simp only [widK]; omega⟩
    · rintro ⟨y, hy, e⟩
      have e2 : (y.c.digest.length : Int) + 8 = x := e
      exact ⟨x - 8, (h.2 _).2 ⟨y, hy, show (y.c.digest.length : Int) = x - 8 by omega⟩, by omega⟩
/-- Rows sorted by digests that are apart are one. -/
theorem rows_eq {A B : List (List UInt8 × Nat)} (hp : A.Perm B) (hA : A.Pairwise (fun a b => ltB b.1 a.1 = false)) (hB : B.Pairwise (fun a b => ltB b.1 a.1 = false)) (hap : ∀ a ∈ A, ∀ b ∈ A, a.1 = b.1 → a = b) : A = B :=
  List.Perm.eq_of_pairwise (le := fun a b => ltB b.1 a.1 = false) (fun a b ha hb h1 h2 => hap a ha b (hp.mem_iff.2 hb) (ltB_total h2 h1)) hA hB hp
theorem flatMap_eq {α β : Type} {l : List α} {f g : α → List β} (h : ∀ x ∈ l, f x = g x) : l.flatMap f = l.flatMap g := by
  induction l with
  | nil => rfl
  | cons a t ih => rw [List.flatMap_cons, List.flatMap_cons, h a (by simp), ih fun x hx => h x (List.mem_cons_of_mem _ hx)]
theorem mwT_eq {L L' : List EntL} {T T' : List UInt8} (hp : L'.Perm L) (hap : Apart L) (h : MwT L' T') (hs : SortedIs L T) : T' = T := by
  obtain ⟨ks, f, hks, hf, rfl⟩ := h
  obtain ⟨S, ws, hS, hSs, hws, rfl⟩ := hs
  have e : ks = ws.map (· + 8) := keysS_eq (keysS_add hws) hks (fun x => hp.mem_iff)
  subst e
  unfold sortedY
  rw [List.length_map, List.flatMap_map]
  congr 1
  refine flatMap_eq fun n hn => ?_
  obtain ⟨h1, h2⟩ := hf (n + 8) (List.mem_map_of_mem hn)
  have hw : f (n + 8) = (S.filter (fun x => decide ((x.c.digest.length : Int) = n))).map sayD := by
    have hof : ofKey widK L' (n + 8) = L'.filter (fun x => decide ((x.c.digest.length : Int) = n)) := by
      unfold ofKey
      congr 1
      funext x
      have : widK x = n + 8 ↔ (x.c.digest.length : Int) = n := by simp only [widK]; omega
      simp only [this]
    rw [hof] at h1
    have hpp := h1.trans ((((hp.trans hS.symm).filter _).map sayD))
    refine rows_eq hpp h2 ?_ fun a ha b hb hab => ?_
    · rw [List.pairwise_map]
      refine List.Pairwise.imp_of_mem ?_ (hSs.filter _)
      intro a b ha hb hab
      have hal := hS.mem_iff.1 (List.mem_filter.1 ha).1
      have hbl := hS.mem_iff.1 (List.mem_filter.1 hb).1
      unfold entLt at hab
      by_cases e : b.c.digest = a.c.digest
      · simp only [sayD, e]
        cases hq : ltB a.c.digest a.c.digest with
        | false => rfl
        | true => rw [ltB_irrefl] at hq; cases hq
      · rw [if_neg e] at hab; exact hab
    · obtain ⟨x, hx, rfl⟩ := List.mem_map.1 (h1.mem_iff.1 ha)
      obtain ⟨y, hy, rfl⟩ := List.mem_map.1 (h1.mem_iff.1 hb)
      rw [hap x (hp.mem_iff.1 (List.mem_filter.1 hx).1) y (hp.mem_iff.1 (List.mem_filter.1 hy).1) hab]
  have hr : rowsP (f (n + 8)) = rowsY S n := by rw [hw]; unfold rowsP rowsY; rw [List.flatMap_map]; rfl
  simp only [widthP, widthY, hr]
theorem mcT_eq {L L' : List EntL} (hp : L'.Perm L) (hap : Apart L) {cs : List Int} {t : List UInt8} (h : CodesT L cs t) : ∀ {t' : List UInt8}, McT L' cs t' → t' = t := by
  induction h with
  | nil =>
    intro t' h'
    generalize hc : ([] : List Int) = cs at h'
    cases h' with
    | nil => rfl
    | snoc _ _ => simp at hc
  | @snoc cs r c T h hT ih =>
    intro t' h'
    generalize hc : cs ++ [c] = cs' at h'
    cases h' with
    | nil => simp at hc
    | @snoc cs2 r2 c2 T2 h2 hT2 =>
      obtain ⟨rfl, e⟩ := List.append_inj' hc rfl
      obtain rfl : c = c2 := by simpa using e
      rw [ih h2, mwT_eq (hp.filter _) (hap.filter _) hT2 hT]
theorem mhT_eq {L L' : List EntL} {T T' : List UInt8} (hp : L'.Perm L) (hap : Apart L) (h : MhT L' T') (hs : CodedIs L T) : T' = T := by
  obtain ⟨cs', t', hk', hm', rfl⟩ := h
  obtain ⟨cs, t, hk, hm, rfl⟩ := hs
  obtain rfl : cs' = cs := keysS_eq hk hk' (fun x => hp.mem_iff)
  rw [mcT_eq hp hap hm hm']

theorem mwT_uniq {L L' : List EntL} {T T' : List UInt8} (hp : L'.Perm L) (hap : Apart L) (h : MwT L' T') (hs : MwT L T) : T' = T := by
  obtain ⟨ks', f', hk', hf', rfl⟩ := h
  obtain ⟨ks, f, hk, hf, rfl⟩ := hs
  obtain rfl : ks' = ks := keysS_eq hk hk' (fun x => hp.mem_iff)
  congr 1
  refine flatMap_eq fun n hn => ?_
  have h1 := (hf' n hn).1
  have h2 := (hf n hn).1
  have hpp : (f' n).Perm (f n) := h1.trans (((hp.filter _).map sayD).trans h2.symm)
  have e : f' n = f n := rows_eq hpp (hf' n hn).2 (hf n hn).2 fun a ha b hb hab => by
    obtain ⟨x, hx, rfl⟩ := List.mem_map.1 (h1.mem_iff.1 ha)
    obtain ⟨y, hy, rfl⟩ := List.mem_map.1 (h1.mem_iff.1 hb)
    rw [hap x (hp.mem_iff.1 (List.mem_filter.1 hx).1) y (hp.mem_iff.1 (List.mem_filter.1 hy).1) hab]
  simp only [widthP, e]
theorem mcT_uniq {L L' : List EntL} (hp : L'.Perm L) (hap : Apart L) {cs : List Int} {t : List UInt8} (h : McT L cs t) : ∀ {t' : List UInt8}, McT L' cs t' → t' = t := by
  induction h with
  | nil =>
    intro t' h'
    generalize hc : ([] : List Int) = cs at h'
    cases h' with
    | nil => rfl
    | snoc _ _ => simp at hc
  | @snoc cs r c T h hT ih =>
    intro t' h'
    generalize hc : cs ++ [c] = cs' at h'
    cases h' with
    | nil => simp at hc
    | @snoc cs2 r2 c2 T2 h2 hT2 =>
      obtain ⟨rfl, e⟩ := List.append_inj' hc rfl
      obtain rfl : c = c2 := by simpa using e
      rw [ih h2, mwT_uniq (hp.filter _) (hap.filter _) hT2 hT]
theorem mhT_uniq {L L' : List EntL} {T T' : List UInt8} (hp : L'.Perm L) (hap : Apart L) (h : MhT L' T') (hs : MhT L T) : T' = T := by
  obtain ⟨cs', t', hk', hm', rfl⟩ := h
  obtain ⟨cs, t, hk, hm, rfl⟩ := hs
  obtain rfl : cs' = cs := keysS_eq hk hk' (fun x => hp.mem_iff)
  rw [mcT_uniq hp hap hm hm']

/-- What the program writes of an index of a kind. -/
def WrittenIs (kind : Nat) (L : List EntL) (S : List UInt8) : Prop := ∃ T, S = Lib.uvarint kind ++ T ∧ ((kind = 1024 ∧ MwT L T) ∨ (kind = 1025 ∧ MhT L T))
theorem written_eq {kind : Nat} {L L' : List EntL} {S S' : List UInt8} (hp : L'.Perm L) (hap : Apart L) (h : WrittenIs kind L' S') (hs : IndexIs kind L S) : S' = S := by
  obtain ⟨T', rfl, h⟩ := h
  obtain ⟨T, rfl, hs⟩ := hs
  rcases h with ⟨hk, h⟩ | ⟨hk, h⟩
  · rcases hs with ⟨_, hs⟩ | ⟨hk2, _⟩
    · rw [mwT_eq hp hap h hs]
    · omega
  · rcases hs with ⟨hk2, _⟩ | ⟨_, hs⟩
    · omega
    · rw [mhT_eq hp hap h hs]
theorem written_uniq {kind : Nat} {L L' : List EntL} {S S' : List UInt8} (hp : L'.Perm L) (hap : Apart L) (h : WrittenIs kind L' S') (hs : WrittenIs kind L S) : S' = S := by
  obtain ⟨T', rfl, h⟩ := h
  obtain ⟨T, rfl, hs⟩ := hs
  rcases h with ⟨hk, h⟩ | ⟨hk, h⟩
  · rcases hs with ⟨_, hs⟩ | ⟨hk2, _⟩
    · rw [mwT_uniq hp hap h hs]
    · omega
  · rcases hs with ⟨hk2, _⟩ | ⟨_, hs⟩
    · omega
    · rw [mhT_uniq hp hap h hs]
end Go.Proofs.YtcljffldbnoljaaGreatDoor

namespace Go.Proofs.YtcljffldbnoljaaGreatDoor
open Go.RowKit Go.Sort

abbrev eU32 (x : Nat) : Value := .int .u32 (x : Nat)
def ltN (x y : Nat) : Bool := decide (x < y)
theorem ltN_swo : SWO ltN where
  irrefl x := by simp [ltN]
  trans x y z h1 h2 := by simp only [ltN, decide_eq_true_eq] at *; omega
  ntrans x y z h1 h2 := by simp only [ltN, decide_eq_false_iff_not] at *; omega
/-- Block g holds the row d. -/
def U32 (w : World) (g : Nat) (d : Array Nat) : Prop := Holds eU32 w g 0 d

set_option maxRecDepth 100000 in
theorem cmpIsNaN_u32 (x : Int) (w : World) : Calls Tryz.prog 224 #[.int .u32 x] w fun e w' => e = .returned (.bool false) ∧ w' = w := by
  go_enter Tryz.func224, Tryz.ntmps224
  go_wp2_with fail
  exact bodyPost_ret (v := .bool false) (by simp [results, Tryz.results224, go_sem]) rfl ⟨rfl, rfl⟩
set_option maxRecDepth 100000 in
theorem cmpLess_u32 (x y : Nat) (w : World) : Calls Tryz.prog 216 #[eU32 x, eU32 y] w fun e w' => e = .returned (.bool (ltN x y)) ∧ w' = w := by
  have hx := cmpIsNaN_u32 (x : Int)
  have hd : decide ((x : Int) < (y : Int)) = ltN x y := by unfold ltN; congr 1; exact propext Int.ofNat_lt
  have hdN : decide (x < y) = ltN x y := rfl
  go_enter Tryz.func216, Tryz.ntmps216
  go_wp2_with (go_at_call 224; refine (hx _).mono ?_; rintro _ w1 ⟨rfl, rfl⟩)
  exact bodyPost_ret (v := .bool (ltN x y)) (by simp [results, Tryz.results216, go_sem]) rfl ⟨rfl, rfl⟩

theorem u32_drewN {w : World} {g q : Nat} {d : Array Nat} (h : U32 w g d) : U32 (w.drewN q) g d := fun t ht => h t ht
theorem u32_q {w W : World} {g q : Nat} {d : Array Nat} (h : U32 w g d) (e : w.drewN q = W) : U32 W g d := e ▸ u32_drewN h
theorem kp_q {l : List Nat} {a w W : World} {q : Nat} (h : Kp l a w) (e : w.drewN q = W) : Kp l a W := e ▸ h.drewN q
theorem u32_old {w w' : World} {g : Nat} {d : Array Nat} (h : U32 w g d) (b : Below w.heap.size w w') : U32 w' g d := fun t ht => by
  have h1 := h t ht
  have hlt := World.block_lt_of_cell? w _ h1.1
  exact ⟨(b.cell (p := ⟨g, 0 + t, none⟩) hlt).trans h1.1, (b.frozen (p := ⟨g, 0 + t, none⟩) hlt).trans h1.2⟩
theorem u32_below {B : Nat} {w w' : World} {g : Nat} {d : Array Nat} (hg : g < B) (h : U32 w g d) (b : Below B w w') : U32 w' g d := fun t ht => by
  have h1 := h t ht
  exact ⟨(b.cell (p := ⟨g, 0 + t, none⟩) hg).trans h1.1, (b.frozen (p := ⟨g, 0 + t, none⟩) hg).trans h1.2⟩
theorem u32_swap {w : World} {g i j q : Nat} {d : Array Nat} (h : U32 w g d) (hi : i < d.size) (hj : j < d.size) : U32 (((w.drewN q).setCell ⟨g, i, none⟩ (eU32 d[j]!)).setCell ⟨g, j, none⟩ (eU32 d[i]!)) g (swp d i j) := by
  intro t ht
  rw [size_swp] at ht
  rw [Nat.zero_add]
  have ht0 := h t ht
  have hi0 := h i hi
  have hj0 := h j hj
  rw [Nat.zero_add] at ht0 hi0 hj0
  refine ⟨?_, by simpa using ht0.2⟩
  rw [swp_get d hi hj]
  by_cases c1 : t = j
  · subst c1
    rw [if_pos rfl]
    by_cases c2 : i = t
    · subst c2
      exact World.cell?_setCell_same _ _ _ (World.cell?_setCell_same _ _ _ hi0.1)
    · have e : ((w.drewN q).setCell ⟨g, i, none⟩ (eU32 d[t]!)).cell? ⟨g, t, none⟩ = some (eU32 d[t]!) := by
        rw [World.cell?_setCell_other _ _ _ _ (by intro e; simp only [Addr.mk.injEq, and_true, true_and] at e; omega)]
        exact hj0.1
      exact World.cell?_setCell_same _ _ _ e
  · rw [if_neg c1, World.cell?_setCell_other _ _ _ _ (by intro e; simp only [Addr.mk.injEq, and_true, true_and] at e; omega)]
    by_cases c2 : t = i
    · subst c2
      rw [if_pos rfl]
      exact World.cell?_setCell_same _ _ _ hi0.1
    · rw [if_neg c2, World.cell?_setCell_other _ _ _ _ (by intro e; simp only [Addr.mk.injEq, and_true, true_and] at e; omega)]
      exact ht0.1
/-- What reading places X and Y wants. -/
theorem u32_less {w : World} {g n X Y : Nat} {d : Array Nat} (h : U32 w g d) (hs : d.size = n) (hx : X < n) (hy : Y < n) : ∃ (vx vy : Nat) (bb : Bool), w.cell? ⟨g, X, none⟩ = some (.int .u32 (vx : Nat)) ∧ w.frozen? ⟨g, X, none⟩ = false ∧ w.cell? ⟨g, Y, none⟩ = some (.int .u32 (vy : Nat)) ∧ w.frozen? ⟨g, Y, none⟩ = false ∧
    (X : Int) < (n : Int) ∧ (Y : Int) < (n : Int) ∧ Hid (∀ W, Calls Tryz.prog 216 #[.int .u32 (vx : Nat), .int .u32 (vy : Nat)] W fun e w' => e = .returned (.bool bb) ∧ w' = W) ∧ Hid (ltN d[X]! d[Y]! = bb) := by
  have h1 := h X (by omega)
  have h2 := h Y (by omega)
  rw [Nat.zero_add] at h1 h2
  exact ⟨d[X]!, d[Y]!, _, h1.1, h1.2, h2.1, h2.2, by omega, by omega, Lib.hid fun W => cmpLess_u32 _ _ W, Lib.hid rfl⟩
/-- What swapping places X and Y wants and leaves. -/
theorem u32_swapF {w : World} {g n X Y : Nat} {d : Array Nat} (h : U32 w g d) (hs : d.size = n) (hx : X < n) (hy : Y < n) : ∃ vx vy : Nat, w.cell? ⟨g, X, none⟩ = some (.int .u32 (vx : Nat)) ∧ w.frozen? ⟨g, X, none⟩ = false ∧ w.cell? ⟨g, Y, none⟩ = some (.int .u32 (vy : Nat)) ∧ w.frozen? ⟨g, Y, none⟩ = false ∧
    (X : Int) < (n : Int) ∧ (Y : Int) < (n : Int) ∧ (w.setCell ⟨g, X, none⟩ (.int .u32 (vy : Nat))).cell? ⟨g, Y, none⟩ = some (.int .u32 (vy : Nat)) ∧ Hid (U32 (((w.setCell ⟨g, X, none⟩ (.int .u32 (vy : Nat))).setCell ⟨g, Y, none⟩ (.int .u32 (vx : Nat))).drew) g (swp d X Y) ∧ Kp [g] w (((w.setCell ⟨g, X, none⟩ (.int .u32 (vy : Nat))).setCell ⟨g, Y, none⟩ (.int .u32 (vx : Nat))).drew)) := by
  have h1 := h X (by omega)
  have h2 := h Y (by omega)
  rw [Nat.zero_add] at h1 h2
  have e : (w.setCell ⟨g, X, none⟩ (.int .u32 (d[Y]! : Nat))).cell? ⟨g, Y, none⟩ = some (.int .u32 (d[Y]! : Nat)) := by
    by_cases hxy : X = Y
    · subst hxy
      exact World.cell?_setCell_same _ _ _ h1.1
    · rw [World.cell?_setCell_other _ _ _ _ (by intro e; simp only [Addr.mk.injEq, and_true, true_and] at e; omega)]
      exact h2.1
  exact ⟨d[X]!, d[Y]!, h1.1, h1.2, h2.1, h2.2, by omega, by omega, e, Lib.hid ⟨u32_swap (q := 0) h (by omega) (by omega), (((Kp.refl [g] w).setCell (p := ⟨g, X, none⟩) (.inl (by simp)) _).setCell (p := ⟨g, Y, none⟩) (.inl (by simp)) _).drew⟩⟩
end Go.Proofs.YtcljffldbnoljaaGreatDoor
