/-
  The walk of spec.Section. Conditions: as the contract says.
-/
import Derived.Test.YtaionnajhgjekaaDoorSp
import Derived.Test.YtaionnajhgjekaaDoorCdI
namespace Go.Proofs.YtaionnajhgjekaaDoor
open Go.RowKit

theorem wr_len2 {c : CidL} (hc : c.tidy) (hd : c.digest.length ≤ 4096) : c.wr.length ≤ 5000 ∧ 0 < c.wr.length := by
  have h1 := Lib.uvarint_length64 (x := c.code) (by rcases hc with ⟨_, _, h, _⟩ | ⟨_, _, h⟩ <;> omega)
  have h2 := Lib.uvarint_length64 (x := c.digest.length) (by omega)
  have h3 := Lib.uvarint_length64 (x := c.codec) (by rcases hc with ⟨_, h, _⟩ | ⟨_, h, _⟩ <;> omega)
  have h4 := Lib.uvarint_length64 (x := 1) (by omega)
  have h5 := Lib.uvarint_pos c.code
  unfold CidL.wr
  split
  · simp only [mhWr, List.length_append]; omega
  · simp only [mhWr, List.length_append]; omega

/-- A block: its identifier and its data. -/
structure BlkL where
  c : CidL
  data : List UInt8
/-- Its section. -/
def BlkL.sec (b : BlkL) : List UInt8 := Lib.uvarint (b.c.wr.length + b.data.length) ++ (b.c.wr ++ b.data)
/-- Its value, its cells. -/
def BlkL.val (b : BlkL) : Array Value := #[.int .u64 (b.c.version : Nat), .int .u64 (b.c.codec : Nat), .int .u64 (b.c.code : Nat), .string ⟨b.c.digest.toArray⟩, .string ⟨b.data.toArray⟩]

set_option maxRecDepth 100000 in
set_option maxHeartbeats 4000000 in
theorem specSection_any (y : BlkL) (w : World) (hx : y.c.tidy) (hd : y.c.digest.length ≤ 4096) (hda : y.data.length ≤ 1000000) :
    Calls Tryd.prog 15 #[.agg y.val] w fun e w' => e = .returned (.string ⟨y.sec.toArray⟩) ∧ Below w.heap.size w w' := by
  have b0 := Old.alloc (Below.refl w.heap.size w) (.cells y.val 40)
  have B0 := Blk.new w 40 y.val
  have hC := fun W => specCidBytes_any y.c W hx (by omega)
  have hwl := wr_len2 hx hd
  have hA := fun W => specVarint_cv ((y.c.wr.length + y.data.length : Nat) : Int) W (by omega) (by omega)
  rw [Int.toNat_natCast] at hA
  have hs : y.sec = Lib.uvarint (y.c.wr.length + y.data.length) ++ (y.c.wr ++ y.data) := rfl
  have hl1 := Lib.uvarint_length64 (x := y.c.wr.length + y.data.length) (by omega)
  obtain ⟨U, hU⟩ : ∃ U, Lib.uvarint (y.c.wr.length + y.data.length) = U := ⟨_, rfl⟩
  rw [hU] at hA hl1 hs
  rw [hs]
  obtain ⟨R, hR⟩ : ∃ R, y.c.wr = R := ⟨_, rfl⟩
  rw [hR] at hA hC hwl ⊢
  have hRl := hwl.1
  have happ := sp_app
  obtain ⟨⟨v, c, k, d⟩, da⟩ := y
  simp only [BlkL.val] at *
  obtain ⟨T, hT⟩ : ∃ T : Int, (R.length : Int) + (da.length : Int) = T := ⟨_, rfl⟩
  have hTn : ((R.length + da.length : Nat) : Int) = T := by omega
  rw [hTn] at hA
  have hwn : IntKind.i64.wrap T = T := by rw [IntKind.wrap_i64]; omega
  have hwu : IntKind.u64.wrap T = T := by rw [IntKind.wrap_u64]; omega
  have hT0 : 0 ≤ T := by omega
  have hT1 : T ≤ 1000000000 := by omega
  have H := Lib.hid (And.intro hA hC)
  have HW := Lib.hid (And.intro hwn (And.intro hwu hT))
  clear hA hC hU hR hs hwl hx hwn hwu hT hTn
  go_enter Tryd.func15, Tryd.ntmps15
  go_wp2_with fail
  generalize w.alloc (.cells #[.int .u64 (v : Nat), .int .u64 (c : Nat), .int .u64 (k : Nat), .string ⟨d.toArray⟩, .string ⟨da.toArray⟩] 40) = W at *
  refine (H.out.2 W).mono ?_
  rintro e w1 ⟨rfl, b1⟩
  have B1 := B0.old b1
  have q4 : w1.cell? ⟨w.heap.size, 4, none⟩ = some (.string ⟨da.toArray⟩) := B1.cell 4
  have z1 := B1.lt
  have hwn := HW.out.1
  have hwu := HW.out.2.1
  have hT := HW.out.2.2
  go_wp2_with fail
  go_region_held (fun w' => w'.cell? ⟨w.heap.size, 4, none⟩ = some (.string ⟨da.toArray⟩)) (first | assumption | exact (hbA.cell (p := ⟨w.heap.size, 4, none⟩) z1).trans q4 | go_keep) (first | (go_at_call 30; refine (H.out.1 _).mono ?_; rintro _ wA ⟨vA, rfl, hbA, HA⟩; have iA := HA.out wA (Below.refl _ _)))
  all_goals go_wp2_with fail
  all_goals go_ret
  all_goals refine ⟨?_, Old.trans b0 (Old.trans b1 (((Below.refl w1.heap.size w1).drew).trans hbA))⟩
  all_goals rfl
end Go.Proofs.YtaionnajhgjekaaDoor
