/-
  No cell of these rows narrows 'for every input' (looked for: loops, veiled, ifaces, maps, wideKeys, modest, calm, conditions, laid).
  DERIVED. THE GIVEN ROWS OF THIS SEAT. 3 by the template 'for every input the law returns true; each argument reads behind the call as it read before'; 0 by the template 'total and deterministic' (their statements: YtlfdnigfijgmjaaTotals.lean).
  GIVEN WITH THE SEED: the statements are not yours to turn. If you find one false, say at which input.
  Laid BY PROGRAM, IN A SANDBOX (cutbox-rows.mjs): the forced cells as the released guide's own fill.sh prints them over the translation 86bf8c420b527e41… (all of the seat's roots in one cut). By AI agents, Wed Nov 11 2026. No macro, syntax, notation, axiom, sorry.
-/
import Derived.Test.YtlfdnigfijgmjaaChecked
import GoSem.Claim
import GoSem.ClaimJoined
import GoSem.ClaimMapViews
import Derived.JoinedTies
import Derived.KernelRfl
namespace Go.Proofs.Ytlfdnigfijgmjaa
/- THE CELL 'sum', in the pinned program and in every row, IS THE sha256 OF THE DUMP (.gsa) THAT YtlfdnigfijgmjaaProg.lean LOADS. Nothing in Lean hashes anything: it is a label: what it is worth is what the hold of that sum in a sandbox is worth. -/
noncomputable def Try.pinned : Pinned := { name := "ytlfdnigfijgmjaa", sum := "86bf8c420b527e413ead4608d9c02bfdbd2d1b10bbe1fdfe5dc17294cd1bfeb9", checked := Try.checked }
namespace Rows
def none {H : Type} : Left H := { results := [], args := [] }

/-- 'laws.FnC2HasIndex': WHATEVER THE INPUT: true; the input reads as it did. -/
def fnC2HasIndexSpec : ChangeSpec := { name := "fnC2HasIndex", fn := fun _ => fun
  | [d] => { results := [.lit (.bool true)], args := [d] }
  | _ => none }
def fnC2HasIndexRow : OpenClaim := { program := "ytlfdnigfijgmjaa", sum := "86bf8c420b527e413ead4608d9c02bfdbd2d1b10bbe1fdfe5dc17294cd1bfeb9", func := "pub-droshky/laws.FnC2HasIndex", spec := "fnC2HasIndex", apart := false }
def FnC2HasIndexSaid : Prop := fnC2HasIndexRow.holds Try.pinned (OpenSpec.ofChange fnC2HasIndexSpec)

/-- ITS FALSE NEIGHBOUR: 'it returns false'. Refute it at one input. -/
def fnC2HasIndexWrong : ChangeSpec := { name := "fnC2HasIndex", fn := fun _ => fun
  | [d] => { results := [.lit (.bool false)], args := [d] }
  | _ => none }
def FnC2HasIndexWrongFalsely : Prop := fnC2HasIndexRow.holds Try.pinned (OpenSpec.ofChange fnC2HasIndexWrong)

/-- 'laws.FnC2New': WHATEVER THE INPUT: true; the input reads as it did. -/
def fnC2NewSpec : ChangeSpec := { name := "fnC2New", fn := fun _ => fun
  | [d] => { results := [.lit (.bool true)], args := [d] }
  | _ => none }
def fnC2NewRow : OpenClaim := { program := "ytlfdnigfijgmjaa", sum := "86bf8c420b527e413ead4608d9c02bfdbd2d1b10bbe1fdfe5dc17294cd1bfeb9", func := "pub-droshky/laws.FnC2New", spec := "fnC2New", apart := false }
def FnC2NewSaid : Prop := fnC2NewRow.holds Try.pinned (OpenSpec.ofChange fnC2NewSpec)

/-- ITS FALSE NEIGHBOUR: 'it returns false'. Refute it at one input. -/
def fnC2NewWrong : ChangeSpec := { name := "fnC2New", fn := fun _ => fun
  | [d] => { results := [.lit (.bool false)], args := [d] }
  | _ => none }
def FnC2NewWrongFalsely : Prop := fnC2NewRow.holds Try.pinned (OpenSpec.ofChange fnC2NewWrong)

/-- 'laws.FnC2Bytes': WHATEVER THE INPUT: true; the input reads as it did. -/
def fnC2BytesSpec : ChangeSpec := { name := "fnC2Bytes", fn := fun _ => fun
  | [d] => { results := [.lit (.bool true)], args := [d] }
  | _ => none }
def fnC2BytesRow : OpenClaim := { program := "ytlfdnigfijgmjaa", sum := "86bf8c420b527e413ead4608d9c02bfdbd2d1b10bbe1fdfe5dc17294cd1bfeb9", func := "pub-droshky/laws.FnC2Bytes", spec := "fnC2Bytes", unfollowed := true, recurses := true, named := ["encoding/binary.LittleEndian"], apart := false }
def FnC2BytesSaid : Prop := fnC2BytesRow.holds Try.pinned (OpenSpec.ofChange fnC2BytesSpec)

/-- ITS FALSE NEIGHBOUR: 'it returns false'. Refute it at one input. -/
def fnC2BytesWrong : ChangeSpec := { name := "fnC2Bytes", fn := fun _ => fun
  | [d] => { results := [.lit (.bool false)], args := [d] }
  | _ => none }
def FnC2BytesWrongFalsely : Prop := fnC2BytesRow.holds Try.pinned (OpenSpec.ofChange fnC2BytesWrong)

/- THE SECOND FORM. 'bulk': how many values and letters a reading holds, each counted each time it is reached (what is shared counts as often as it is met; a slice's spare places count too). A statement '..UptoSaid' is the law's where the arguments, and the package variables that the reading takes, are together of bulk at most 1048576: NARROWER than '..Said'. Prove '..Said' where nothing that the law and all that it calls make is longer than what came in: it says more and counts as full. Else prove '..UptoSaid'. A law counts once. -/
mutual
def uptoBulk {H : Type} : DataW H → Nat
  | .lit (.string bytes) => bytes.length + 1
  | .lit _ => 1
  | .nil => 1
  | .ptr d => uptoBulk d + 1
  | .slice elems spare => uptoBulkAll elems + uptoBulkAll spare + 1
  | .agg parts => uptoBulkAll parts + 1
  | .iface _ d => uptoBulk d + 1
  | .map entries => uptoBulkEntries entries + 1
  | .held _ => 1
def uptoBulkAll {H : Type} : List (DataW H) → Nat
  | [] => 0
  | d :: r => uptoBulk d + uptoBulkAll r
def uptoBulkEntries {H : Type} : List (Lit × DataW H) → Nat
  | [] => 0
  | x :: r => uptoBulkEntry x + uptoBulkEntries r
def uptoBulkEntry {H : Type} : Lit × DataW H → Nat
  | (.string bytes, d) => bytes.length + uptoBulk d + 1
  | (_, d) => uptoBulk d + 1
 end
def uptoSmall : (H : Type) → List (DataW H) → Bool := fun _ ds => decide (uptoBulkAll ds ≤ 1048576)
def OpenSpec.upto (s : _root_.Go.ChangeSpec) : _root_.Go.OpenSpec := { _root_.Go.OpenSpec.ofChange s with cond := some uptoSmall }

/-- 'laws.FnC2HasIndex', WHERE WHAT IT READS IS OF BULK AT MOST 1048576: true; the input reads as it did. -/
def fnC2HasIndexUptoRow : OpenClaim := { program := "ytlfdnigfijgmjaa", sum := "86bf8c420b527e413ead4608d9c02bfdbd2d1b10bbe1fdfe5dc17294cd1bfeb9", func := "pub-droshky/laws.FnC2HasIndex", spec := "fnC2HasIndex", apart := false, narrowed := true }
def FnC2HasIndexUptoSaid : Prop := fnC2HasIndexUptoRow.holds Try.pinned (OpenSpec.upto fnC2HasIndexSpec)

/-- 'laws.FnC2New', WHERE WHAT IT READS IS OF BULK AT MOST 1048576: true; the input reads as it did. -/
def fnC2NewUptoRow : OpenClaim := { program := "ytlfdnigfijgmjaa", sum := "86bf8c420b527e413ead4608d9c02bfdbd2d1b10bbe1fdfe5dc17294cd1bfeb9", func := "pub-droshky/laws.FnC2New", spec := "fnC2New", apart := false, narrowed := true }
def FnC2NewUptoSaid : Prop := fnC2NewUptoRow.holds Try.pinned (OpenSpec.upto fnC2NewSpec)

/-- 'laws.FnC2Bytes', WHERE WHAT IT READS IS OF BULK AT MOST 1048576: true; the input reads as it did. -/
def fnC2BytesUptoRow : OpenClaim := { program := "ytlfdnigfijgmjaa", sum := "86bf8c420b527e413ead4608d9c02bfdbd2d1b10bbe1fdfe5dc17294cd1bfeb9", func := "pub-droshky/laws.FnC2Bytes", spec := "fnC2Bytes", unfollowed := true, recurses := true, named := ["encoding/binary.LittleEndian"], apart := false, narrowed := true }
def FnC2BytesUptoSaid : Prop := fnC2BytesUptoRow.holds Try.pinned (OpenSpec.upto fnC2BytesSpec)

end Rows
end Go.Proofs.Ytlfdnigfijgmjaa
