/-
  NARROWER THAN 'FOR EVERY INPUT', by the rows' own cells (each row's printed sentence says how): FnIiFlatBytes: laid.
  DERIVED. THE GIVEN ROWS OF THIS SEAT. 1 by the template 'for every input the law returns true; each argument reads behind the call as it read before'; 0 by the template 'total and deterministic' (their statements: YtcljffldbnoljaaGreatDoorTotals.lean).
  GIVEN WITH THE SEED: the statements are not yours to turn. If you find one false, say at which input.
  Laid BY PROGRAM, IN A SANDBOX (cutbox-rows.mjs): the forced cells as the released guide's own fill.sh prints them over the translation cf67e0e863e09036… (all of the seat's roots in one cut). By AI agents, Wed Nov 11 2026. No macro, syntax, notation, axiom, sorry.
-/
import Derived.Test.YtcljffldbnoljaaGreatDoorChecked
import GoSem.Claim
import GoSem.ClaimJoined
import GoSem.ClaimMapViews
import Derived.JoinedTies
import Derived.KernelRfl
namespace Go.Proofs.YtcljffldbnoljaaGreatDoor
/- THE CELL 'sum', in the pinned program and in every row, IS THE sha256 OF THE DUMP (.gsa) THAT YtcljffldbnoljaaGreatDoorProg.lean LOADS. Nothing in Lean hashes anything: it is a label: what it is worth is what the hold of that sum in a sandbox is worth. -/
noncomputable def Tryz.pinned : Pinned := { name := "ytcljffldbnoljaagreatdoor", sum := "cf67e0e863e09036316bea22033dd463720f650322c7e10cbe562453e5078c46", checked := Tryz.checked }
namespace Rows
def none {H : Type} : Left H := { results := [], args := [] }

/- WHAT THE LISTED PACKAGE-LEVEL VARIABLES READ AS WHEN THE CALL BEGINS. Each datum BY PROGRAM (the guide's laid-datum.mjs) off the statement by which the dump's own 'gosem.cut.vars' lays the variable. In a bare row this is a premise. The card (YtcljffldbnoljaaGreatDoorCards.lean) ties it to the program's text. -/
def laid_pub_droshky_pub_llrb_ninf {H : Type} : DataW H := .agg []
def laid_pub_droshky_pub_llrb_pinf {H : Type} : DataW H := .agg []
def laid_pub_droshky_pub_varint_ErrOverflow {H : Type} : DataW H := .iface "*errors.errorString" (.ptr (.agg [.lit (.string [118, 97, 114, 105, 110, 116, 115, 32, 108, 97, 114, 103, 101, 114, 32, 116, 104, 97, 110, 32, 117, 105, 110, 116, 54, 51, 32, 110, 111, 116, 32, 115, 117, 112, 112, 111, 114, 116, 101, 100])]))
def laid_pub_droshky_pub_varint_ErrUnderflow {H : Type} : DataW H := .iface "*errors.errorString" (.ptr (.agg [.lit (.string [118, 97, 114, 105, 110, 116, 115, 32, 109, 97, 108, 102, 111, 114, 109, 101, 100, 44, 32, 99, 111, 117, 108, 100, 32, 110, 111, 116, 32, 114, 101, 97, 99, 104, 32, 116, 104, 101, 32, 101, 110, 100])]))
def laid_pub_droshky_pub_varint_ErrNotMinimal {H : Type} : DataW H := .iface "*errors.errorString" (.ptr (.agg [.lit (.string [118, 97, 114, 105, 110, 116, 32, 110, 111, 116, 32, 109, 105, 110, 105, 109, 97, 108, 108, 121, 32, 101, 110, 99, 111, 100, 101, 100])]))
def laid_pub_droshky_pub_multihash_ErrTooShort {H : Type} : DataW H := .iface "*errors.errorString" (.ptr (.agg [.lit (.string [109, 117, 108, 116, 105, 104, 97, 115, 104, 32, 116, 111, 111, 32, 115, 104, 111, 114, 116, 46, 32, 109, 117, 115, 116, 32, 98, 101, 32, 62, 61, 32, 50, 32, 98, 121, 116, 101, 115])]))
def laid_pub_droshky_pub_multihash_ErrVarintBufferShort {H : Type} : DataW H := .iface "*errors.errorString" (.ptr (.agg [.lit (.string [117, 118, 97, 114, 105, 110, 116, 58, 32, 98, 117, 102, 102, 101, 114, 32, 116, 111, 111, 32, 115, 109, 97, 108, 108])]))
def laid_pub_droshky_pub_multihash_ErrVarintTooLong {H : Type} : DataW H := .iface "*errors.errorString" (.ptr (.agg [.lit (.string [117, 118, 97, 114, 105, 110, 116, 58, 32, 118, 97, 114, 105, 110, 116, 32, 116, 111, 111, 32, 98, 105, 103, 32, 40, 109, 97, 120, 32, 54, 52, 98, 105, 116, 41])]))
def laid_pub_droshky_pub_cid_Undef {H : Type} : DataW H := .agg [.lit (.string [])]

/-- 'laws.FnIiFlatBytes': WHATEVER THE INPUT: true; the input reads as it did. -/
def fnIiFlatBytesSpec : ChangeSpec := { name := "fnIiFlatBytes", fn := fun _ => fun
  | [d1, d2, d3] => { results := [.lit (.bool true)], args := [d1, d2, d3] }
  | _ => none }
def fnIiFlatBytesRow : OpenClaim := { program := "ytcljffldbnoljaagreatdoor", sum := "cf67e0e863e09036316bea22033dd463720f650322c7e10cbe562453e5078c46", func := "pub-droshky/laws.FnIiFlatBytes", spec := "fnIiFlatBytes", inPlace := ["internal/abi.NoEscape", "internal/bytealg.MakeNoZero", "internal/reflectlite.ValueOf", "internal/reflectlite.Swapper", "(internal/reflectlite.Value).Len"], unfollowed := true, recurses := true, named := ["pub-droshky/pub/cid.Undef", "pub-droshky/pub/multihash.ErrTooShort", "pub-droshky/pub/multihash.ErrVarintBufferShort", "pub-droshky/pub/multihash.ErrVarintTooLong", "pub-droshky/pub/varint.ErrOverflow", "pub-droshky/pub/varint.ErrNotMinimal", "pub-droshky/pub/varint.ErrUnderflow", "pub-droshky/pub/llrb.pinf", "pub-droshky/pub/llrb.ninf"], apart := false, laid := [("pub-droshky/pub/llrb.ninf", laid_pub_droshky_pub_llrb_ninf), ("pub-droshky/pub/llrb.pinf", laid_pub_droshky_pub_llrb_pinf), ("pub-droshky/pub/varint.ErrOverflow", laid_pub_droshky_pub_varint_ErrOverflow), ("pub-droshky/pub/varint.ErrUnderflow", laid_pub_droshky_pub_varint_ErrUnderflow), ("pub-droshky/pub/varint.ErrNotMinimal", laid_pub_droshky_pub_varint_ErrNotMinimal), ("pub-droshky/pub/multihash.ErrTooShort", laid_pub_droshky_pub_multihash_ErrTooShort), ("pub-droshky/pub/multihash.ErrVarintBufferShort", laid_pub_droshky_pub_multihash_ErrVarintBufferShort), ("pub-droshky/pub/multihash.ErrVarintTooLong", laid_pub_droshky_pub_multihash_ErrVarintTooLong), ("pub-droshky/pub/cid.Undef", laid_pub_droshky_pub_cid_Undef)] }
def FnIiFlatBytesSaid : Prop := fnIiFlatBytesRow.holds Tryz.pinned (OpenSpec.ofChange fnIiFlatBytesSpec)

/-- ITS FALSE NEIGHBOUR: 'it returns false'. Refute it at one input. -/
def fnIiFlatBytesWrong : ChangeSpec := { name := "fnIiFlatBytes", fn := fun _ => fun
  | [d1, d2, d3] => { results := [.lit (.bool false)], args := [d1, d2, d3] }
  | _ => none }
def FnIiFlatBytesWrongFalsely : Prop := fnIiFlatBytesRow.holds Tryz.pinned (OpenSpec.ofChange fnIiFlatBytesWrong)

/- THE SECOND FORM. 'bulk': how many values and letters a reading holds, each counted each time it is reached (what is shared counts as often as it is met; a slice's spare places count too). A statement '..UptoSaid' is the law's where the arguments, and the package variables that the reading takes, are together of bulk at most 1048576: NARROWER than '..Said'. Prove '..Said' where nothing that the law and all that it calls make is longer than what came in: it says more and counts as full. Else prove '..UptoSaid'. A law counts once. -/
mutual
def uptoBulk {H : Type} : DataW H → Nat
  | .lit (.string bytes) => bytes.length + 1
  | .lit _ => 1
  | .nil => 1
  | .ptr d => uptoBulk d + 1
  | .slice elems spare => uptoBulkAll elems + uptoBulkAll spare + 1
  | .agg parts => uptoBulkAll parts + 1
  | .iface _ d => uptoBulk d + 1
  | .map entries => uptoBulkEntries entries + 1
  | .held _ => 1
def uptoBulkAll {H : Type} : List (DataW H) → Nat
  | [] => 0
  | d :: r => uptoBulk d + uptoBulkAll r
def uptoBulkEntries {H : Type} : List (Lit × DataW H) → Nat
  | [] => 0
  | x :: r => uptoBulkEntry x + uptoBulkEntries r
def uptoBulkEntry {H : Type} : Lit × DataW H → Nat
  | (.string bytes, d) => bytes.length + uptoBulk d + 1
  | (_, d) => uptoBulk d + 1
 end
def uptoSmall : (H : Type) → List (DataW H) → Bool := fun _ ds => decide (uptoBulkAll ds ≤ 1048576)
def OpenSpec.upto (s : _root_.Go.ChangeSpec) : _root_.Go.OpenSpec := { _root_.Go.OpenSpec.ofChange s with cond := some uptoSmall }

/-- 'laws.FnIiFlatBytes', WHERE WHAT IT READS IS OF BULK AT MOST 1048576: true; the input reads as it did. -/
def fnIiFlatBytesUptoRow : OpenClaim := { program := "ytcljffldbnoljaagreatdoor", sum := "cf67e0e863e09036316bea22033dd463720f650322c7e10cbe562453e5078c46", func := "pub-droshky/laws.FnIiFlatBytes", spec := "fnIiFlatBytes", inPlace := ["internal/abi.NoEscape", "internal/bytealg.MakeNoZero", "internal/reflectlite.ValueOf", "internal/reflectlite.Swapper", "(internal/reflectlite.Value).Len"], unfollowed := true, recurses := true, named := ["pub-droshky/pub/cid.Undef", "pub-droshky/pub/multihash.ErrTooShort", "pub-droshky/pub/multihash.ErrVarintBufferShort", "pub-droshky/pub/multihash.ErrVarintTooLong", "pub-droshky/pub/varint.ErrOverflow", "pub-droshky/pub/varint.ErrNotMinimal", "pub-droshky/pub/varint.ErrUnderflow", "pub-droshky/pub/llrb.pinf", "pub-droshky/pub/llrb.ninf"], apart := false, laid := [("pub-droshky/pub/llrb.ninf", laid_pub_droshky_pub_llrb_ninf), ("pub-droshky/pub/llrb.pinf", laid_pub_droshky_pub_llrb_pinf), ("pub-droshky/pub/varint.ErrOverflow", laid_pub_droshky_pub_varint_ErrOverflow), ("pub-droshky/pub/varint.ErrUnderflow", laid_pub_droshky_pub_varint_ErrUnderflow), ("pub-droshky/pub/varint.ErrNotMinimal", laid_pub_droshky_pub_varint_ErrNotMinimal), ("pub-droshky/pub/multihash.ErrTooShort", laid_pub_droshky_pub_multihash_ErrTooShort), ("pub-droshky/pub/multihash.ErrVarintBufferShort", laid_pub_droshky_pub_multihash_ErrVarintBufferShort), ("pub-droshky/pub/multihash.ErrVarintTooLong", laid_pub_droshky_pub_multihash_ErrVarintTooLong), ("pub-droshky/pub/cid.Undef", laid_pub_droshky_pub_cid_Undef)], narrowed := true }
def FnIiFlatBytesUptoSaid : Prop := fnIiFlatBytesUptoRow.holds Tryz.pinned (OpenSpec.upto fnIiFlatBytesSpec)

end Rows
end Go.Proofs.YtcljffldbnoljaaGreatDoor
