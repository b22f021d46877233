/-
  NARROWER THAN 'FOR EVERY INPUT', by the rows' own cells (each row's printed sentence says how): FnHuffAny: laid.
  DERIVED. THE GIVEN ROWS OF THIS SEAT. 1 by the template 'for every input the law returns true; each argument reads behind the call as it read before'; 0 by the template 'total and deterministic' (their statements: YtplgbfkpeampgaaGreatDoorTotals.lean).
  GIVEN WITH THE SEED: the statements are not yours to turn. If you find one false, say at which input.
  Laid BY PROGRAM, IN A SANDBOX (cutbox-rows.mjs): the forced cells as the released guide's own fill.sh prints them over the translation 4b2a4fa6f68f10b2… (all of the seat's roots in one cut). By AI agents, Wed Nov 11 2026. No macro, syntax, notation, axiom, sorry.
-/
import Derived.Test.YtplgbfkpeampgaaGreatDoorChecked
import GoSem.Claim
import GoSem.ClaimJoined
import GoSem.ClaimMapViews
import Derived.JoinedTies
import Derived.KernelRfl
namespace Go.Proofs.YtplgbfkpeampgaaGreatDoor
/- THE CELL 'sum', in the pinned program and in every row, IS THE sha256 OF THE DUMP (.gsa) THAT YtplgbfkpeampgaaGreatDoorProg.lean LOADS. Nothing in Lean hashes anything: it is a label: what it is worth is what the hold of that sum in a sandbox is worth. -/
noncomputable def Tryz.pinned : Pinned := { name := "ytplgbfkpeampgaagreatdoor", sum := "4b2a4fa6f68f10b2c8422934664def277233594fa8b1237989ae8e97a450d1d4", checked := Tryz.checked }
namespace Rows
def none {H : Type} : Left H := { results := [], args := [] }

/- WHAT THE LISTED PACKAGE-LEVEL VARIABLES READ AS WHEN THE CALL BEGINS. Each datum BY PROGRAM (the guide's laid-datum.mjs) off the statement by which the dump's own 'gosem.cut.vars' lays the variable. In a bare row this is a premise. The card (YtplgbfkpeampgaaGreatDoorCards.lean) ties it to the program's text. -/
def laid_io_ErrUnexpectedEOF {H : Type} : DataW H := .iface "*errors.errorString" (.ptr (.agg [.lit (.string [117, 110, 101, 120, 112, 101, 99, 116, 101, 100, 32, 69, 79, 70])]))
def laid_pub_pemmican_pub_compress_huff0_ErrTooBig {H : Type} : DataW H := .iface "*errors.errorString" (.ptr (.agg [.lit (.string [105, 110, 112, 117, 116, 32, 116, 111, 111, 32, 98, 105, 103])]))
def laid_pub_pemmican_pub_compress_huff0_ErrMaxDecodedSizeExceeded {H : Type} : DataW H := .iface "*errors.errorString" (.ptr (.agg [.lit (.string [109, 97, 120, 105, 109, 117, 109, 32, 111, 117, 116, 112, 117, 116, 32, 115, 105, 122, 101, 32, 101, 120, 99, 101, 101, 100, 101, 100])]))

/-- 'laws.FnHuffAny': WHATEVER THE INPUT: true; the input reads as it did. -/
def fnHuffAnySpec : ChangeSpec := { name := "fnHuffAny", fn := fun _ => fun
  | [d1, d2, d3, d4] => { results := [.lit (.bool true)], args := [d1, d2, d3, d4] }
  | _ => none }
def fnHuffAnyRow : OpenClaim := { program := "ytplgbfkpeampgaagreatdoor", sum := "4b2a4fa6f68f10b2c8422934664def277233594fa8b1237989ae8e97a450d1d4", func := "pub-pemmican/laws.FnHuffAny", spec := "fnHuffAny", recurses := true, named := ["pub-pemmican/pub/compress/huff0.ErrTooBig", "encoding/binary.LittleEndian", "io.ErrUnexpectedEOF", "pub-pemmican/pub/compress/huff0.ErrMaxDecodedSizeExceeded"], apart := false, laid := [("io.ErrUnexpectedEOF", laid_io_ErrUnexpectedEOF), ("pub-pemmican/pub/compress/huff0.ErrTooBig", laid_pub_pemmican_pub_compress_huff0_ErrTooBig), ("pub-pemmican/pub/compress/huff0.ErrMaxDecodedSizeExceeded", laid_pub_pemmican_pub_compress_huff0_ErrMaxDecodedSizeExceeded)] }
def FnHuffAnySaid : Prop := fnHuffAnyRow.holds Tryz.pinned (OpenSpec.ofChange fnHuffAnySpec)

/-- ITS FALSE NEIGHBOUR: 'it returns false'. Refute it at one input. -/
def fnHuffAnyWrong : ChangeSpec := { name := "fnHuffAny", fn := fun _ => fun
  | [d1, d2, d3, d4] => { results := [.lit (.bool false)], args := [d1, d2, d3, d4] }
  | _ => none }
def FnHuffAnyWrongFalsely : Prop := fnHuffAnyRow.holds Tryz.pinned (OpenSpec.ofChange fnHuffAnyWrong)

/- THE SECOND FORM. 'bulk': how many values and letters a reading holds, each counted each time it is reached (what is shared counts as often as it is met; a slice's spare places count too). A statement '..UptoSaid' is the law's where the arguments, and the package variables that the reading takes, are together of bulk at most 1048576: NARROWER than '..Said'. Prove '..Said' where nothing that the law and all that it calls make is longer than what came in: it says more and counts as full. Else prove '..UptoSaid'. A law counts once. -/
mutual
def uptoBulk {H : Type} : DataW H → Nat
  | .lit (.string bytes) => bytes.length + 1
  | .lit _ => 1
  | .nil => 1
  | .ptr d => uptoBulk d + 1
  | .slice elems spare => uptoBulkAll elems + uptoBulkAll spare + 1
  | .agg parts => uptoBulkAll parts + 1
  | .iface _ d => uptoBulk d + 1
  | .map entries => uptoBulkEntries entries + 1
  | .held _ => 1
def uptoBulkAll {H : Type} : List (DataW H) → Nat
  | [] => 0
  | d :: r => uptoBulk d + uptoBulkAll r
def uptoBulkEntries {H : Type} : List (Lit × DataW H) → Nat
  | [] => 0
  | x :: r => uptoBulkEntry x + uptoBulkEntries r
def uptoBulkEntry {H : Type} : Lit × DataW H → Nat
  | (.string bytes, d) => bytes.length + uptoBulk d + 1
  | (_, d) => uptoBulk d + 1
 end
def uptoSmall : (H : Type) → List (DataW H) → Bool := fun _ ds => decide (uptoBulkAll ds ≤ 1048576)
def OpenSpec.upto (s : _root_.Go.ChangeSpec) : _root_.Go.OpenSpec := { _root_.Go.OpenSpec.ofChange s with cond := some uptoSmall }

/-- 'laws.FnHuffAny', WHERE WHAT IT READS IS OF BULK AT MOST 1048576: true; the input reads as it did. -/
def fnHuffAnyUptoRow : OpenClaim := { program := "ytplgbfkpeampgaagreatdoor", sum := "4b2a4fa6f68f10b2c8422934664def277233594fa8b1237989ae8e97a450d1d4", func := "pub-pemmican/laws.FnHuffAny", spec := "fnHuffAny", recurses := true, named := ["pub-pemmican/pub/compress/huff0.ErrTooBig", "encoding/binary.LittleEndian", "io.ErrUnexpectedEOF", "pub-pemmican/pub/compress/huff0.ErrMaxDecodedSizeExceeded"], apart := false, laid := [("io.ErrUnexpectedEOF", laid_io_ErrUnexpectedEOF), ("pub-pemmican/pub/compress/huff0.ErrTooBig", laid_pub_pemmican_pub_compress_huff0_ErrTooBig), ("pub-pemmican/pub/compress/huff0.ErrMaxDecodedSizeExceeded", laid_pub_pemmican_pub_compress_huff0_ErrMaxDecodedSizeExceeded)], narrowed := true }
def FnHuffAnyUptoSaid : Prop := fnHuffAnyUptoRow.holds Tryz.pinned (OpenSpec.upto fnHuffAnySpec)

end Rows
end Go.Proofs.YtplgbfkpeampgaaGreatDoor
