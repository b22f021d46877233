/-
  NARROWER THAN 'FOR EVERY INPUT', by the rows' own cells (each row's printed sentence says how): FnHuffCoded: laid.
  DERIVED. THE GIVEN ROWS OF THIS SEAT. 1 by the template 'for every input the law returns true; each argument reads behind the call as it read before'; 0 by the template 'total and deterministic' (their statements: YtaphmhiddngdoaaGreatDoorTotals.lean).
  GIVEN WITH THE SEED: the statements are not yours to turn. If you find one false, say at which input.
  Laid BY PROGRAM, IN A SANDBOX (cutbox-rows.mjs): the forced cells as the released guide's own fill.sh prints them over the translation 07d658a07cc30c38… (all of the seat's roots in one cut). By AI agents, Wed Nov 11 2026. No macro, syntax, notation, axiom, sorry.
-/
import Derived.Test.YtaphmhiddngdoaaGreatDoorChecked
import GoSem.Claim
import GoSem.ClaimJoined
import GoSem.ClaimMapViews
import Derived.JoinedTies
import Derived.KernelRfl
namespace Go.Proofs.YtaphmhiddngdoaaGreatDoor
/- THE CELL 'sum', in the pinned program and in every row, IS THE sha256 OF THE DUMP (.gsa) THAT YtaphmhiddngdoaaGreatDoorProg.lean LOADS. Nothing in Lean hashes anything: it is a label: what it is worth is what the hold of that sum in a sandbox is worth. -/
noncomputable def Tryz.pinned : Pinned := { name := "ytaphmhiddngdoaagreatdoor", sum := "07d658a07cc30c38c931fb158eb3f319040b6917a87ea33e9dae7da4c8257f19", checked := Tryz.checked }
namespace Rows
def none {H : Type} : Left H := { results := [], args := [] }

/- WHAT THE LISTED PACKAGE-LEVEL VARIABLES READ AS WHEN THE CALL BEGINS. Each datum BY PROGRAM (the guide's laid-datum.mjs) off the statement by which the dump's own 'gosem.cut.vars' lays the variable. In a bare row this is a premise. The card (YtaphmhiddngdoaaGreatDoorCards.lean) ties it to the program's text. -/
def laid_io_ErrUnexpectedEOF {H : Type} : DataW H := .iface "*errors.errorString" (.ptr (.agg [.lit (.string [117, 110, 101, 120, 112, 101, 99, 116, 101, 100, 32, 69, 79, 70])]))
def laid_pub_pemmican_pub_compress_fse_bitMask16 {H : Type} : DataW H := .agg [.lit (.int .u16 0), .lit (.int .u16 1), .lit (.int .u16 3), .lit (.int .u16 7), .lit (.int .u16 15), .lit (.int .u16 31), .lit (.int .u16 63), .lit (.int .u16 127), .lit (.int .u16 255), .lit (.int .u16 511), .lit (.int .u16 1023), .lit (.int .u16 2047), .lit (.int .u16 4095), .lit (.int .u16 8191), .lit (.int .u16 16383), .lit (.int .u16 32767), .lit (.int .u16 65535), .lit (.int .u16 65535), .lit (.int .u16 65535), .lit (.int .u16 65535), .lit (.int .u16 65535), .lit (.int .u16 65535), .lit (.int .u16 65535), .lit (.int .u16 65535), .lit (.int .u16 65535), .lit (.int .u16 65535), .lit (.int .u16 0), .lit (.int .u16 0), .lit (.int .u16 0), .lit (.int .u16 0), .lit (.int .u16 0), .lit (.int .u16 0)]
def laid_pub_pemmican_pub_compress_fse_rtbTable {H : Type} : DataW H := .agg [.lit (.int .u32 0), .lit (.int .u32 473195), .lit (.int .u32 504333), .lit (.int .u32 520860), .lit (.int .u32 550000), .lit (.int .u32 700000), .lit (.int .u32 750000), .lit (.int .u32 830000)]
def laid_pub_pemmican_pub_compress_fse_ErrIncompressible {H : Type} : DataW H := .iface "*errors.errorString" (.ptr (.agg [.lit (.string [105, 110, 112, 117, 116, 32, 105, 115, 32, 110, 111, 116, 32, 99, 111, 109, 112, 114, 101, 115, 115, 105, 98, 108, 101])]))
def laid_pub_pemmican_pub_compress_fse_ErrUseRLE {H : Type} : DataW H := .iface "*errors.errorString" (.ptr (.agg [.lit (.string [105, 110, 112, 117, 116, 32, 105, 115, 32, 115, 105, 110, 103, 108, 101, 32, 118, 97, 108, 117, 101, 32, 114, 101, 112, 101, 97, 116, 101, 100])]))
def laid_pub_pemmican_pub_compress_huff0_ErrIncompressible {H : Type} : DataW H := .iface "*errors.errorString" (.ptr (.agg [.lit (.string [105, 110, 112, 117, 116, 32, 105, 115, 32, 110, 111, 116, 32, 99, 111, 109, 112, 114, 101, 115, 115, 105, 98, 108, 101])]))
def laid_pub_pemmican_pub_compress_huff0_ErrUseRLE {H : Type} : DataW H := .iface "*errors.errorString" (.ptr (.agg [.lit (.string [105, 110, 112, 117, 116, 32, 105, 115, 32, 115, 105, 110, 103, 108, 101, 32, 118, 97, 108, 117, 101, 32, 114, 101, 112, 101, 97, 116, 101, 100])]))
def laid_pub_pemmican_pub_compress_huff0_ErrTooBig {H : Type} : DataW H := .iface "*errors.errorString" (.ptr (.agg [.lit (.string [105, 110, 112, 117, 116, 32, 116, 111, 111, 32, 98, 105, 103])]))
def laid_pub_pemmican_pub_compress_huff0_ErrMaxDecodedSizeExceeded {H : Type} : DataW H := .iface "*errors.errorString" (.ptr (.agg [.lit (.string [109, 97, 120, 105, 109, 117, 109, 32, 111, 117, 116, 112, 117, 116, 32, 115, 105, 122, 101, 32, 101, 120, 99, 101, 101, 100, 101, 100])]))

/-- 'laws.FnHuffCoded': WHATEVER THE INPUT: true; the input reads as it did. -/
def fnHuffCodedSpec : ChangeSpec := { name := "fnHuffCoded", fn := fun _ => fun
  | [d1, d2] => { results := [.lit (.bool true)], args := [d1, d2] }
  | _ => none }
def fnHuffCodedRow : OpenClaim := { program := "ytaphmhiddngdoaagreatdoor", sum := "07d658a07cc30c38c931fb158eb3f319040b6917a87ea33e9dae7da4c8257f19", func := "pub-pemmican/laws.FnHuffCoded", spec := "fnHuffCoded", named := ["pub-pemmican/pub/compress/huff0.ErrUseRLE", "pub-pemmican/pub/compress/huff0.ErrTooBig", "pub-pemmican/pub/compress/huff0.ErrIncompressible", "pub-pemmican/pub/compress/fse.ErrIncompressible", "pub-pemmican/pub/compress/fse.ErrUseRLE", "pub-pemmican/pub/compress/fse.rtbTable", "pub-pemmican/pub/compress/fse.bitMask16", "encoding/binary.LittleEndian", "io.ErrUnexpectedEOF", "pub-pemmican/pub/compress/huff0.ErrMaxDecodedSizeExceeded"], apart := false, laid := [("io.ErrUnexpectedEOF", laid_io_ErrUnexpectedEOF), ("pub-pemmican/pub/compress/fse.bitMask16", laid_pub_pemmican_pub_compress_fse_bitMask16), ("pub-pemmican/pub/compress/fse.rtbTable", laid_pub_pemmican_pub_compress_fse_rtbTable), ("pub-pemmican/pub/compress/fse.ErrIncompressible", laid_pub_pemmican_pub_compress_fse_ErrIncompressible), ("pub-pemmican/pub/compress/fse.ErrUseRLE", laid_pub_pemmican_pub_compress_fse_ErrUseRLE), ("pub-pemmican/pub/compress/huff0.ErrIncompressible", laid_pub_pemmican_pub_compress_huff0_ErrIncompressible), ("pub-pemmican/pub/compress/huff0.ErrUseRLE", laid_pub_pemmican_pub_compress_huff0_ErrUseRLE), ("pub-pemmican/pub/compress/huff0.ErrTooBig", laid_pub_pemmican_pub_compress_huff0_ErrTooBig), ("pub-pemmican/pub/compress/huff0.ErrMaxDecodedSizeExceeded", laid_pub_pemmican_pub_compress_huff0_ErrMaxDecodedSizeExceeded)] }
def FnHuffCodedSaid : Prop := fnHuffCodedRow.holds Tryz.pinned (OpenSpec.ofChange fnHuffCodedSpec)

/-- ITS FALSE NEIGHBOUR: 'it returns false'. Refute it at one input. -/
def fnHuffCodedWrong : ChangeSpec := { name := "fnHuffCoded", fn := fun _ => fun
  | [d1, d2] => { results := [.lit (.bool false)], args := [d1, d2] }
  | _ => none }
def FnHuffCodedWrongFalsely : Prop := fnHuffCodedRow.holds Tryz.pinned (OpenSpec.ofChange fnHuffCodedWrong)

/- THE SECOND FORM. 'bulk': how many values and letters a reading holds, each counted each time it is reached (what is shared counts as often as it is met; a slice's spare places count too). A statement '..UptoSaid' is the law's where the arguments, and the package variables that the reading takes, are together of bulk at most 1048576: NARROWER than '..Said'. Prove '..Said' where nothing that the law and all that it calls make is longer than what came in: it says more and counts as full. Else prove '..UptoSaid'. A law counts once. -/
mutual
def uptoBulk {H : Type} : DataW H → Nat
  | .lit (.string bytes) => bytes.length + 1
  | .lit _ => 1
  | .nil => 1
  | .ptr d => uptoBulk d + 1
  | .slice elems spare => uptoBulkAll elems + uptoBulkAll spare + 1
  | .agg parts => uptoBulkAll parts + 1
  | .iface _ d => uptoBulk d + 1
  | .map entries => uptoBulkEntries entries + 1
  | .held _ => 1
def uptoBulkAll {H : Type} : List (DataW H) → Nat
  | [] => 0
  | d :: r => uptoBulk d + uptoBulkAll r
def uptoBulkEntries {H : Type} : List (Lit × DataW H) → Nat
  | [] => 0
  | x :: r => uptoBulkEntry x + uptoBulkEntries r
def uptoBulkEntry {H : Type} : Lit × DataW H → Nat
  | (.string bytes, d) => bytes.length + uptoBulk d + 1
  | (_, d) => uptoBulk d + 1
 end
def uptoSmall : (H : Type) → List (DataW H) → Bool := fun _ ds => decide (uptoBulkAll ds ≤ 1048576)
def OpenSpec.upto (s : _root_.Go.ChangeSpec) : _root_.Go.OpenSpec := { _root_.Go.OpenSpec.ofChange s with cond := some uptoSmall }

/-- 'laws.FnHuffCoded', WHERE WHAT IT READS IS OF BULK AT MOST 1048576: true; the input reads as it did. -/
def fnHuffCodedUptoRow : OpenClaim := { program := "ytaphmhiddngdoaagreatdoor", sum := "07d658a07cc30c38c931fb158eb3f319040b6917a87ea33e9dae7da4c8257f19", func := "pub-pemmican/laws.FnHuffCoded", spec := "fnHuffCoded", named := ["pub-pemmican/pub/compress/huff0.ErrUseRLE", "pub-pemmican/pub/compress/huff0.ErrTooBig", "pub-pemmican/pub/compress/huff0.ErrIncompressible", "pub-pemmican/pub/compress/fse.ErrIncompressible", "pub-pemmican/pub/compress/fse.ErrUseRLE", "pub-pemmican/pub/compress/fse.rtbTable", "pub-pemmican/pub/compress/fse.bitMask16", "encoding/binary.LittleEndian", "io.ErrUnexpectedEOF", "pub-pemmican/pub/compress/huff0.ErrMaxDecodedSizeExceeded"], apart := false, laid := [("io.ErrUnexpectedEOF", laid_io_ErrUnexpectedEOF), ("pub-pemmican/pub/compress/fse.bitMask16", laid_pub_pemmican_pub_compress_fse_bitMask16), ("pub-pemmican/pub/compress/fse.rtbTable", laid_pub_pemmican_pub_compress_fse_rtbTable), ("pub-pemmican/pub/compress/fse.ErrIncompressible", laid_pub_pemmican_pub_compress_fse_ErrIncompressible), ("pub-pemmican/pub/compress/fse.ErrUseRLE", laid_pub_pemmican_pub_compress_fse_ErrUseRLE), ("pub-pemmican/pub/compress/huff0.ErrIncompressible", laid_pub_pemmican_pub_compress_huff0_ErrIncompressible), ("pub-pemmican/pub/compress/huff0.ErrUseRLE", laid_pub_pemmican_pub_compress_huff0_ErrUseRLE), ("pub-pemmican/pub/compress/huff0.ErrTooBig", laid_pub_pemmican_pub_compress_huff0_ErrTooBig), ("pub-pemmican/pub/compress/huff0.ErrMaxDecodedSizeExceeded", laid_pub_pemmican_pub_compress_huff0_ErrMaxDecodedSizeExceeded)], narrowed := true }
def FnHuffCodedUptoSaid : Prop := fnHuffCodedUptoRow.holds Tryz.pinned (OpenSpec.upto fnHuffCodedSpec)

end Rows
end Go.Proofs.YtaphmhiddngdoaaGreatDoor
