/-
  DERIVED. GIVEN WITH THE SEED: THE PROGRAM's TIES (one call each: nine closed facts by the kernel) AND EACH ROW's TIE, after the 31st guide's Derived/Test/Toyas{Tie, Card}.lean. No idea stands in it: it is a product of the set-up. Laid BY PROGRAM, IN A SANDBOX (cutbox-door.mjs). By AI agents, Wed Nov 11 2026. No macro, syntax, notation, axiom, sorry.
-/
import Derived.Test.YtekcchgffhphbaaGreatDoorRows
import Derived.LaidByTextLater
import Derived.SevenTiedAt
import Derived.LaidSub
import Derived.LaidOnce
namespace Go.Proofs.YtekcchgffhphbaaGreatDoor
open Go
set_option maxRecDepth 100000
theorem seatTie1 : Tryz.prog.laidByTextLater [("io.ErrUnexpectedEOF", Rows.laid_io_ErrUnexpectedEOF), ("pub-pemmican/pub/compress/fse.bitMask16", Rows.laid_pub_pemmican_pub_compress_fse_bitMask16), ("pub-pemmican/pub/compress/fse.rtbTable", Rows.laid_pub_pemmican_pub_compress_fse_rtbTable), ("pub-pemmican/pub/compress/fse.ErrIncompressible", Rows.laid_pub_pemmican_pub_compress_fse_ErrIncompressible), ("pub-pemmican/pub/compress/fse.ErrUseRLE", Rows.laid_pub_pemmican_pub_compress_fse_ErrUseRLE), ("pub-pemmican/pub/compress/huff0.ErrIncompressible", Rows.laid_pub_pemmican_pub_compress_huff0_ErrIncompressible), ("pub-pemmican/pub/compress/huff0.ErrUseRLE", Rows.laid_pub_pemmican_pub_compress_huff0_ErrUseRLE), ("pub-pemmican/pub/compress/huff0.ErrTooBig", Rows.laid_pub_pemmican_pub_compress_huff0_ErrTooBig), ("pub-pemmican/pub/compress/huff0.ErrMaxDecodedSizeExceeded", Rows.laid_pub_pemmican_pub_compress_huff0_ErrMaxDecodedSizeExceeded)] [.sentinel, .data, .data, .sentinel, .sentinel, .sentinel, .sentinel, .sentinel, .sentinel] true :=
  Program.laidByTextLater_by_one 152 8 33 (by kernel_rfl) (by kernel_rfl) (by kernel_rfl) (by kernel_rfl) (by kernel_rfl) (by kernel_rfl) (fun _ _ => by kernel_rfl)
theorem noOwnUnsafe : Tryz.pinned.checked.prog.headLifts.contains "ownunsafe" = false := by kernel_rfl
theorem tie : Tryz.prog.laidByTextLater [("io.ErrUnexpectedEOF", Rows.laid_io_ErrUnexpectedEOF), ("pub-pemmican/pub/compress/fse.bitMask16", Rows.laid_pub_pemmican_pub_compress_fse_bitMask16), ("pub-pemmican/pub/compress/fse.rtbTable", Rows.laid_pub_pemmican_pub_compress_fse_rtbTable), ("pub-pemmican/pub/compress/fse.ErrIncompressible", Rows.laid_pub_pemmican_pub_compress_fse_ErrIncompressible), ("pub-pemmican/pub/compress/fse.ErrUseRLE", Rows.laid_pub_pemmican_pub_compress_fse_ErrUseRLE), ("pub-pemmican/pub/compress/huff0.ErrIncompressible", Rows.laid_pub_pemmican_pub_compress_huff0_ErrIncompressible), ("pub-pemmican/pub/compress/huff0.ErrUseRLE", Rows.laid_pub_pemmican_pub_compress_huff0_ErrUseRLE), ("pub-pemmican/pub/compress/huff0.ErrTooBig", Rows.laid_pub_pemmican_pub_compress_huff0_ErrTooBig), ("pub-pemmican/pub/compress/huff0.ErrMaxDecodedSizeExceeded", Rows.laid_pub_pemmican_pub_compress_huff0_ErrMaxDecodedSizeExceeded)] [.sentinel, .data, .data, .sentinel, .sentinel, .sentinel, .sentinel, .sentinel, .sentinel] true :=
  Program.laidByTextLater.sub seatTie1 ["io.ErrUnexpectedEOF", "pub-pemmican/pub/compress/fse.bitMask16", "pub-pemmican/pub/compress/fse.rtbTable", "pub-pemmican/pub/compress/fse.ErrIncompressible", "pub-pemmican/pub/compress/fse.ErrUseRLE", "pub-pemmican/pub/compress/huff0.ErrIncompressible", "pub-pemmican/pub/compress/huff0.ErrUseRLE", "pub-pemmican/pub/compress/huff0.ErrTooBig", "pub-pemmican/pub/compress/huff0.ErrMaxDecodedSizeExceeded"] (by kernel_rfl) (by kernel_rfl)
theorem fnHuffBack_row_tie : Rows.fnHuffBackRow.laidByTextAt .later Tryz.pinned [.sentinel, .data, .data, .sentinel, .sentinel, .sentinel, .sentinel, .sentinel, .sentinel] true :=
  OpenClaim.laidByTextAt_later rfl rfl tie noOwnUnsafe
theorem fnHuffFour_row_tie : Rows.fnHuffFourRow.laidByTextAt .later Tryz.pinned [.sentinel, .data, .data, .sentinel, .sentinel, .sentinel, .sentinel, .sentinel, .sentinel] true :=
  OpenClaim.laidByTextAt_later rfl rfl tie noOwnUnsafe
theorem fnHuffSplits_row_tie : Rows.fnHuffSplitsRow.laidByTextAt .later Tryz.pinned [.sentinel, .data, .data, .sentinel, .sentinel, .sentinel, .sentinel, .sentinel, .sentinel] true :=
  OpenClaim.laidByTextAt_later rfl rfl tie noOwnUnsafe
theorem fnHuffScript_row_tie : Rows.fnHuffScriptRow.laidByTextAt .later Tryz.pinned [.sentinel, .data, .data, .sentinel, .sentinel, .sentinel, .sentinel, .sentinel, .sentinel] true :=
  OpenClaim.laidByTextAt_later rfl rfl tie noOwnUnsafe
theorem fnHuffTransfer_row_tie : Rows.fnHuffTransferRow.laidByTextAt .later Tryz.pinned [.sentinel, .data, .data, .sentinel, .sentinel, .sentinel, .sentinel, .sentinel, .sentinel] true :=
  OpenClaim.laidByTextAt_later rfl rfl tie noOwnUnsafe
theorem fnHuffMust_row_tie : Rows.fnHuffMustRow.laidByTextAt .later Tryz.pinned [.sentinel, .data, .data, .sentinel, .sentinel, .sentinel, .sentinel, .sentinel, .sentinel] true :=
  OpenClaim.laidByTextAt_later rfl rfl tie noOwnUnsafe
theorem fnHuffOneDecoder_row_tie : Rows.fnHuffOneDecoderRow.laidByTextAt .later Tryz.pinned [.sentinel, .data, .data, .sentinel, .sentinel, .sentinel, .sentinel, .sentinel, .sentinel] true :=
  OpenClaim.laidByTextAt_later rfl rfl tie noOwnUnsafe
theorem fnHuffBackUpto_row_tie : Rows.fnHuffBackUptoRow.laidByTextAt .later Tryz.pinned [.sentinel, .data, .data, .sentinel, .sentinel, .sentinel, .sentinel, .sentinel, .sentinel] true :=
  OpenClaim.laidByTextAt_later rfl rfl tie noOwnUnsafe
theorem fnHuffFourUpto_row_tie : Rows.fnHuffFourUptoRow.laidByTextAt .later Tryz.pinned [.sentinel, .data, .data, .sentinel, .sentinel, .sentinel, .sentinel, .sentinel, .sentinel] true :=
  OpenClaim.laidByTextAt_later rfl rfl tie noOwnUnsafe
theorem fnHuffSplitsUpto_row_tie : Rows.fnHuffSplitsUptoRow.laidByTextAt .later Tryz.pinned [.sentinel, .data, .data, .sentinel, .sentinel, .sentinel, .sentinel, .sentinel, .sentinel] true :=
  OpenClaim.laidByTextAt_later rfl rfl tie noOwnUnsafe
theorem fnHuffScriptUpto_row_tie : Rows.fnHuffScriptUptoRow.laidByTextAt .later Tryz.pinned [.sentinel, .data, .data, .sentinel, .sentinel, .sentinel, .sentinel, .sentinel, .sentinel] true :=
  OpenClaim.laidByTextAt_later rfl rfl tie noOwnUnsafe
theorem fnHuffTransferUpto_row_tie : Rows.fnHuffTransferUptoRow.laidByTextAt .later Tryz.pinned [.sentinel, .data, .data, .sentinel, .sentinel, .sentinel, .sentinel, .sentinel, .sentinel] true :=
  OpenClaim.laidByTextAt_later rfl rfl tie noOwnUnsafe
theorem fnHuffMustUpto_row_tie : Rows.fnHuffMustUptoRow.laidByTextAt .later Tryz.pinned [.sentinel, .data, .data, .sentinel, .sentinel, .sentinel, .sentinel, .sentinel, .sentinel] true :=
  OpenClaim.laidByTextAt_later rfl rfl tie noOwnUnsafe
theorem fnHuffOneDecoderUpto_row_tie : Rows.fnHuffOneDecoderUptoRow.laidByTextAt .later Tryz.pinned [.sentinel, .data, .data, .sentinel, .sentinel, .sentinel, .sentinel, .sentinel, .sentinel] true :=
  OpenClaim.laidByTextAt_later rfl rfl tie noOwnUnsafe
end Go.Proofs.YtekcchgffhphbaaGreatDoor
