/-
  DERIVED. GIVEN WITH THE SEED: THE PROGRAM's TIES (one call each: nine closed facts by the kernel) AND EACH ROW's TIE, after the 31st guide's Derived/Test/Toyas{Tie, Card}.lean. No idea stands in it: it is a product of the set-up. Laid BY PROGRAM, IN A SANDBOX (cutbox-door.mjs). By AI agents, Wed Nov 11 2026. No macro, syntax, notation, axiom, sorry.
-/
import Derived.Test.YtljjbikbfeigdaaGreatDoorRows
import Derived.LaidByTextLater
import Derived.SevenTiedAt
import Derived.LaidSub
import Derived.LaidOnce
namespace Go.Proofs.YtljjbikbfeigdaaGreatDoor
open Go
set_option maxRecDepth 100000
theorem seatTie1 : Tryz.prog.laidByTextLater [("errors.errorType", Rows.laid_errors_errorType), ("jpegcodec/pub/jpeg.unzig", Rows.laid_jpegcodec_pub_jpeg_unzig), ("jpegcodec/pub/jpeg.bitCount", Rows.laid_jpegcodec_pub_jpeg_bitCount), ("jpegcodec/pub/jpeg.unscaledQuant", Rows.laid_jpegcodec_pub_jpeg_unscaledQuant)] [.handle, .data, .data, .data] true :=
  Program.laidByTextLater_by_one 80 8 257 (by kernel_rfl) (by kernel_rfl) (by kernel_rfl) (by kernel_rfl) (by kernel_rfl) (by kernel_rfl) (fun _ _ => by kernel_rfl)
theorem seatTie2 : Tryz.prog.laidByTextLater [("jpegcodec/spec.basis", Rows.laid_jpegcodec_spec_basis), ("jpegcodec/spec.zigzag", Rows.laid_jpegcodec_spec_zigzag), ("errors.errorType", Rows.laid_errors_errorType), ("jpegcodec/pub/jpeg.unzig", Rows.laid_jpegcodec_pub_jpeg_unzig), ("jpegcodec/pub/jpeg.bitCount", Rows.laid_jpegcodec_pub_jpeg_bitCount), ("jpegcodec/pub/jpeg.unscaledQuant", Rows.laid_jpegcodec_pub_jpeg_unscaledQuant)] [.data, .data, .handle, .data, .data, .data] true :=
  Program.laidByTextLater_by_one 80 8 257 (by kernel_rfl) (by kernel_rfl) (by kernel_rfl) (by kernel_rfl) (by kernel_rfl) (by kernel_rfl) (fun _ _ => by kernel_rfl)
theorem noOwnUnsafe : Tryz.pinned.checked.prog.headLifts.contains "ownunsafe" = false := by kernel_rfl
theorem tie : Tryz.prog.laidByTextLater [("errors.errorType", Rows.laid_errors_errorType), ("jpegcodec/pub/jpeg.unzig", Rows.laid_jpegcodec_pub_jpeg_unzig), ("jpegcodec/pub/jpeg.bitCount", Rows.laid_jpegcodec_pub_jpeg_bitCount), ("jpegcodec/pub/jpeg.unscaledQuant", Rows.laid_jpegcodec_pub_jpeg_unscaledQuant)] [.handle, .data, .data, .data] true :=
  Program.laidByTextLater.sub seatTie1 ["errors.errorType", "jpegcodec/pub/jpeg.unzig", "jpegcodec/pub/jpeg.bitCount", "jpegcodec/pub/jpeg.unscaledQuant"] (by kernel_rfl) (by kernel_rfl)
theorem fnFlatBlocks_row_tie : Rows.fnFlatBlocksRow.laidByTextAt .later Tryz.pinned [.handle, .data, .data, .data] true :=
  OpenClaim.laidByTextAt_later rfl rfl tie noOwnUnsafe
theorem fnGrayStream_row_tie : Rows.fnGrayStreamRow.laidByTextAt .later Tryz.pinned [.handle, .data, .data, .data] true :=
  OpenClaim.laidByTextAt_later rfl rfl tie noOwnUnsafe
theorem fnColorStream_row_tie : Rows.fnColorStreamRow.laidByTextAt .later Tryz.pinned [.handle, .data, .data, .data] true :=
  OpenClaim.laidByTextAt_later rfl rfl tie noOwnUnsafe
theorem fnQualityOrder_row_tie : Rows.fnQualityOrderRow.laidByTextAt .later Tryz.pinned [.handle, .data, .data, .data] true :=
  OpenClaim.laidByTextAt_later rfl rfl tie noOwnUnsafe
theorem tie2 : Tryz.prog.laidByTextLater [("jpegcodec/spec.basis", Rows.laid_jpegcodec_spec_basis), ("jpegcodec/spec.zigzag", Rows.laid_jpegcodec_spec_zigzag), ("errors.errorType", Rows.laid_errors_errorType), ("jpegcodec/pub/jpeg.unzig", Rows.laid_jpegcodec_pub_jpeg_unzig), ("jpegcodec/pub/jpeg.bitCount", Rows.laid_jpegcodec_pub_jpeg_bitCount), ("jpegcodec/pub/jpeg.unscaledQuant", Rows.laid_jpegcodec_pub_jpeg_unscaledQuant)] [.data, .data, .handle, .data, .data, .data] true :=
  Program.laidByTextLater.sub seatTie2 ["jpegcodec/spec.basis", "jpegcodec/spec.zigzag", "errors.errorType", "jpegcodec/pub/jpeg.unzig", "jpegcodec/pub/jpeg.bitCount", "jpegcodec/pub/jpeg.unscaledQuant"] (by kernel_rfl) (by kernel_rfl)
theorem fnGrayCoefficients_row_tie : Rows.fnGrayCoefficientsRow.laidByTextAt .later Tryz.pinned [.data, .data, .handle, .data, .data, .data] true :=
  OpenClaim.laidByTextAt_later rfl rfl tie2 noOwnUnsafe
theorem fnGrayEdges_row_tie : Rows.fnGrayEdgesRow.laidByTextAt .later Tryz.pinned [.data, .data, .handle, .data, .data, .data] true :=
  OpenClaim.laidByTextAt_later rfl rfl tie2 noOwnUnsafe
theorem fnColorCoefficients_row_tie : Rows.fnColorCoefficientsRow.laidByTextAt .later Tryz.pinned [.data, .data, .handle, .data, .data, .data] true :=
  OpenClaim.laidByTextAt_later rfl rfl tie2 noOwnUnsafe
theorem fnColorEdges_row_tie : Rows.fnColorEdgesRow.laidByTextAt .later Tryz.pinned [.data, .data, .handle, .data, .data, .data] true :=
  OpenClaim.laidByTextAt_later rfl rfl tie2 noOwnUnsafe
theorem fnFlatBlocksUpto_row_tie : Rows.fnFlatBlocksUptoRow.laidByTextAt .later Tryz.pinned [.handle, .data, .data, .data] true :=
  OpenClaim.laidByTextAt_later rfl rfl tie noOwnUnsafe
theorem fnGrayCoefficientsUpto_row_tie : Rows.fnGrayCoefficientsUptoRow.laidByTextAt .later Tryz.pinned [.data, .data, .handle, .data, .data, .data] true :=
  OpenClaim.laidByTextAt_later rfl rfl tie2 noOwnUnsafe
theorem fnGrayEdgesUpto_row_tie : Rows.fnGrayEdgesUptoRow.laidByTextAt .later Tryz.pinned [.data, .data, .handle, .data, .data, .data] true :=
  OpenClaim.laidByTextAt_later rfl rfl tie2 noOwnUnsafe
theorem fnGrayStreamUpto_row_tie : Rows.fnGrayStreamUptoRow.laidByTextAt .later Tryz.pinned [.handle, .data, .data, .data] true :=
  OpenClaim.laidByTextAt_later rfl rfl tie noOwnUnsafe
theorem fnColorCoefficientsUpto_row_tie : Rows.fnColorCoefficientsUptoRow.laidByTextAt .later Tryz.pinned [.data, .data, .handle, .data, .data, .data] true :=
  OpenClaim.laidByTextAt_later rfl rfl tie2 noOwnUnsafe
theorem fnColorEdgesUpto_row_tie : Rows.fnColorEdgesUptoRow.laidByTextAt .later Tryz.pinned [.data, .data, .handle, .data, .data, .data] true :=
  OpenClaim.laidByTextAt_later rfl rfl tie2 noOwnUnsafe
theorem fnColorStreamUpto_row_tie : Rows.fnColorStreamUptoRow.laidByTextAt .later Tryz.pinned [.handle, .data, .data, .data] true :=
  OpenClaim.laidByTextAt_later rfl rfl tie noOwnUnsafe
theorem fnQualityOrderUpto_row_tie : Rows.fnQualityOrderUptoRow.laidByTextAt .later Tryz.pinned [.handle, .data, .data, .data] true :=
  OpenClaim.laidByTextAt_later rfl rfl tie noOwnUnsafe
end Go.Proofs.YtljjbikbfeigdaaGreatDoor
