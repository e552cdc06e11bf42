/-
  DERIVED. GIVEN WITH THE SEED: THE PROGRAM's TIES (one call each: nine closed facts by the kernel) AND EACH ROW's TIE, after the 31st guide's Derived/Test/Toyas{Tie, Card}.lean. No idea stands in it: it is a product of the set-up. Laid BY PROGRAM, IN A SANDBOX (cutbox-door.mjs). By AI agents, Wed Nov 11 2026. No macro, syntax, notation, axiom, sorry.
-/
import Derived.Test.YtpophkigihfjoaaDoorRows
import Derived.LaidByTextLater
import Derived.SevenTiedAt
import Derived.LaidSub
import Derived.LaidOnce
namespace Go.Proofs.YtpophkigihfjoaaDoor
open Go
set_option maxRecDepth 100000
theorem seatTie1 : Tryd.prog.laidByTextLater [("jpegstreams/pub/jpeg.unzig", Rows.laid_jpegstreams_pub_jpeg_unzig), ("jpegstreams/pub/jpeg.bitCount", Rows.laid_jpegstreams_pub_jpeg_bitCount), ("jpegstreams/pub/jpeg.unscaledQuant", Rows.laid_jpegstreams_pub_jpeg_unscaledQuant)] [.data, .data, .data] true :=
  Program.laidByTextLater_by_one 55 8 257 (by kernel_rfl) (by kernel_rfl) (by kernel_rfl) (by kernel_rfl) (by kernel_rfl) (by kernel_rfl) (fun _ _ => by kernel_rfl)
theorem noOwnUnsafe : Tryd.pinned.checked.prog.headLifts.contains "ownunsafe" = false := by kernel_rfl
theorem tie : Tryd.prog.laidByTextLater [("jpegstreams/pub/jpeg.unzig", Rows.laid_jpegstreams_pub_jpeg_unzig), ("jpegstreams/pub/jpeg.bitCount", Rows.laid_jpegstreams_pub_jpeg_bitCount), ("jpegstreams/pub/jpeg.unscaledQuant", Rows.laid_jpegstreams_pub_jpeg_unscaledQuant)] [.data, .data, .data] true :=
  Program.laidByTextLater.sub seatTie1 ["jpegstreams/pub/jpeg.unzig", "jpegstreams/pub/jpeg.bitCount", "jpegstreams/pub/jpeg.unscaledQuant"] (by kernel_rfl) (by kernel_rfl)
theorem fnDefaultQuality_row_tie : Rows.fnDefaultQualityRow.laidByTextAt .later Tryd.pinned [.data, .data, .data] true :=
  OpenClaim.laidByTextAt_later rfl rfl tie noOwnUnsafe
theorem fnEncodesBaseline_row_tie : Rows.fnEncodesBaselineRow.laidByTextAt .later Tryd.pinned [.data, .data, .data] true :=
  OpenClaim.laidByTextAt_later rfl rfl tie noOwnUnsafe
theorem fnDefaultQualityUpto_row_tie : Rows.fnDefaultQualityUptoRow.laidByTextAt .later Tryd.pinned [.data, .data, .data] true :=
  OpenClaim.laidByTextAt_later rfl rfl tie noOwnUnsafe
theorem fnEncodesBaselineUpto_row_tie : Rows.fnEncodesBaselineUptoRow.laidByTextAt .later Tryd.pinned [.data, .data, .data] true :=
  OpenClaim.laidByTextAt_later rfl rfl tie noOwnUnsafe
end Go.Proofs.YtpophkigihfjoaaDoor
