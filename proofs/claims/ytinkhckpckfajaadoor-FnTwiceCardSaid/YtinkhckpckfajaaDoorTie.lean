/-
  DERIVED. GIVEN WITH THE SEED: THE PROGRAM's TIES (one call each: nine closed facts by the kernel) AND EACH ROW's TIE, after the 31st guide's Derived/Test/Toyas{Tie, Card}.lean. No idea stands in it: it is a product of the set-up. Laid BY PROGRAM, IN A SANDBOX (cutbox-door.mjs). By AI agents, Wed Nov 11 2026. No macro, syntax, notation, axiom, sorry.
-/
import Derived.Test.YtinkhckpckfajaaDoorRows
import Derived.LaidByTextLater
import Derived.SevenTiedAt
import Derived.LaidSub
import Derived.LaidOnce
namespace Go.Proofs.YtinkhckpckfajaaDoor
open Go
set_option maxRecDepth 100000
theorem seatTie1 : Tryd.prog.laidByTextLater [("io.EOF", Rows.laid_io_EOF), ("io.ErrUnexpectedEOF", Rows.laid_io_ErrUnexpectedEOF), ("tintslate/pub/image/vp8l.errInvalidCodeLengths", Rows.laid_tintslate_pub_image_vp8l_errInvalidCodeLengths), ("tintslate/pub/image/vp8l.errInvalidHuffmanTree", Rows.laid_tintslate_pub_image_vp8l_errInvalidHuffmanTree), ("tintslate/pub/image/vp8l.distanceMapTable", Rows.laid_tintslate_pub_image_vp8l_distanceMapTable), ("tintslate/pub/image/vp8l.codeLengthCodeOrder", Rows.laid_tintslate_pub_image_vp8l_codeLengthCodeOrder), ("tintslate/pub/image/vp8l.repeatBits", Rows.laid_tintslate_pub_image_vp8l_repeatBits), ("tintslate/pub/image/vp8l.repeatOffsets", Rows.laid_tintslate_pub_image_vp8l_repeatOffsets), ("tintslate/pub/image/vp8l.alphabetSizes", Rows.laid_tintslate_pub_image_vp8l_alphabetSizes), ("tintslate/pub/image/vp8l.reverseBits", Rows.laid_tintslate_pub_image_vp8l_reverseBits), ("tintslate/pub/image/vp8l.inverseTransforms", Rows.laid_tintslate_pub_image_vp8l_inverseTransforms)] [.sentinel, .sentinel, .sentinel, .sentinel, .data, .data, .data, .data, .data, .data, .funcs] true :=
  Program.laidByTextLater_by_one 158 8 257 (by kernel_rfl) (by kernel_rfl) (by kernel_rfl) (by kernel_rfl) (by kernel_rfl) (by kernel_rfl) (fun _ _ => by kernel_rfl)
theorem noOwnUnsafe : Tryd.pinned.checked.prog.headLifts.contains "ownunsafe" = false := by kernel_rfl
theorem tie : Tryd.prog.laidByTextLater [("io.EOF", Rows.laid_io_EOF), ("io.ErrUnexpectedEOF", Rows.laid_io_ErrUnexpectedEOF), ("tintslate/pub/image/vp8l.errInvalidCodeLengths", Rows.laid_tintslate_pub_image_vp8l_errInvalidCodeLengths), ("tintslate/pub/image/vp8l.errInvalidHuffmanTree", Rows.laid_tintslate_pub_image_vp8l_errInvalidHuffmanTree), ("tintslate/pub/image/vp8l.distanceMapTable", Rows.laid_tintslate_pub_image_vp8l_distanceMapTable), ("tintslate/pub/image/vp8l.codeLengthCodeOrder", Rows.laid_tintslate_pub_image_vp8l_codeLengthCodeOrder), ("tintslate/pub/image/vp8l.repeatBits", Rows.laid_tintslate_pub_image_vp8l_repeatBits), ("tintslate/pub/image/vp8l.repeatOffsets", Rows.laid_tintslate_pub_image_vp8l_repeatOffsets), ("tintslate/pub/image/vp8l.alphabetSizes", Rows.laid_tintslate_pub_image_vp8l_alphabetSizes), ("tintslate/pub/image/vp8l.reverseBits", Rows.laid_tintslate_pub_image_vp8l_reverseBits), ("tintslate/pub/image/vp8l.inverseTransforms", Rows.laid_tintslate_pub_image_vp8l_inverseTransforms)] [.sentinel, .sentinel, .sentinel, .sentinel, .data, .data, .data, .data, .data, .data, .funcs] true :=
  Program.laidByTextLater.sub seatTie1 ["io.EOF", "io.ErrUnexpectedEOF", "tintslate/pub/image/vp8l.errInvalidCodeLengths", "tintslate/pub/image/vp8l.errInvalidHuffmanTree", "tintslate/pub/image/vp8l.distanceMapTable", "tintslate/pub/image/vp8l.codeLengthCodeOrder", "tintslate/pub/image/vp8l.repeatBits", "tintslate/pub/image/vp8l.repeatOffsets", "tintslate/pub/image/vp8l.alphabetSizes", "tintslate/pub/image/vp8l.reverseBits", "tintslate/pub/image/vp8l.inverseTransforms"] (by kernel_rfl) (by kernel_rfl)
theorem fnTaken_row_tie : Rows.fnTakenRow.laidByTextAt .later Tryd.pinned [.sentinel, .sentinel, .sentinel, .sentinel, .data, .data, .data, .data, .data, .data, .funcs] true :=
  OpenClaim.laidByTextAt_later rfl rfl tie noOwnUnsafe
theorem fnBack_row_tie : Rows.fnBackRow.laidByTextAt .later Tryd.pinned [.sentinel, .sentinel, .sentinel, .sentinel, .data, .data, .data, .data, .data, .data, .funcs] true :=
  OpenClaim.laidByTextAt_later rfl rfl tie noOwnUnsafe
theorem fnBehind_row_tie : Rows.fnBehindRow.laidByTextAt .later Tryd.pinned [.sentinel, .sentinel, .sentinel, .sentinel, .data, .data, .data, .data, .data, .data, .funcs] true :=
  OpenClaim.laidByTextAt_later rfl rfl tie noOwnUnsafe
theorem fnCut_row_tie : Rows.fnCutRow.laidByTextAt .later Tryd.pinned [.sentinel, .sentinel, .sentinel, .sentinel, .data, .data, .data, .data, .data, .data, .funcs] true :=
  OpenClaim.laidByTextAt_later rfl rfl tie noOwnUnsafe
theorem fnFew_row_tie : Rows.fnFewRow.laidByTextAt .later Tryd.pinned [.sentinel, .sentinel, .sentinel, .sentinel, .data, .data, .data, .data, .data, .data, .funcs] true :=
  OpenClaim.laidByTextAt_later rfl rfl tie noOwnUnsafe
theorem fnTwice_row_tie : Rows.fnTwiceRow.laidByTextAt .later Tryd.pinned [.sentinel, .sentinel, .sentinel, .sentinel, .data, .data, .data, .data, .data, .data, .funcs] true :=
  OpenClaim.laidByTextAt_later rfl rfl tie noOwnUnsafe
theorem fnTwoWays_row_tie : Rows.fnTwoWaysRow.laidByTextAt .later Tryd.pinned [.sentinel, .sentinel, .sentinel, .sentinel, .data, .data, .data, .data, .data, .data, .funcs] true :=
  OpenClaim.laidByTextAt_later rfl rfl tie noOwnUnsafe
theorem fnWide_row_tie : Rows.fnWideRow.laidByTextAt .later Tryd.pinned [.sentinel, .sentinel, .sentinel, .sentinel, .data, .data, .data, .data, .data, .data, .funcs] true :=
  OpenClaim.laidByTextAt_later rfl rfl tie noOwnUnsafe
theorem fnTakenUpto_row_tie : Rows.fnTakenUptoRow.laidByTextAt .later Tryd.pinned [.sentinel, .sentinel, .sentinel, .sentinel, .data, .data, .data, .data, .data, .data, .funcs] true :=
  OpenClaim.laidByTextAt_later rfl rfl tie noOwnUnsafe
theorem fnBackUpto_row_tie : Rows.fnBackUptoRow.laidByTextAt .later Tryd.pinned [.sentinel, .sentinel, .sentinel, .sentinel, .data, .data, .data, .data, .data, .data, .funcs] true :=
  OpenClaim.laidByTextAt_later rfl rfl tie noOwnUnsafe
theorem fnBehindUpto_row_tie : Rows.fnBehindUptoRow.laidByTextAt .later Tryd.pinned [.sentinel, .sentinel, .sentinel, .sentinel, .data, .data, .data, .data, .data, .data, .funcs] true :=
  OpenClaim.laidByTextAt_later rfl rfl tie noOwnUnsafe
theorem fnCutUpto_row_tie : Rows.fnCutUptoRow.laidByTextAt .later Tryd.pinned [.sentinel, .sentinel, .sentinel, .sentinel, .data, .data, .data, .data, .data, .data, .funcs] true :=
  OpenClaim.laidByTextAt_later rfl rfl tie noOwnUnsafe
theorem fnFewUpto_row_tie : Rows.fnFewUptoRow.laidByTextAt .later Tryd.pinned [.sentinel, .sentinel, .sentinel, .sentinel, .data, .data, .data, .data, .data, .data, .funcs] true :=
  OpenClaim.laidByTextAt_later rfl rfl tie noOwnUnsafe
theorem fnTwiceUpto_row_tie : Rows.fnTwiceUptoRow.laidByTextAt .later Tryd.pinned [.sentinel, .sentinel, .sentinel, .sentinel, .data, .data, .data, .data, .data, .data, .funcs] true :=
  OpenClaim.laidByTextAt_later rfl rfl tie noOwnUnsafe
theorem fnTwoWaysUpto_row_tie : Rows.fnTwoWaysUptoRow.laidByTextAt .later Tryd.pinned [.sentinel, .sentinel, .sentinel, .sentinel, .data, .data, .data, .data, .data, .data, .funcs] true :=
  OpenClaim.laidByTextAt_later rfl rfl tie noOwnUnsafe
theorem fnWideUpto_row_tie : Rows.fnWideUptoRow.laidByTextAt .later Tryd.pinned [.sentinel, .sentinel, .sentinel, .sentinel, .data, .data, .data, .data, .data, .data, .funcs] true :=
  OpenClaim.laidByTextAt_later rfl rfl tie noOwnUnsafe
end Go.Proofs.YtinkhckpckfajaaDoor
