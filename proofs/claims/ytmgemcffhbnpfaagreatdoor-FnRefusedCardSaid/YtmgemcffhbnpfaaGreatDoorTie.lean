/-
  DERIVED. GIVEN WITH THE SEED: THE PROGRAM's TIES (one call each: nine closed facts by the kernel) AND EACH ROW's TIE, after the 31st guide's Derived/Test/Toyas{Tie, Card}.lean. No idea stands in it: it is a product of the set-up. Laid BY PROGRAM, IN A SANDBOX (cutbox-door.mjs). By AI agents, Wed Nov 11 2026. No macro, syntax, notation, axiom, sorry.
-/
import Derived.Test.YtmgemcffhbnpfaaGreatDoorRows
import Derived.LaidByTextLater
import Derived.SevenTiedAt
import Derived.LaidSub
import Derived.LaidOnce
namespace Go.Proofs.YtmgemcffhbnpfaaGreatDoor
open Go
set_option maxRecDepth 100000
theorem seatTie1 : Tryz.prog.laidByTextLater [("io.EOF", Rows.laid_io_EOF), ("io.ErrUnexpectedEOF", Rows.laid_io_ErrUnexpectedEOF), ("tintslate/pub/image/vp8l.errInvalidCodeLengths", Rows.laid_tintslate_pub_image_vp8l_errInvalidCodeLengths), ("tintslate/pub/image/vp8l.errInvalidHuffmanTree", Rows.laid_tintslate_pub_image_vp8l_errInvalidHuffmanTree), ("tintslate/pub/image/vp8l.distanceMapTable", Rows.laid_tintslate_pub_image_vp8l_distanceMapTable), ("tintslate/pub/image/vp8l.codeLengthCodeOrder", Rows.laid_tintslate_pub_image_vp8l_codeLengthCodeOrder), ("tintslate/pub/image/vp8l.repeatBits", Rows.laid_tintslate_pub_image_vp8l_repeatBits), ("tintslate/pub/image/vp8l.repeatOffsets", Rows.laid_tintslate_pub_image_vp8l_repeatOffsets), ("tintslate/pub/image/vp8l.alphabetSizes", Rows.laid_tintslate_pub_image_vp8l_alphabetSizes), ("tintslate/pub/image/vp8l.reverseBits", Rows.laid_tintslate_pub_image_vp8l_reverseBits), ("tintslate/pub/image/vp8l.inverseTransforms", Rows.laid_tintslate_pub_image_vp8l_inverseTransforms)] [.sentinel, .sentinel, .sentinel, .sentinel, .data, .data, .data, .data, .data, .data, .funcs] true :=
  Program.laidByTextLater_by_one 158 8 257 (by kernel_rfl) (by kernel_rfl) (by kernel_rfl) (by kernel_rfl) (by kernel_rfl) (by kernel_rfl) (fun _ _ => by kernel_rfl)
theorem noOwnUnsafe : Tryz.pinned.checked.prog.headLifts.contains "ownunsafe" = false := by kernel_rfl
theorem tie : Tryz.prog.laidByTextLater [("io.EOF", Rows.laid_io_EOF), ("io.ErrUnexpectedEOF", Rows.laid_io_ErrUnexpectedEOF), ("tintslate/pub/image/vp8l.errInvalidCodeLengths", Rows.laid_tintslate_pub_image_vp8l_errInvalidCodeLengths), ("tintslate/pub/image/vp8l.errInvalidHuffmanTree", Rows.laid_tintslate_pub_image_vp8l_errInvalidHuffmanTree), ("tintslate/pub/image/vp8l.distanceMapTable", Rows.laid_tintslate_pub_image_vp8l_distanceMapTable), ("tintslate/pub/image/vp8l.codeLengthCodeOrder", Rows.laid_tintslate_pub_image_vp8l_codeLengthCodeOrder), ("tintslate/pub/image/vp8l.repeatBits", Rows.laid_tintslate_pub_image_vp8l_repeatBits), ("tintslate/pub/image/vp8l.repeatOffsets", Rows.laid_tintslate_pub_image_vp8l_repeatOffsets), ("tintslate/pub/image/vp8l.alphabetSizes", Rows.laid_tintslate_pub_image_vp8l_alphabetSizes), ("tintslate/pub/image/vp8l.reverseBits", Rows.laid_tintslate_pub_image_vp8l_reverseBits), ("tintslate/pub/image/vp8l.inverseTransforms", Rows.laid_tintslate_pub_image_vp8l_inverseTransforms)] [.sentinel, .sentinel, .sentinel, .sentinel, .data, .data, .data, .data, .data, .data, .funcs] true :=
  Program.laidByTextLater.sub seatTie1 ["io.EOF", "io.ErrUnexpectedEOF", "tintslate/pub/image/vp8l.errInvalidCodeLengths", "tintslate/pub/image/vp8l.errInvalidHuffmanTree", "tintslate/pub/image/vp8l.distanceMapTable", "tintslate/pub/image/vp8l.codeLengthCodeOrder", "tintslate/pub/image/vp8l.repeatBits", "tintslate/pub/image/vp8l.repeatOffsets", "tintslate/pub/image/vp8l.alphabetSizes", "tintslate/pub/image/vp8l.reverseBits", "tintslate/pub/image/vp8l.inverseTransforms"] (by kernel_rfl) (by kernel_rfl)
theorem fnAny_row_tie : Rows.fnAnyRow.laidByTextAt .later Tryz.pinned [.sentinel, .sentinel, .sentinel, .sentinel, .data, .data, .data, .data, .data, .data, .funcs] true :=
  OpenClaim.laidByTextAt_later rfl rfl tie noOwnUnsafe
theorem fnRefused_row_tie : Rows.fnRefusedRow.laidByTextAt .later Tryz.pinned [.sentinel, .sentinel, .sentinel, .sentinel, .data, .data, .data, .data, .data, .data, .funcs] true :=
  OpenClaim.laidByTextAt_later rfl rfl tie noOwnUnsafe
theorem fnAnyUpto_row_tie : Rows.fnAnyUptoRow.laidByTextAt .later Tryz.pinned [.sentinel, .sentinel, .sentinel, .sentinel, .data, .data, .data, .data, .data, .data, .funcs] true :=
  OpenClaim.laidByTextAt_later rfl rfl tie noOwnUnsafe
theorem fnRefusedUpto_row_tie : Rows.fnRefusedUptoRow.laidByTextAt .later Tryz.pinned [.sentinel, .sentinel, .sentinel, .sentinel, .data, .data, .data, .data, .data, .data, .funcs] true :=
  OpenClaim.laidByTextAt_later rfl rfl tie noOwnUnsafe
end Go.Proofs.YtmgemcffhbnpfaaGreatDoor
