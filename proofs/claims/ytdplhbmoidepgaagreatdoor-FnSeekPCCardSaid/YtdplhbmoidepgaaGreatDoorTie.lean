/-
  DERIVED. GIVEN WITH THE SEED: THE PROGRAM's TIES (one call each: nine closed facts by the kernel) AND EACH ROW's TIE, after the 31st guide's Derived/Test/Toyas{Tie, Card}.lean. No idea stands in it: it is a product of the set-up. Laid BY PROGRAM, IN A SANDBOX (cutbox-door.mjs). By AI agents, Wed Nov 11 2026. No macro, syntax, notation, axiom, sorry.
-/
import Derived.Test.YtdplhbmoidepgaaGreatDoorRows
import Derived.LaidByTextLater
import Derived.SevenTiedAt
import Derived.LaidSub
import Derived.LaidOnce
namespace Go.Proofs.YtdplhbmoidepgaaGreatDoor
open Go
set_option maxRecDepth 100000
theorem seatTie1 : Tryz.prog.laidByTextLater [("math/bits.deBruijn32tab", Rows.laid_math_bits_deBruijn32tab), ("math/bits.deBruijn64tab", Rows.laid_math_bits_deBruijn64tab), ("internal/strconv.uint64pow10", Rows.laid_internal_strconv_uint64pow10), ("io.EOF", Rows.laid_io_EOF), ("loop.example/pub-g03041/pub/dwarf.attrIsExprloc", Rows.laid_loop_example_pub_g03041_pub_dwarf_attrIsExprloc), ("loop.example/pub-g03041/pub/dwarf.attrPtrClass", Rows.laid_loop_example_pub_g03041_pub_dwarf_attrPtrClass), ("loop.example/pub-g03041/pub/dwarf.ErrUnknownPC", Rows.laid_loop_example_pub_g03041_pub_dwarf_ErrUnknownPC)] [.data, .data, .data, .sentinel, .mapped, .mapped, .sentinel] true :=
  Program.laidByTextLater_by_one 257 8 65 (by kernel_rfl) (by kernel_rfl) (by kernel_rfl) (by kernel_rfl) (by kernel_rfl) (by kernel_rfl) (fun _ _ => by kernel_rfl)
theorem noOwnUnsafe : Tryz.pinned.checked.prog.headLifts.contains "ownunsafe" = false := by kernel_rfl
theorem tie : Tryz.prog.laidByTextLater [("math/bits.deBruijn32tab", Rows.laid_math_bits_deBruijn32tab), ("math/bits.deBruijn64tab", Rows.laid_math_bits_deBruijn64tab), ("internal/strconv.uint64pow10", Rows.laid_internal_strconv_uint64pow10), ("io.EOF", Rows.laid_io_EOF), ("loop.example/pub-g03041/pub/dwarf.attrIsExprloc", Rows.laid_loop_example_pub_g03041_pub_dwarf_attrIsExprloc), ("loop.example/pub-g03041/pub/dwarf.attrPtrClass", Rows.laid_loop_example_pub_g03041_pub_dwarf_attrPtrClass), ("loop.example/pub-g03041/pub/dwarf.ErrUnknownPC", Rows.laid_loop_example_pub_g03041_pub_dwarf_ErrUnknownPC)] [.data, .data, .data, .sentinel, .mapped, .mapped, .sentinel] true :=
  Program.laidByTextLater.sub seatTie1 ["math/bits.deBruijn32tab", "math/bits.deBruijn64tab", "internal/strconv.uint64pow10", "io.EOF", "loop.example/pub-g03041/pub/dwarf.attrIsExprloc", "loop.example/pub-g03041/pub/dwarf.attrPtrClass", "loop.example/pub-g03041/pub/dwarf.ErrUnknownPC"] (by kernel_rfl) (by kernel_rfl)
theorem fnIsBig_row_tie : Rows.fnIsBigRow.laidByTextAt .later Tryz.pinned [.data, .data, .data, .sentinel, .mapped, .mapped, .sentinel] true :=
  OpenClaim.laidByTextAt_later rfl rfl tie noOwnUnsafe
theorem fnRangesAre_row_tie : Rows.fnRangesAreRow.laidByTextAt .later Tryz.pinned [.data, .data, .data, .sentinel, .mapped, .mapped, .sentinel] true :=
  OpenClaim.laidByTextAt_later rfl rfl tie noOwnUnsafe
theorem fnRangesNone_row_tie : Rows.fnRangesNoneRow.laidByTextAt .later Tryz.pinned [.data, .data, .data, .sentinel, .mapped, .mapped, .sentinel] true :=
  OpenClaim.laidByTextAt_later rfl rfl tie noOwnUnsafe
theorem fnSeekPC_row_tie : Rows.fnSeekPCRow.laidByTextAt .later Tryz.pinned [.data, .data, .data, .sentinel, .mapped, .mapped, .sentinel] true :=
  OpenClaim.laidByTextAt_later rfl rfl tie noOwnUnsafe
theorem fnIsBigUpto_row_tie : Rows.fnIsBigUptoRow.laidByTextAt .later Tryz.pinned [.data, .data, .data, .sentinel, .mapped, .mapped, .sentinel] true :=
  OpenClaim.laidByTextAt_later rfl rfl tie noOwnUnsafe
theorem fnRangesAreUpto_row_tie : Rows.fnRangesAreUptoRow.laidByTextAt .later Tryz.pinned [.data, .data, .data, .sentinel, .mapped, .mapped, .sentinel] true :=
  OpenClaim.laidByTextAt_later rfl rfl tie noOwnUnsafe
theorem fnRangesNoneUpto_row_tie : Rows.fnRangesNoneUptoRow.laidByTextAt .later Tryz.pinned [.data, .data, .data, .sentinel, .mapped, .mapped, .sentinel] true :=
  OpenClaim.laidByTextAt_later rfl rfl tie noOwnUnsafe
theorem fnSeekPCUpto_row_tie : Rows.fnSeekPCUptoRow.laidByTextAt .later Tryz.pinned [.data, .data, .data, .sentinel, .mapped, .mapped, .sentinel] true :=
  OpenClaim.laidByTextAt_later rfl rfl tie noOwnUnsafe
end Go.Proofs.YtdplhbmoidepgaaGreatDoor
