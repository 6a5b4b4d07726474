/-
  DERIVED. GIVEN WITH THE SEED: THE PROGRAM's TIES (one call each: nine closed facts by the kernel) AND EACH ROW's TIE, after the 31st guide's Derived/Test/Toyas{Tie, Card}.lean. No idea stands in it: it is a product of the set-up. Laid BY PROGRAM, IN A SANDBOX (cutbox-door.mjs). By AI agents, Wed Nov 11 2026. No macro, syntax, notation, axiom, sorry.
-/
import Derived.Test.YtbgkbgoonjkghaaGreatDoorRows
import Derived.LaidByTextLater
import Derived.SevenTiedAt
import Derived.LaidSub
import Derived.LaidOnce
namespace Go.Proofs.YtbgkbgoonjkghaaGreatDoor
open Go
set_option maxRecDepth 100000
theorem seatTie1 : Tryz.prog.laidByTextLater [("math/bits.deBruijn32tab", Rows.laid_math_bits_deBruijn32tab), ("math/bits.deBruijn64tab", Rows.laid_math_bits_deBruijn64tab), ("internal/strconv.uint64pow10", Rows.laid_internal_strconv_uint64pow10), ("io.EOF", Rows.laid_io_EOF), ("loop.example/pub-g03041/pub/dwarf.attrIsExprloc", Rows.laid_loop_example_pub_g03041_pub_dwarf_attrIsExprloc), ("loop.example/pub-g03041/pub/dwarf.attrPtrClass", Rows.laid_loop_example_pub_g03041_pub_dwarf_attrPtrClass), ("loop.example/pub-g03041/pub/dwarf.ErrUnknownPC", Rows.laid_loop_example_pub_g03041_pub_dwarf_ErrUnknownPC)] [.data, .data, .data, .sentinel, .mapped, .mapped, .sentinel] true :=
  Program.laidByTextLater_by_one 257 8 65 (by kernel_rfl) (by kernel_rfl) (by kernel_rfl) (by kernel_rfl) (by kernel_rfl) (by kernel_rfl) (fun _ _ => by kernel_rfl)
theorem noOwnUnsafe : Tryz.pinned.checked.prog.headLifts.contains "ownunsafe" = false := by kernel_rfl
theorem tie : Tryz.prog.laidByTextLater [("math/bits.deBruijn32tab", Rows.laid_math_bits_deBruijn32tab), ("math/bits.deBruijn64tab", Rows.laid_math_bits_deBruijn64tab), ("internal/strconv.uint64pow10", Rows.laid_internal_strconv_uint64pow10), ("io.EOF", Rows.laid_io_EOF), ("loop.example/pub-g03041/pub/dwarf.attrIsExprloc", Rows.laid_loop_example_pub_g03041_pub_dwarf_attrIsExprloc), ("loop.example/pub-g03041/pub/dwarf.attrPtrClass", Rows.laid_loop_example_pub_g03041_pub_dwarf_attrPtrClass), ("loop.example/pub-g03041/pub/dwarf.ErrUnknownPC", Rows.laid_loop_example_pub_g03041_pub_dwarf_ErrUnknownPC)] [.data, .data, .data, .sentinel, .mapped, .mapped, .sentinel] true :=
  Program.laidByTextLater.sub seatTie1 ["math/bits.deBruijn32tab", "math/bits.deBruijn64tab", "internal/strconv.uint64pow10", "io.EOF", "loop.example/pub-g03041/pub/dwarf.attrIsExprloc", "loop.example/pub-g03041/pub/dwarf.attrPtrClass", "loop.example/pub-g03041/pub/dwarf.ErrUnknownPC"] (by kernel_rfl) (by kernel_rfl)
theorem fnTypeIs_row_tie : Rows.fnTypeIsRow.laidByTextAt .later Tryz.pinned [.data, .data, .data, .sentinel, .mapped, .mapped, .sentinel] true :=
  OpenClaim.laidByTextAt_later rfl rfl tie noOwnUnsafe
theorem fnTypeLayouts_row_tie : Rows.fnTypeLayoutsRow.laidByTextAt .later Tryz.pinned [.data, .data, .data, .sentinel, .mapped, .mapped, .sentinel] true :=
  OpenClaim.laidByTextAt_later rfl rfl tie noOwnUnsafe
theorem fnTypeSizes_row_tie : Rows.fnTypeSizesRow.laidByTextAt .later Tryz.pinned [.data, .data, .data, .sentinel, .mapped, .mapped, .sentinel] true :=
  OpenClaim.laidByTextAt_later rfl rfl tie noOwnUnsafe
theorem fnTypesAre_row_tie : Rows.fnTypesAreRow.laidByTextAt .later Tryz.pinned [.data, .data, .data, .sentinel, .mapped, .mapped, .sentinel] true :=
  OpenClaim.laidByTextAt_later rfl rfl tie noOwnUnsafe
theorem fnTypeIsUpto_row_tie : Rows.fnTypeIsUptoRow.laidByTextAt .later Tryz.pinned [.data, .data, .data, .sentinel, .mapped, .mapped, .sentinel] true :=
  OpenClaim.laidByTextAt_later rfl rfl tie noOwnUnsafe
theorem fnTypeLayoutsUpto_row_tie : Rows.fnTypeLayoutsUptoRow.laidByTextAt .later Tryz.pinned [.data, .data, .data, .sentinel, .mapped, .mapped, .sentinel] true :=
  OpenClaim.laidByTextAt_later rfl rfl tie noOwnUnsafe
theorem fnTypeSizesUpto_row_tie : Rows.fnTypeSizesUptoRow.laidByTextAt .later Tryz.pinned [.data, .data, .data, .sentinel, .mapped, .mapped, .sentinel] true :=
  OpenClaim.laidByTextAt_later rfl rfl tie noOwnUnsafe
theorem fnTypesAreUpto_row_tie : Rows.fnTypesAreUptoRow.laidByTextAt .later Tryz.pinned [.data, .data, .data, .sentinel, .mapped, .mapped, .sentinel] true :=
  OpenClaim.laidByTextAt_later rfl rfl tie noOwnUnsafe
end Go.Proofs.YtbgkbgoonjkghaaGreatDoor
