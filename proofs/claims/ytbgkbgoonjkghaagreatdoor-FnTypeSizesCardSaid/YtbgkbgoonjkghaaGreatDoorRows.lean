/-
  NARROWER THAN 'FOR EVERY INPUT', by the rows' own cells (each row's printed sentence says how): FnTypeIs: ifaces, maps, laid · FnTypeLayouts: ifaces, maps, laid · FnTypeSizes: ifaces, maps, laid · FnTypesAre: ifaces, maps, laid.
  DERIVED. THE GIVEN ROWS OF THIS SEAT. 4 by the template 'for every input the law returns true; each argument reads behind the call as it read before'; 0 by the template 'total and deterministic' (their statements: YtbgkbgoonjkghaaGreatDoorTotals.lean).
  GIVEN WITH THE SEED: the statements are not yours to turn. If you find one false, say at which input.
  Laid BY PROGRAM, IN A SANDBOX (cutbox-rows.mjs): the forced cells as the released guide's own fill.sh prints them over the translation dd2ff5ad1819aedf… (all of the seat's roots in one cut). By AI agents, Wed Nov 11 2026. No macro, syntax, notation, axiom, sorry.
-/
import Derived.Test.YtbgkbgoonjkghaaGreatDoorChecked
import GoSem.Claim
import GoSem.ClaimJoined
import GoSem.ClaimMapViews
import Derived.JoinedTies
import Derived.KernelRfl
namespace Go.Proofs.YtbgkbgoonjkghaaGreatDoor
/- THE CELL 'sum', in the pinned program and in every row, IS THE sha256 OF THE DUMP (.gsa) THAT YtbgkbgoonjkghaaGreatDoorProg.lean LOADS. Nothing in Lean hashes anything: it is a label: what it is worth is what the hold of that sum in a sandbox is worth. -/
noncomputable def Tryz.pinned : Pinned := { name := "ytbgkbgoonjkghaagreatdoor", sum := "dd2ff5ad1819aedf4ad7d4614d125b75e4ffb689a4a5e200755d0112b9fded80", checked := Tryz.checked }
namespace Rows
def none {H : Type} : Left H := { results := [], args := [] }

/- WHAT THE LISTED PACKAGE-LEVEL VARIABLES READ AS WHEN THE CALL BEGINS. Each datum BY PROGRAM (the guide's laid-datum.mjs) off the statement by which the dump's own 'gosem.cut.vars' lays the variable. In a bare row this is a premise. The card (YtbgkbgoonjkghaaGreatDoorCards.lean) ties it to the program's text. -/
def laid_math_bits_deBruijn32tab {H : Type} : DataW H := .agg [.lit (.int .u8 0), .lit (.int .u8 1), .lit (.int .u8 28), .lit (.int .u8 2), .lit (.int .u8 29), .lit (.int .u8 14), .lit (.int .u8 24), .lit (.int .u8 3), .lit (.int .u8 30), .lit (.int .u8 22), .lit (.int .u8 20), .lit (.int .u8 15), .lit (.int .u8 25), .lit (.int .u8 17), .lit (.int .u8 4), .lit (.int .u8 8), .lit (.int .u8 31), .lit (.int .u8 27), .lit (.int .u8 13), .lit (.int .u8 23), .lit (.int .u8 21), .lit (.int .u8 19), .lit (.int .u8 16), .lit (.int .u8 7), .lit (.int .u8 26), .lit (.int .u8 12), .lit (.int .u8 18), .lit (.int .u8 6), .lit (.int .u8 11), .lit (.int .u8 5), .lit (.int .u8 10), .lit (.int .u8 9)]
def laid_math_bits_deBruijn64tab {H : Type} : DataW H := .agg [.lit (.int .u8 0), .lit (.int .u8 1), .lit (.int .u8 56), .lit (.int .u8 2), .lit (.int .u8 57), .lit (.int .u8 49), .lit (.int .u8 28), .lit (.int .u8 3), .lit (.int .u8 61), .lit (.int .u8 58), .lit (.int .u8 42), .lit (.int .u8 50), .lit (.int .u8 38), .lit (.int .u8 29), .lit (.int .u8 17), .lit (.int .u8 4), .lit (.int .u8 62), .lit (.int .u8 47), .lit (.int .u8 59), .lit (.int .u8 36), .lit (.int .u8 45), .lit (.int .u8 43), .lit (.int .u8 51), .lit (.int .u8 22), .lit (.int .u8 53), .lit (.int .u8 39), .lit (.int .u8 33), .lit (.int .u8 30), .lit (.int .u8 24), .lit (.int .u8 18), .lit (.int .u8 12), .lit (.int .u8 5), .lit (.int .u8 63), .lit (.int .u8 55), .lit (.int .u8 48), .lit (.int .u8 27), .lit (.int .u8 60), .lit (.int .u8 41), .lit (.int .u8 37), .lit (.int .u8 16), .lit (.int .u8 46), .lit (.int .u8 35), .lit (.int .u8 44), .lit (.int .u8 21), .lit (.int .u8 52), .lit (.int .u8 32), .lit (.int .u8 23), .lit (.int .u8 11), .lit (.int .u8 54), .lit (.int .u8 26), .lit (.int .u8 40), .lit (.int .u8 15), .lit (.int .u8 34), .lit (.int .u8 20), .lit (.int .u8 31), .lit (.int .u8 10), .lit (.int .u8 25), .lit (.int .u8 14), .lit (.int .u8 19), .lit (.int .u8 9), .lit (.int .u8 13), .lit (.int .u8 8), .lit (.int .u8 7), .lit (.int .u8 6)]
def laid_internal_strconv_uint64pow10 {H : Type} : DataW H := .agg [.lit (.int .u64 1), .lit (.int .u64 10), .lit (.int .u64 100), .lit (.int .u64 1000), .lit (.int .u64 10000), .lit (.int .u64 100000), .lit (.int .u64 1000000), .lit (.int .u64 10000000), .lit (.int .u64 100000000), .lit (.int .u64 1000000000), .lit (.int .u64 10000000000), .lit (.int .u64 100000000000), .lit (.int .u64 1000000000000), .lit (.int .u64 10000000000000), .lit (.int .u64 100000000000000), .lit (.int .u64 1000000000000000), .lit (.int .u64 10000000000000000), .lit (.int .u64 100000000000000000), .lit (.int .u64 1000000000000000000), .lit (.int .u64 10000000000000000000)]
def laid_io_EOF {H : Type} : DataW H := .iface "*errors.errorString" (.ptr (.agg [.lit (.string [69, 79, 70])]))
def laid_loop_example_pub_g03041_pub_dwarf_attrIsExprloc {H : Type} : DataW H := .map [(.int .u32 2, .lit (.bool true)), (.int .u32 11, .lit (.bool true)), (.int .u32 12, .lit (.bool true)), (.int .u32 13, .lit (.bool true)), (.int .u32 25, .lit (.bool true)), (.int .u32 34, .lit (.bool true)), (.int .u32 42, .lit (.bool true)), (.int .u32 46, .lit (.bool true)), (.int .u32 47, .lit (.bool true)), (.int .u32 55, .lit (.bool true)), (.int .u32 56, .lit (.bool true)), (.int .u32 64, .lit (.bool true)), (.int .u32 70, .lit (.bool true)), (.int .u32 72, .lit (.bool true)), (.int .u32 74, .lit (.bool true)), (.int .u32 77, .lit (.bool true)), (.int .u32 78, .lit (.bool true)), (.int .u32 79, .lit (.bool true)), (.int .u32 80, .lit (.bool true)), (.int .u32 81, .lit (.bool true))]
def laid_loop_example_pub_g03041_pub_dwarf_attrPtrClass {H : Type} : DataW H := .map [(.int .u32 2, .lit (.int .i64 7)), (.int .u32 16, .lit (.int .i64 6)), (.int .u32 25, .lit (.int .i64 7)), (.int .u32 42, .lit (.int .i64 7)), (.int .u32 44, .lit (.int .i64 9)), (.int .u32 56, .lit (.int .i64 7)), (.int .u32 64, .lit (.int .i64 7)), (.int .u32 67, .lit (.int .i64 8)), (.int .u32 70, .lit (.int .i64 7)), (.int .u32 72, .lit (.int .i64 7)), (.int .u32 74, .lit (.int .i64 7)), (.int .u32 77, .lit (.int .i64 7)), (.int .u32 85, .lit (.int .i64 9)), (.int .u32 114, .lit (.int .i64 19)), (.int .u32 115, .lit (.int .i64 15)), (.int .u32 116, .lit (.int .i64 18)), (.int .u32 140, .lit (.int .i64 7))]
def laid_loop_example_pub_g03041_pub_dwarf_ErrUnknownPC {H : Type} : DataW H := .iface "*errors.errorString" (.ptr (.agg [.lit (.string [69, 114, 114, 85, 110, 107, 110, 111, 119, 110, 80, 67])]))

/-- 'laws.FnTypeIs': WHATEVER THE INPUT: true; the input reads as it did. -/
def fnTypeIsSpec : ChangeSpec := { name := "fnTypeIs", vars := ["loop.example/pub-g03041/pub/dwarf.attrIsExprloc", "loop.example/pub-g03041/pub/dwarf.attrPtrClass", "loop.example/pub-g03041/pub/dwarf.ErrUnknownPC"], fn := fun _ => fun
  | [d1, d2, d3, g1, g2, g3] => { results := [.lit (.bool true)], args := [d1, d2, d3], vars := [g1, g2, g3] }
  | _ => none }
def fnTypeIsRow : OpenClaim := { program := "ytbgkbgoonjkghaagreatdoor", sum := "dd2ff5ad1819aedf4ad7d4614d125b75e4ffb689a4a5e200755d0112b9fded80", func := "loop.example/pub-g03041/laws.FnTypeIs", spec := "fnTypeIs", inPlace := ["internal/bytealg.IndexByte"], unfollowed := true, recurses := true, named := ["internal/strconv.uint64pow10", "math/bits.deBruijn32tab", "math/bits.deBruijn64tab", "loop.example/pub-g03041/pub/dwarf.attrIsExprloc", "loop.example/pub-g03041/pub/dwarf.attrPtrClass", "io.EOF", "loop.example/pub-g03041/pub/dwarf.ErrUnknownPC"], maps := true, ifaces := true, apart := false, laid := [("math/bits.deBruijn32tab", laid_math_bits_deBruijn32tab), ("math/bits.deBruijn64tab", laid_math_bits_deBruijn64tab), ("internal/strconv.uint64pow10", laid_internal_strconv_uint64pow10), ("io.EOF", laid_io_EOF), ("loop.example/pub-g03041/pub/dwarf.attrIsExprloc", laid_loop_example_pub_g03041_pub_dwarf_attrIsExprloc), ("loop.example/pub-g03041/pub/dwarf.attrPtrClass", laid_loop_example_pub_g03041_pub_dwarf_attrPtrClass), ("loop.example/pub-g03041/pub/dwarf.ErrUnknownPC", laid_loop_example_pub_g03041_pub_dwarf_ErrUnknownPC)] }
def FnTypeIsSaid : Prop := fnTypeIsRow.holds Tryz.pinned (OpenSpec.ofChange fnTypeIsSpec)

/-- ITS FALSE NEIGHBOUR: 'it returns false'. Refute it at one input. -/
def fnTypeIsWrong : ChangeSpec := { name := "fnTypeIs", vars := ["loop.example/pub-g03041/pub/dwarf.attrIsExprloc", "loop.example/pub-g03041/pub/dwarf.attrPtrClass", "loop.example/pub-g03041/pub/dwarf.ErrUnknownPC"], fn := fun _ => fun
  | [d1, d2, d3, g1, g2, g3] => { results := [.lit (.bool false)], args := [d1, d2, d3], vars := [g1, g2, g3] }
  | _ => none }
def FnTypeIsWrongFalsely : Prop := fnTypeIsRow.holds Tryz.pinned (OpenSpec.ofChange fnTypeIsWrong)

/-- 'laws.FnTypeLayouts': WHATEVER THE INPUT: true; the input reads as it did. -/
def fnTypeLayoutsSpec : ChangeSpec := { name := "fnTypeLayouts", vars := ["loop.example/pub-g03041/pub/dwarf.attrIsExprloc", "loop.example/pub-g03041/pub/dwarf.attrPtrClass", "loop.example/pub-g03041/pub/dwarf.ErrUnknownPC"], fn := fun _ => fun
  | [d1, d2, d3, d4, g1, g2, g3] => { results := [.lit (.bool true)], args := [d1, d2, d3, d4], vars := [g1, g2, g3] }
  | _ => none }
def fnTypeLayoutsRow : OpenClaim := { program := "ytbgkbgoonjkghaagreatdoor", sum := "dd2ff5ad1819aedf4ad7d4614d125b75e4ffb689a4a5e200755d0112b9fded80", func := "loop.example/pub-g03041/laws.FnTypeLayouts", spec := "fnTypeLayouts", inPlace := ["internal/bytealg.IndexByte"], unfollowed := true, recurses := true, named := ["internal/strconv.uint64pow10", "math/bits.deBruijn32tab", "math/bits.deBruijn64tab", "loop.example/pub-g03041/pub/dwarf.attrIsExprloc", "loop.example/pub-g03041/pub/dwarf.attrPtrClass", "io.EOF", "loop.example/pub-g03041/pub/dwarf.ErrUnknownPC"], maps := true, ifaces := true, apart := false, laid := [("math/bits.deBruijn32tab", laid_math_bits_deBruijn32tab), ("math/bits.deBruijn64tab", laid_math_bits_deBruijn64tab), ("internal/strconv.uint64pow10", laid_internal_strconv_uint64pow10), ("io.EOF", laid_io_EOF), ("loop.example/pub-g03041/pub/dwarf.attrIsExprloc", laid_loop_example_pub_g03041_pub_dwarf_attrIsExprloc), ("loop.example/pub-g03041/pub/dwarf.attrPtrClass", laid_loop_example_pub_g03041_pub_dwarf_attrPtrClass), ("loop.example/pub-g03041/pub/dwarf.ErrUnknownPC", laid_loop_example_pub_g03041_pub_dwarf_ErrUnknownPC)] }
def FnTypeLayoutsSaid : Prop := fnTypeLayoutsRow.holds Tryz.pinned (OpenSpec.ofChange fnTypeLayoutsSpec)

/-- ITS FALSE NEIGHBOUR: 'it returns false'. Refute it at one input. -/
def fnTypeLayoutsWrong : ChangeSpec := { name := "fnTypeLayouts", vars := ["loop.example/pub-g03041/pub/dwarf.attrIsExprloc", "loop.example/pub-g03041/pub/dwarf.attrPtrClass", "loop.example/pub-g03041/pub/dwarf.ErrUnknownPC"], fn := fun _ => fun
  | [d1, d2, d3, d4, g1, g2, g3] => { results := [.lit (.bool false)], args := [d1, d2, d3, d4], vars := [g1, g2, g3] }
  | _ => none }
def FnTypeLayoutsWrongFalsely : Prop := fnTypeLayoutsRow.holds Tryz.pinned (OpenSpec.ofChange fnTypeLayoutsWrong)

/-- 'laws.FnTypeSizes': WHATEVER THE INPUT: true; the input reads as it did. -/
def fnTypeSizesSpec : ChangeSpec := { name := "fnTypeSizes", vars := ["loop.example/pub-g03041/pub/dwarf.attrIsExprloc", "loop.example/pub-g03041/pub/dwarf.attrPtrClass", "loop.example/pub-g03041/pub/dwarf.ErrUnknownPC"], fn := fun _ => fun
  | [d1, d2, d3, g1, g2, g3] => { results := [.lit (.bool true)], args := [d1, d2, d3], vars := [g1, g2, g3] }
  | _ => none }
def fnTypeSizesRow : OpenClaim := { program := "ytbgkbgoonjkghaagreatdoor", sum := "dd2ff5ad1819aedf4ad7d4614d125b75e4ffb689a4a5e200755d0112b9fded80", func := "loop.example/pub-g03041/laws.FnTypeSizes", spec := "fnTypeSizes", inPlace := ["internal/bytealg.IndexByte"], unfollowed := true, recurses := true, named := ["internal/strconv.uint64pow10", "math/bits.deBruijn32tab", "math/bits.deBruijn64tab", "loop.example/pub-g03041/pub/dwarf.attrIsExprloc", "loop.example/pub-g03041/pub/dwarf.attrPtrClass", "io.EOF", "loop.example/pub-g03041/pub/dwarf.ErrUnknownPC"], maps := true, ifaces := true, apart := false, laid := [("math/bits.deBruijn32tab", laid_math_bits_deBruijn32tab), ("math/bits.deBruijn64tab", laid_math_bits_deBruijn64tab), ("internal/strconv.uint64pow10", laid_internal_strconv_uint64pow10), ("io.EOF", laid_io_EOF), ("loop.example/pub-g03041/pub/dwarf.attrIsExprloc", laid_loop_example_pub_g03041_pub_dwarf_attrIsExprloc), ("loop.example/pub-g03041/pub/dwarf.attrPtrClass", laid_loop_example_pub_g03041_pub_dwarf_attrPtrClass), ("loop.example/pub-g03041/pub/dwarf.ErrUnknownPC", laid_loop_example_pub_g03041_pub_dwarf_ErrUnknownPC)] }
def FnTypeSizesSaid : Prop := fnTypeSizesRow.holds Tryz.pinned (OpenSpec.ofChange fnTypeSizesSpec)

/-- ITS FALSE NEIGHBOUR: 'it returns false'. Refute it at one input. -/
def fnTypeSizesWrong : ChangeSpec := { name := "fnTypeSizes", vars := ["loop.example/pub-g03041/pub/dwarf.attrIsExprloc", "loop.example/pub-g03041/pub/dwarf.attrPtrClass", "loop.example/pub-g03041/pub/dwarf.ErrUnknownPC"], fn := fun _ => fun
  | [d1, d2, d3, g1, g2, g3] => { results := [.lit (.bool false)], args := [d1, d2, d3], vars := [g1, g2, g3] }
  | _ => none }
def FnTypeSizesWrongFalsely : Prop := fnTypeSizesRow.holds Tryz.pinned (OpenSpec.ofChange fnTypeSizesWrong)

/-- 'laws.FnTypesAre': WHATEVER THE INPUT: true; the input reads as it did. -/
def fnTypesAreSpec : ChangeSpec := { name := "fnTypesAre", vars := ["loop.example/pub-g03041/pub/dwarf.attrIsExprloc", "loop.example/pub-g03041/pub/dwarf.attrPtrClass", "loop.example/pub-g03041/pub/dwarf.ErrUnknownPC"], fn := fun _ => fun
  | [d1, d2, d3, g1, g2, g3] => { results := [.lit (.bool true)], args := [d1, d2, d3], vars := [g1, g2, g3] }
  | _ => none }
def fnTypesAreRow : OpenClaim := { program := "ytbgkbgoonjkghaagreatdoor", sum := "dd2ff5ad1819aedf4ad7d4614d125b75e4ffb689a4a5e200755d0112b9fded80", func := "loop.example/pub-g03041/laws.FnTypesAre", spec := "fnTypesAre", inPlace := ["internal/bytealg.IndexByte"], unfollowed := true, recurses := true, named := ["internal/strconv.uint64pow10", "math/bits.deBruijn32tab", "math/bits.deBruijn64tab", "loop.example/pub-g03041/pub/dwarf.attrIsExprloc", "loop.example/pub-g03041/pub/dwarf.attrPtrClass", "io.EOF", "loop.example/pub-g03041/pub/dwarf.ErrUnknownPC"], maps := true, ifaces := true, apart := false, laid := [("math/bits.deBruijn32tab", laid_math_bits_deBruijn32tab), ("math/bits.deBruijn64tab", laid_math_bits_deBruijn64tab), ("internal/strconv.uint64pow10", laid_internal_strconv_uint64pow10), ("io.EOF", laid_io_EOF), ("loop.example/pub-g03041/pub/dwarf.attrIsExprloc", laid_loop_example_pub_g03041_pub_dwarf_attrIsExprloc), ("loop.example/pub-g03041/pub/dwarf.attrPtrClass", laid_loop_example_pub_g03041_pub_dwarf_attrPtrClass), ("loop.example/pub-g03041/pub/dwarf.ErrUnknownPC", laid_loop_example_pub_g03041_pub_dwarf_ErrUnknownPC)] }
def FnTypesAreSaid : Prop := fnTypesAreRow.holds Tryz.pinned (OpenSpec.ofChange fnTypesAreSpec)

/-- ITS FALSE NEIGHBOUR: 'it returns false'. Refute it at one input. -/
def fnTypesAreWrong : ChangeSpec := { name := "fnTypesAre", vars := ["loop.example/pub-g03041/pub/dwarf.attrIsExprloc", "loop.example/pub-g03041/pub/dwarf.attrPtrClass", "loop.example/pub-g03041/pub/dwarf.ErrUnknownPC"], fn := fun _ => fun
  | [d1, d2, d3, g1, g2, g3] => { results := [.lit (.bool false)], args := [d1, d2, d3], vars := [g1, g2, g3] }
  | _ => none }
def FnTypesAreWrongFalsely : Prop := fnTypesAreRow.holds Tryz.pinned (OpenSpec.ofChange fnTypesAreWrong)

/- THE SECOND FORM. 'bulk': how many values and letters a reading holds, each counted each time it is reached (what is shared counts as often as it is met; a slice's spare places count too). A statement '..UptoSaid' is the law's where the arguments, and the package variables that the reading takes, are together of bulk at most 1048576: NARROWER than '..Said'. Prove '..Said' where nothing that the law and all that it calls make is longer than what came in: it says more and counts as full. Else prove '..UptoSaid'. A law counts once. -/
mutual
def uptoBulk {H : Type} : DataW H → Nat
  | .lit (.string bytes) => bytes.length + 1
  | .lit _ => 1
  | .nil => 1
  | .ptr d => uptoBulk d + 1
  | .slice elems spare => uptoBulkAll elems + uptoBulkAll spare + 1
  | .agg parts => uptoBulkAll parts + 1
  | .iface _ d => uptoBulk d + 1
  | .map entries => uptoBulkEntries entries + 1
  | .held _ => 1
def uptoBulkAll {H : Type} : List (DataW H) → Nat
  | [] => 0
  | d :: r => uptoBulk d + uptoBulkAll r
def uptoBulkEntries {H : Type} : List (Lit × DataW H) → Nat
  | [] => 0
  | x :: r => uptoBulkEntry x + uptoBulkEntries r
def uptoBulkEntry {H : Type} : Lit × DataW H → Nat
  | (.string bytes, d) => bytes.length + uptoBulk d + 1
  | (_, d) => uptoBulk d + 1
 end
def uptoSmall : (H : Type) → List (DataW H) → Bool := fun _ ds => decide (uptoBulkAll ds ≤ 1048576)
def OpenSpec.upto (s : _root_.Go.ChangeSpec) : _root_.Go.OpenSpec := { _root_.Go.OpenSpec.ofChange s with cond := some uptoSmall }

/-- 'laws.FnTypeIs', WHERE WHAT IT READS IS OF BULK AT MOST 1048576: true; the input reads as it did. -/
def fnTypeIsUptoRow : OpenClaim := { program := "ytbgkbgoonjkghaagreatdoor", sum := "dd2ff5ad1819aedf4ad7d4614d125b75e4ffb689a4a5e200755d0112b9fded80", func := "loop.example/pub-g03041/laws.FnTypeIs", spec := "fnTypeIs", inPlace := ["internal/bytealg.IndexByte"], unfollowed := true, recurses := true, named := ["internal/strconv.uint64pow10", "math/bits.deBruijn32tab", "math/bits.deBruijn64tab", "loop.example/pub-g03041/pub/dwarf.attrIsExprloc", "loop.example/pub-g03041/pub/dwarf.attrPtrClass", "io.EOF", "loop.example/pub-g03041/pub/dwarf.ErrUnknownPC"], maps := true, ifaces := true, apart := false, laid := [("math/bits.deBruijn32tab", laid_math_bits_deBruijn32tab), ("math/bits.deBruijn64tab", laid_math_bits_deBruijn64tab), ("internal/strconv.uint64pow10", laid_internal_strconv_uint64pow10), ("io.EOF", laid_io_EOF), ("loop.example/pub-g03041/pub/dwarf.attrIsExprloc", laid_loop_example_pub_g03041_pub_dwarf_attrIsExprloc), ("loop.example/pub-g03041/pub/dwarf.attrPtrClass", laid_loop_example_pub_g03041_pub_dwarf_attrPtrClass), ("loop.example/pub-g03041/pub/dwarf.ErrUnknownPC", laid_loop_example_pub_g03041_pub_dwarf_ErrUnknownPC)], narrowed := true }
def FnTypeIsUptoSaid : Prop := fnTypeIsUptoRow.holds Tryz.pinned (OpenSpec.upto fnTypeIsSpec)

/-- 'laws.FnTypeLayouts', WHERE WHAT IT READS IS OF BULK AT MOST 1048576: true; the input reads as it did. -/
def fnTypeLayoutsUptoRow : OpenClaim := { program := "ytbgkbgoonjkghaagreatdoor", sum := "dd2ff5ad1819aedf4ad7d4614d125b75e4ffb689a4a5e200755d0112b9fded80", func := "loop.example/pub-g03041/laws.FnTypeLayouts", spec := "fnTypeLayouts", inPlace := ["internal/bytealg.IndexByte"], unfollowed := true, recurses := true, named := ["internal/strconv.uint64pow10", "math/bits.deBruijn32tab", "math/bits.deBruijn64tab", "loop.example/pub-g03041/pub/dwarf.attrIsExprloc", "loop.example/pub-g03041/pub/dwarf.attrPtrClass", "io.EOF", "loop.example/pub-g03041/pub/dwarf.ErrUnknownPC"], maps := true, ifaces := true, apart := false, laid := [("math/bits.deBruijn32tab", laid_math_bits_deBruijn32tab), ("math/bits.deBruijn64tab", laid_math_bits_deBruijn64tab), ("internal/strconv.uint64pow10", laid_internal_strconv_uint64pow10), ("io.EOF", laid_io_EOF), ("loop.example/pub-g03041/pub/dwarf.attrIsExprloc", laid_loop_example_pub_g03041_pub_dwarf_attrIsExprloc), ("loop.example/pub-g03041/pub/dwarf.attrPtrClass", laid_loop_example_pub_g03041_pub_dwarf_attrPtrClass), ("loop.example/pub-g03041/pub/dwarf.ErrUnknownPC", laid_loop_example_pub_g03041_pub_dwarf_ErrUnknownPC)], narrowed := true }
def FnTypeLayoutsUptoSaid : Prop := fnTypeLayoutsUptoRow.holds Tryz.pinned (OpenSpec.upto fnTypeLayoutsSpec)

/-- 'laws.FnTypeSizes', WHERE WHAT IT READS IS OF BULK AT MOST 1048576: true; the input reads as it did. -/
def fnTypeSizesUptoRow : OpenClaim := { program := "ytbgkbgoonjkghaagreatdoor", sum := "dd2ff5ad1819aedf4ad7d4614d125b75e4ffb689a4a5e200755d0112b9fded80", func := "loop.example/pub-g03041/laws.FnTypeSizes", spec := "fnTypeSizes", inPlace := ["internal/bytealg.IndexByte"], unfollowed := true, recurses := true, named := ["internal/strconv.uint64pow10", "math/bits.deBruijn32tab", "math/bits.deBruijn64tab", "loop.example/pub-g03041/pub/dwarf.attrIsExprloc", "loop.example/pub-g03041/pub/dwarf.attrPtrClass", "io.EOF", "loop.example/pub-g03041/pub/dwarf.ErrUnknownPC"], maps := true, ifaces := true, apart := false, laid := [("math/bits.deBruijn32tab", laid_math_bits_deBruijn32tab), ("math/bits.deBruijn64tab", laid_math_bits_deBruijn64tab), ("internal/strconv.uint64pow10", laid_internal_strconv_uint64pow10), ("io.EOF", laid_io_EOF), ("loop.example/pub-g03041/pub/dwarf.attrIsExprloc", laid_loop_example_pub_g03041_pub_dwarf_attrIsExprloc), ("loop.example/pub-g03041/pub/dwarf.attrPtrClass", laid_loop_example_pub_g03041_pub_dwarf_attrPtrClass), ("loop.example/pub-g03041/pub/dwarf.ErrUnknownPC", laid_loop_example_pub_g03041_pub_dwarf_ErrUnknownPC)], narrowed := true }
def FnTypeSizesUptoSaid : Prop := fnTypeSizesUptoRow.holds Tryz.pinned (OpenSpec.upto fnTypeSizesSpec)

/-- 'laws.FnTypesAre', WHERE WHAT IT READS IS OF BULK AT MOST 1048576: true; the input reads as it did. -/
def fnTypesAreUptoRow : OpenClaim := { program := "ytbgkbgoonjkghaagreatdoor", sum := "dd2ff5ad1819aedf4ad7d4614d125b75e4ffb689a4a5e200755d0112b9fded80", func := "loop.example/pub-g03041/laws.FnTypesAre", spec := "fnTypesAre", inPlace := ["internal/bytealg.IndexByte"], unfollowed := true, recurses := true, named := ["internal/strconv.uint64pow10", "math/bits.deBruijn32tab", "math/bits.deBruijn64tab", "loop.example/pub-g03041/pub/dwarf.attrIsExprloc", "loop.example/pub-g03041/pub/dwarf.attrPtrClass", "io.EOF", "loop.example/pub-g03041/pub/dwarf.ErrUnknownPC"], maps := true, ifaces := true, apart := false, laid := [("math/bits.deBruijn32tab", laid_math_bits_deBruijn32tab), ("math/bits.deBruijn64tab", laid_math_bits_deBruijn64tab), ("internal/strconv.uint64pow10", laid_internal_strconv_uint64pow10), ("io.EOF", laid_io_EOF), ("loop.example/pub-g03041/pub/dwarf.attrIsExprloc", laid_loop_example_pub_g03041_pub_dwarf_attrIsExprloc), ("loop.example/pub-g03041/pub/dwarf.attrPtrClass", laid_loop_example_pub_g03041_pub_dwarf_attrPtrClass), ("loop.example/pub-g03041/pub/dwarf.ErrUnknownPC", laid_loop_example_pub_g03041_pub_dwarf_ErrUnknownPC)], narrowed := true }
def FnTypesAreUptoSaid : Prop := fnTypesAreUptoRow.holds Tryz.pinned (OpenSpec.upto fnTypesAreSpec)

end Rows
end Go.Proofs.YtbgkbgoonjkghaaGreatDoor
