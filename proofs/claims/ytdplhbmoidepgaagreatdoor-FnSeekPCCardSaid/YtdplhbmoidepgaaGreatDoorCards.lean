/-
  DERIVED. GIVEN WITH THE SEED: THE CARDS: each row of YtdplhbmoidepgaaGreatDoorRows.lean that lists a variable, with what it lists TIED to the program's text (the seventh form; the later family's looks); each row that meets fmt, with fmt's text TOLD by the authors' own Lean function (tested against real Go, not proved from fmt's source: count such statements apart). THE CARD IS WHAT COUNTS. Prove the row's statement (the work); the ties are given (YtdplhbmoidepgaaGreatDoorTie.lean); close each card by the builder's one call (the guide's Derived/Test/ToyasCard.lean, 'card_holds'). Laid BY PROGRAM, IN A SANDBOX (cutbox-door.mjs). By AI agents, Wed Nov 11 2026. No macro, syntax, notation, axiom, sorry.
-/
import Derived.Test.YtdplhbmoidepgaaGreatDoorRows
import GoSem.ClaimSeven
namespace Go.Proofs.YtdplhbmoidepgaaGreatDoor
namespace Rows

/-- THE TIED CARD OF 'laws.FnIsBig'. -/
def fnIsBigCard : Claim7 := { stood := { row := fnIsBigRow, standIns := [], harness := (true, "a5242c13af89755f857ca7ad865eecf6406354a9cb09194a5d62af3dbe933335"), looks := true }, kinds := [], alts := [], laidByText := true, laidKinds := [.data, .data, .data, .sentinel, .mapped, .mapped, .sentinel], laidTests := true, laidLooks := .later }
def FnIsBigCardSaid : Prop := Claim7.holds Tryz.pinned (.plain (OpenSpec.ofChange fnIsBigSpec)) fnIsBigCard

/-- THE TIED CARD OF 'laws.FnRangesAre'. -/
def fnRangesAreCard : Claim7 := { stood := { row := fnRangesAreRow, standIns := [], harness := (true, "a5242c13af89755f857ca7ad865eecf6406354a9cb09194a5d62af3dbe933335"), looks := true }, kinds := [], alts := [], laidByText := true, laidKinds := [.data, .data, .data, .sentinel, .mapped, .mapped, .sentinel], laidTests := true, laidLooks := .later }
def FnRangesAreCardSaid : Prop := Claim7.holds Tryz.pinned (.plain (OpenSpec.ofChange fnRangesAreSpec)) fnRangesAreCard

/-- THE TIED CARD OF 'laws.FnRangesNone'. -/
def fnRangesNoneCard : Claim7 := { stood := { row := fnRangesNoneRow, standIns := [], harness := (true, "a5242c13af89755f857ca7ad865eecf6406354a9cb09194a5d62af3dbe933335"), looks := true }, kinds := [], alts := [], laidByText := true, laidKinds := [.data, .data, .data, .sentinel, .mapped, .mapped, .sentinel], laidTests := true, laidLooks := .later }
def FnRangesNoneCardSaid : Prop := Claim7.holds Tryz.pinned (.plain (OpenSpec.ofChange fnRangesNoneSpec)) fnRangesNoneCard

/-- THE TIED CARD OF 'laws.FnSeekPC'. -/
def fnSeekPCCard : Claim7 := { stood := { row := fnSeekPCRow, standIns := [], harness := (true, "a5242c13af89755f857ca7ad865eecf6406354a9cb09194a5d62af3dbe933335"), looks := true }, kinds := [], alts := [], laidByText := true, laidKinds := [.data, .data, .data, .sentinel, .mapped, .mapped, .sentinel], laidTests := true, laidLooks := .later }
def FnSeekPCCardSaid : Prop := Claim7.holds Tryz.pinned (.plain (OpenSpec.ofChange fnSeekPCSpec)) fnSeekPCCard

/-- THE SECOND FORM's CARD OF 'laws.FnIsBig'. -/
def fnIsBigUptoCard : Claim7 := { stood := { row := fnIsBigUptoRow, standIns := [], harness := (true, "a5242c13af89755f857ca7ad865eecf6406354a9cb09194a5d62af3dbe933335"), looks := true }, kinds := [], alts := [], laidByText := true, laidKinds := [.data, .data, .data, .sentinel, .mapped, .mapped, .sentinel], laidTests := true, laidLooks := .later }
def FnIsBigUptoCardSaid : Prop := Claim7.holds Tryz.pinned (.plain (OpenSpec.upto fnIsBigSpec)) fnIsBigUptoCard

/-- THE SECOND FORM's CARD OF 'laws.FnRangesAre'. -/
def fnRangesAreUptoCard : Claim7 := { stood := { row := fnRangesAreUptoRow, standIns := [], harness := (true, "a5242c13af89755f857ca7ad865eecf6406354a9cb09194a5d62af3dbe933335"), looks := true }, kinds := [], alts := [], laidByText := true, laidKinds := [.data, .data, .data, .sentinel, .mapped, .mapped, .sentinel], laidTests := true, laidLooks := .later }
def FnRangesAreUptoCardSaid : Prop := Claim7.holds Tryz.pinned (.plain (OpenSpec.upto fnRangesAreSpec)) fnRangesAreUptoCard

/-- THE SECOND FORM's CARD OF 'laws.FnRangesNone'. -/
def fnRangesNoneUptoCard : Claim7 := { stood := { row := fnRangesNoneUptoRow, standIns := [], harness := (true, "a5242c13af89755f857ca7ad865eecf6406354a9cb09194a5d62af3dbe933335"), looks := true }, kinds := [], alts := [], laidByText := true, laidKinds := [.data, .data, .data, .sentinel, .mapped, .mapped, .sentinel], laidTests := true, laidLooks := .later }
def FnRangesNoneUptoCardSaid : Prop := Claim7.holds Tryz.pinned (.plain (OpenSpec.upto fnRangesNoneSpec)) fnRangesNoneUptoCard

/-- THE SECOND FORM's CARD OF 'laws.FnSeekPC'. -/
def fnSeekPCUptoCard : Claim7 := { stood := { row := fnSeekPCUptoRow, standIns := [], harness := (true, "a5242c13af89755f857ca7ad865eecf6406354a9cb09194a5d62af3dbe933335"), looks := true }, kinds := [], alts := [], laidByText := true, laidKinds := [.data, .data, .data, .sentinel, .mapped, .mapped, .sentinel], laidTests := true, laidLooks := .later }
def FnSeekPCUptoCardSaid : Prop := Claim7.holds Tryz.pinned (.plain (OpenSpec.upto fnSeekPCSpec)) fnSeekPCUptoCard
end Rows
end Go.Proofs.YtdplhbmoidepgaaGreatDoor
