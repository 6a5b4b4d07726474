/-
  DERIVED. GIVEN WITH THE SEED: THE CARDS: each row of YtbgkbgoonjkghaaGreatDoorRows.lean that lists a variable, with what it lists TIED to the program's text (the seventh form; the later family's looks); each row that meets fmt, with fmt's text TOLD by the authors' own Lean function (tested against real Go, not proved from fmt's source: count such statements apart). THE CARD IS WHAT COUNTS. Prove the row's statement (the work); the ties are given (YtbgkbgoonjkghaaGreatDoorTie.lean); close each card by the builder's one call (the guide's Derived/Test/ToyasCard.lean, 'card_holds'). Laid BY PROGRAM, IN A SANDBOX (cutbox-door.mjs). By AI agents, Wed Nov 11 2026. No macro, syntax, notation, axiom, sorry.
-/
import Derived.Test.YtbgkbgoonjkghaaGreatDoorRows
import GoSem.ClaimSeven
namespace Go.Proofs.YtbgkbgoonjkghaaGreatDoor
namespace Rows

/-- THE TIED CARD OF 'laws.FnTypeIs'. -/
def fnTypeIsCard : Claim7 := { stood := { row := fnTypeIsRow, standIns := [], harness := (true, "5bfc2104a31c676734a0ee88cb3d1252d552a2e3c3f5d78b189574f23f978593"), looks := true }, kinds := [], alts := [], laidByText := true, laidKinds := [.data, .data, .data, .sentinel, .mapped, .mapped, .sentinel], laidTests := true, laidLooks := .later }
def FnTypeIsCardSaid : Prop := Claim7.holds Tryz.pinned (.plain (OpenSpec.ofChange fnTypeIsSpec)) fnTypeIsCard

/-- THE TIED CARD OF 'laws.FnTypeLayouts'. -/
def fnTypeLayoutsCard : Claim7 := { stood := { row := fnTypeLayoutsRow, standIns := [], harness := (true, "5bfc2104a31c676734a0ee88cb3d1252d552a2e3c3f5d78b189574f23f978593"), looks := true }, kinds := [], alts := [], laidByText := true, laidKinds := [.data, .data, .data, .sentinel, .mapped, .mapped, .sentinel], laidTests := true, laidLooks := .later }
def FnTypeLayoutsCardSaid : Prop := Claim7.holds Tryz.pinned (.plain (OpenSpec.ofChange fnTypeLayoutsSpec)) fnTypeLayoutsCard

/-- THE TIED CARD OF 'laws.FnTypeSizes'. -/
def fnTypeSizesCard : Claim7 := { stood := { row := fnTypeSizesRow, standIns := [], harness := (true, "5bfc2104a31c676734a0ee88cb3d1252d552a2e3c3f5d78b189574f23f978593"), looks := true }, kinds := [], alts := [], laidByText := true, laidKinds := [.data, .data, .data, .sentinel, .mapped, .mapped, .sentinel], laidTests := true, laidLooks := .later }
def FnTypeSizesCardSaid : Prop := Claim7.holds Tryz.pinned (.plain (OpenSpec.ofChange fnTypeSizesSpec)) fnTypeSizesCard

/-- THE TIED CARD OF 'laws.FnTypesAre'. -/
def fnTypesAreCard : Claim7 := { stood := { row := fnTypesAreRow, standIns := [], harness := (true, "5bfc2104a31c676734a0ee88cb3d1252d552a2e3c3f5d78b189574f23f978593"), looks := true }, kinds := [], alts := [], laidByText := true, laidKinds := [.data, .data, .data, .sentinel, .mapped, .mapped, .sentinel], laidTests := true, laidLooks := .later }
def FnTypesAreCardSaid : Prop := Claim7.holds Tryz.pinned (.plain (OpenSpec.ofChange fnTypesAreSpec)) fnTypesAreCard

/-- THE SECOND FORM's CARD OF 'laws.FnTypeIs'. -/
def fnTypeIsUptoCard : Claim7 := { stood := { row := fnTypeIsUptoRow, standIns := [], harness := (true, "5bfc2104a31c676734a0ee88cb3d1252d552a2e3c3f5d78b189574f23f978593"), looks := true }, kinds := [], alts := [], laidByText := true, laidKinds := [.data, .data, .data, .sentinel, .mapped, .mapped, .sentinel], laidTests := true, laidLooks := .later }
def FnTypeIsUptoCardSaid : Prop := Claim7.holds Tryz.pinned (.plain (OpenSpec.upto fnTypeIsSpec)) fnTypeIsUptoCard

/-- THE SECOND FORM's CARD OF 'laws.FnTypeLayouts'. -/
def fnTypeLayoutsUptoCard : Claim7 := { stood := { row := fnTypeLayoutsUptoRow, standIns := [], harness := (true, "5bfc2104a31c676734a0ee88cb3d1252d552a2e3c3f5d78b189574f23f978593"), looks := true }, kinds := [], alts := [], laidByText := true, laidKinds := [.data, .data, .data, .sentinel, .mapped, .mapped, .sentinel], laidTests := true, laidLooks := .later }
def FnTypeLayoutsUptoCardSaid : Prop := Claim7.holds Tryz.pinned (.plain (OpenSpec.upto fnTypeLayoutsSpec)) fnTypeLayoutsUptoCard

/-- THE SECOND FORM's CARD OF 'laws.FnTypeSizes'. -/
def fnTypeSizesUptoCard : Claim7 := { stood := { row := fnTypeSizesUptoRow, standIns := [], harness := (true, "5bfc2104a31c676734a0ee88cb3d1252d552a2e3c3f5d78b189574f23f978593"), looks := true }, kinds := [], alts := [], laidByText := true, laidKinds := [.data, .data, .data, .sentinel, .mapped, .mapped, .sentinel], laidTests := true, laidLooks := .later }
def FnTypeSizesUptoCardSaid : Prop := Claim7.holds Tryz.pinned (.plain (OpenSpec.upto fnTypeSizesSpec)) fnTypeSizesUptoCard

/-- THE SECOND FORM's CARD OF 'laws.FnTypesAre'. -/
def fnTypesAreUptoCard : Claim7 := { stood := { row := fnTypesAreUptoRow, standIns := [], harness := (true, "5bfc2104a31c676734a0ee88cb3d1252d552a2e3c3f5d78b189574f23f978593"), looks := true }, kinds := [], alts := [], laidByText := true, laidKinds := [.data, .data, .data, .sentinel, .mapped, .mapped, .sentinel], laidTests := true, laidLooks := .later }
def FnTypesAreUptoCardSaid : Prop := Claim7.holds Tryz.pinned (.plain (OpenSpec.upto fnTypesAreSpec)) fnTypesAreUptoCard
end Rows
end Go.Proofs.YtbgkbgoonjkghaaGreatDoor
