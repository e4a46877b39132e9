/-
  DERIVED. GIVEN WITH THE SEED: THE CARDS: each row of YtedbfoknfdiadaaGreatDoorRows.lean that lists a variable, with what it lists TIED to the program's text (the seventh form; the later family's looks); each row that meets fmt, with fmt's text TOLD by the authors' own Lean function (tested against real Go, not proved from fmt's source: count such statements apart). THE CARD IS WHAT COUNTS. Prove the row's statement (the work); the ties are given (YtedbfoknfdiadaaGreatDoorTie.lean); close each card by the builder's one call (the guide's Derived/Test/ToyasCard.lean, 'card_holds'). Laid BY PROGRAM, IN A SANDBOX (cutbox-door.mjs). By AI agents, Wed Nov 11 2026. No macro, syntax, notation, axiom, sorry.
-/
import Derived.Test.YtedbfoknfdiadaaGreatDoorRows
import GoSem.ClaimSeven
namespace Go.Proofs.YtedbfoknfdiadaaGreatDoor
namespace Rows

/-- THE TIED CARD OF 'laws.FnNormalize'. -/
def fnNormalizeCard : Claim7 := { stood := { row := fnNormalizeRow, standIns := [], harness := (true, "2d145e32654902b6fde4bbd85285d66312d830246fc44d9610a5c3d44659949f"), looks := true }, kinds := [], alts := [], laidByText := true, laidKinds := [.data, .data, .data, .data, .sentinel, .sentinel, .pinned, .pinned], laidTests := true, laidLooks := .later }
def FnNormalizeCardSaid : Prop := Claim7.holds Tryz.pinned (.plain (OpenSpec.ofChange fnNormalizeSpec)) fnNormalizeCard

/-- THE TIED CARD OF 'laws.FnNormalizeApart'. -/
def fnNormalizeApartCard : Claim7 := { stood := { row := fnNormalizeApartRow, standIns := [], harness := (true, "2d145e32654902b6fde4bbd85285d66312d830246fc44d9610a5c3d44659949f"), looks := true }, kinds := [], alts := [], laidByText := true, laidKinds := [.data, .data, .data, .data, .sentinel, .sentinel, .pinned, .pinned], laidTests := true, laidLooks := .later }
def FnNormalizeApartCardSaid : Prop := Claim7.holds Tryz.pinned (.plain (OpenSpec.ofChange fnNormalizeApartSpec)) fnNormalizeApartCard

/-- THE TIED CARD OF 'laws.FnNormalizeTwice'. -/
def fnNormalizeTwiceCard : Claim7 := { stood := { row := fnNormalizeTwiceRow, standIns := [], harness := (true, "2d145e32654902b6fde4bbd85285d66312d830246fc44d9610a5c3d44659949f"), looks := true }, kinds := [], alts := [], laidByText := true, laidKinds := [.data, .data, .data, .data, .sentinel, .sentinel, .pinned, .pinned], laidTests := true, laidLooks := .later }
def FnNormalizeTwiceCardSaid : Prop := Claim7.holds Tryz.pinned (.plain (OpenSpec.ofChange fnNormalizeTwiceSpec)) fnNormalizeTwiceCard

/-- THE TIED CARD OF 'laws.FnNormalizeRoads'. -/
def fnNormalizeRoadsCard : Claim7 := { stood := { row := fnNormalizeRoadsRow, standIns := [], harness := (true, "2d145e32654902b6fde4bbd85285d66312d830246fc44d9610a5c3d44659949f"), looks := true }, kinds := [], alts := [], laidByText := true, laidKinds := [.data, .data, .data, .data, .sentinel, .sentinel, .pinned, .pinned], laidTests := true, laidLooks := .later }
def FnNormalizeRoadsCardSaid : Prop := Claim7.holds Tryz.pinned (.plain (OpenSpec.ofChange fnNormalizeRoadsSpec)) fnNormalizeRoadsCard

/-- THE SECOND FORM's CARD OF 'laws.FnNormalize'. -/
def fnNormalizeUptoCard : Claim7 := { stood := { row := fnNormalizeUptoRow, standIns := [], harness := (true, "2d145e32654902b6fde4bbd85285d66312d830246fc44d9610a5c3d44659949f"), looks := true }, kinds := [], alts := [], laidByText := true, laidKinds := [.data, .data, .data, .data, .sentinel, .sentinel, .pinned, .pinned], laidTests := true, laidLooks := .later }
def FnNormalizeUptoCardSaid : Prop := Claim7.holds Tryz.pinned (.plain (OpenSpec.upto fnNormalizeSpec)) fnNormalizeUptoCard

/-- THE SECOND FORM's CARD OF 'laws.FnNormalizeApart'. -/
def fnNormalizeApartUptoCard : Claim7 := { stood := { row := fnNormalizeApartUptoRow, standIns := [], harness := (true, "2d145e32654902b6fde4bbd85285d66312d830246fc44d9610a5c3d44659949f"), looks := true }, kinds := [], alts := [], laidByText := true, laidKinds := [.data, .data, .data, .data, .sentinel, .sentinel, .pinned, .pinned], laidTests := true, laidLooks := .later }
def FnNormalizeApartUptoCardSaid : Prop := Claim7.holds Tryz.pinned (.plain (OpenSpec.upto fnNormalizeApartSpec)) fnNormalizeApartUptoCard

/-- THE SECOND FORM's CARD OF 'laws.FnNormalizeTwice'. -/
def fnNormalizeTwiceUptoCard : Claim7 := { stood := { row := fnNormalizeTwiceUptoRow, standIns := [], harness := (true, "2d145e32654902b6fde4bbd85285d66312d830246fc44d9610a5c3d44659949f"), looks := true }, kinds := [], alts := [], laidByText := true, laidKinds := [.data, .data, .data, .data, .sentinel, .sentinel, .pinned, .pinned], laidTests := true, laidLooks := .later }
def FnNormalizeTwiceUptoCardSaid : Prop := Claim7.holds Tryz.pinned (.plain (OpenSpec.upto fnNormalizeTwiceSpec)) fnNormalizeTwiceUptoCard

/-- THE SECOND FORM's CARD OF 'laws.FnNormalizeRoads'. -/
def fnNormalizeRoadsUptoCard : Claim7 := { stood := { row := fnNormalizeRoadsUptoRow, standIns := [], harness := (true, "2d145e32654902b6fde4bbd85285d66312d830246fc44d9610a5c3d44659949f"), looks := true }, kinds := [], alts := [], laidByText := true, laidKinds := [.data, .data, .data, .data, .sentinel, .sentinel, .pinned, .pinned], laidTests := true, laidLooks := .later }
def FnNormalizeRoadsUptoCardSaid : Prop := Claim7.holds Tryz.pinned (.plain (OpenSpec.upto fnNormalizeRoadsSpec)) fnNormalizeRoadsUptoCard
end Rows
end Go.Proofs.YtedbfoknfdiadaaGreatDoor
