/-
  DERIVED. GIVEN WITH THE SEED: THE CARDS: each row of YtpofkokbmifhgaaGreatDoorRows.lean that lists a variable, with what it lists TIED to the program's text (the seventh form; the later family's looks); each row that meets fmt, with fmt's text TOLD by the authors' own Lean function (tested against real Go, not proved from fmt's source: count such statements apart). THE CARD IS WHAT COUNTS. Prove the row's statement (the work); the ties are given (YtpofkokbmifhgaaGreatDoorTie.lean); close each card by the builder's one call (the guide's Derived/Test/ToyasCard.lean, 'card_holds'). Laid BY PROGRAM, IN A SANDBOX (cutbox-door.mjs). By AI agents, Wed Nov 11 2026. No macro, syntax, notation, axiom, sorry.
-/
import Derived.Test.YtpofkokbmifhgaaGreatDoorRows
import GoSem.ClaimSeven
namespace Go.Proofs.YtpofkokbmifhgaaGreatDoor
namespace Rows

/-- THE TIED CARD OF 'laws.FnCanonical'. -/
def fnCanonicalCard : Claim7 := { stood := { row := fnCanonicalRow, standIns := [], harness := (true, "fe8ad41d2b51de101aec0d507424f4ae55216667f13e7beabf8528190df61185"), looks := true }, kinds := [], alts := [], laidByText := true, laidKinds := [.data, .data, .data, .data, .data, .pinned, .pinned], laidTests := true, laidLooks := .later }
def FnCanonicalCardSaid : Prop := Claim7.holds Tryz.pinned (.plain (OpenSpec.ofChange fnCanonicalSpec)) fnCanonicalCard

/-- THE TIED CARD OF 'laws.FnCanonAgain'. -/
def fnCanonAgainCard : Claim7 := { stood := { row := fnCanonAgainRow, standIns := [], harness := (true, "fe8ad41d2b51de101aec0d507424f4ae55216667f13e7beabf8528190df61185"), looks := true }, kinds := [], alts := [], laidByText := true, laidKinds := [.data, .data, .data, .data, .data, .pinned, .pinned], laidTests := true, laidLooks := .later }
def FnCanonAgainCardSaid : Prop := Claim7.holds Tryz.pinned (.plain (OpenSpec.ofChange fnCanonAgainSpec)) fnCanonAgainCard

/-- THE TIED CARD OF 'laws.FnCanonLong'. -/
def fnCanonLongCard : Claim7 := { stood := { row := fnCanonLongRow, standIns := [], harness := (true, "fe8ad41d2b51de101aec0d507424f4ae55216667f13e7beabf8528190df61185"), looks := true }, kinds := [], alts := [], laidByText := true, laidKinds := [.data, .data, .data, .data, .data, .pinned, .pinned], laidTests := true, laidLooks := .later }
def FnCanonLongCardSaid : Prop := Claim7.holds Tryz.pinned (.plain (OpenSpec.ofChange fnCanonLongSpec)) fnCanonLongCard

/-- THE TIED CARD OF 'laws.FnMergeModels'. -/
def fnMergeModelsCard : Claim7 := { stood := { row := fnMergeModelsRow, standIns := [], harness := (true, "fe8ad41d2b51de101aec0d507424f4ae55216667f13e7beabf8528190df61185"), looks := true }, kinds := [], alts := [], laidByText := true, laidKinds := [.data, .data, .data, .data, .data, .pinned, .pinned], laidTests := true, laidLooks := .later }
def FnMergeModelsCardSaid : Prop := Claim7.holds Tryz.pinned (.plain (OpenSpec.ofChange fnMergeModelsSpec)) fnMergeModelsCard

/-- THE TIED CARD OF 'laws.FnMergeService'. -/
def fnMergeServiceCard : Claim7 := { stood := { row := fnMergeServiceRow, standIns := [], harness := (true, "fe8ad41d2b51de101aec0d507424f4ae55216667f13e7beabf8528190df61185"), looks := true }, kinds := [], alts := [], laidByText := true, laidKinds := [.data, .data, .data, .data, .data, .pinned, .pinned], laidTests := true, laidLooks := .later }
def FnMergeServiceCardSaid : Prop := Claim7.holds Tryz.pinned (.plain (OpenSpec.ofChange fnMergeServiceSpec)) fnMergeServiceCard

/-- THE SECOND FORM's CARD OF 'laws.FnCanonical'. -/
def fnCanonicalUptoCard : Claim7 := { stood := { row := fnCanonicalUptoRow, standIns := [], harness := (true, "fe8ad41d2b51de101aec0d507424f4ae55216667f13e7beabf8528190df61185"), looks := true }, kinds := [], alts := [], laidByText := true, laidKinds := [.data, .data, .data, .data, .data, .pinned, .pinned], laidTests := true, laidLooks := .later }
def FnCanonicalUptoCardSaid : Prop := Claim7.holds Tryz.pinned (.plain (OpenSpec.upto fnCanonicalSpec)) fnCanonicalUptoCard

/-- THE SECOND FORM's CARD OF 'laws.FnCanonAgain'. -/
def fnCanonAgainUptoCard : Claim7 := { stood := { row := fnCanonAgainUptoRow, standIns := [], harness := (true, "fe8ad41d2b51de101aec0d507424f4ae55216667f13e7beabf8528190df61185"), looks := true }, kinds := [], alts := [], laidByText := true, laidKinds := [.data, .data, .data, .data, .data, .pinned, .pinned], laidTests := true, laidLooks := .later }
def FnCanonAgainUptoCardSaid : Prop := Claim7.holds Tryz.pinned (.plain (OpenSpec.upto fnCanonAgainSpec)) fnCanonAgainUptoCard

/-- THE SECOND FORM's CARD OF 'laws.FnCanonLong'. -/
def fnCanonLongUptoCard : Claim7 := { stood := { row := fnCanonLongUptoRow, standIns := [], harness := (true, "fe8ad41d2b51de101aec0d507424f4ae55216667f13e7beabf8528190df61185"), looks := true }, kinds := [], alts := [], laidByText := true, laidKinds := [.data, .data, .data, .data, .data, .pinned, .pinned], laidTests := true, laidLooks := .later }
def FnCanonLongUptoCardSaid : Prop := Claim7.holds Tryz.pinned (.plain (OpenSpec.upto fnCanonLongSpec)) fnCanonLongUptoCard

/-- THE SECOND FORM's CARD OF 'laws.FnMergeModels'. -/
def fnMergeModelsUptoCard : Claim7 := { stood := { row := fnMergeModelsUptoRow, standIns := [], harness := (true, "fe8ad41d2b51de101aec0d507424f4ae55216667f13e7beabf8528190df61185"), looks := true }, kinds := [], alts := [], laidByText := true, laidKinds := [.data, .data, .data, .data, .data, .pinned, .pinned], laidTests := true, laidLooks := .later }
def FnMergeModelsUptoCardSaid : Prop := Claim7.holds Tryz.pinned (.plain (OpenSpec.upto fnMergeModelsSpec)) fnMergeModelsUptoCard

/-- THE SECOND FORM's CARD OF 'laws.FnMergeService'. -/
def fnMergeServiceUptoCard : Claim7 := { stood := { row := fnMergeServiceUptoRow, standIns := [], harness := (true, "fe8ad41d2b51de101aec0d507424f4ae55216667f13e7beabf8528190df61185"), looks := true }, kinds := [], alts := [], laidByText := true, laidKinds := [.data, .data, .data, .data, .data, .pinned, .pinned], laidTests := true, laidLooks := .later }
def FnMergeServiceUptoCardSaid : Prop := Claim7.holds Tryz.pinned (.plain (OpenSpec.upto fnMergeServiceSpec)) fnMergeServiceUptoCard
end Rows
end Go.Proofs.YtpofkokbmifhgaaGreatDoor
