/-
  DERIVED. GIVEN WITH THE SEED: THE CARDS: each row of YtgeimklpcfepaaaDoorRows.lean that lists a variable, with what it lists TIED to the program's text (the seventh form; the later family's looks); each row that meets fmt, with fmt's text TOLD by the authors' own Lean function (tested against real Go, not proved from fmt's source: count such statements apart). THE CARD IS WHAT COUNTS. Prove the row's statement (the work); the ties are given (YtgeimklpcfepaaaDoorTie.lean); close each card by the builder's one call (the guide's Derived/Test/ToyasCard.lean, 'card_holds'). Laid BY PROGRAM, IN A SANDBOX (cutbox-door.mjs). By AI agents, Wed Nov 11 2026. No macro, syntax, notation, axiom, sorry.
-/
import Derived.Test.YtgeimklpcfepaaaDoorRows
import GoSem.ClaimSeven
namespace Go.Proofs.YtgeimklpcfepaaaDoor
namespace Rows

/-- THE TIED CARD OF 'laws.FnFindNoSort'. -/
def fnFindNoSortCard : Claim7 := { stood := { row := fnFindNoSortRow, standIns := [], harness := (true, "3af22bfb1da941f57289f018782ab57fe2bca987288c8f0c5cfb6e2a08783cf6"), looks := false }, kinds := [], alts := [], laidByText := true, laidKinds := [.data, .data, .data, .data, .pinned, .pinned, .pinned, .pinned], laidTests := true, laidLooks := .later }
def FnFindNoSortCardSaid : Prop := Claim7.holds Tryd.pinned (.plain (OpenSpec.ofChange fnFindNoSortSpec)) fnFindNoSortCard

/-- THE TIED CARD OF 'laws.FnFindsAll'. -/
def fnFindsAllCard : Claim7 := { stood := { row := fnFindsAllRow, standIns := [], harness := (true, "3af22bfb1da941f57289f018782ab57fe2bca987288c8f0c5cfb6e2a08783cf6"), looks := false }, kinds := [], alts := [], laidByText := true, laidKinds := [.data, .data, .data, .data, .pinned, .pinned, .pinned, .pinned], laidTests := true, laidLooks := .later }
def FnFindsAllCardSaid : Prop := Claim7.holds Tryd.pinned (.plain (OpenSpec.ofChange fnFindsAllSpec)) fnFindsAllCard

/-- THE TIED CARD OF 'laws.FnCases'. -/
def fnCasesCard : Claim7 := { stood := { row := fnCasesRow, standIns := [], harness := (true, "3af22bfb1da941f57289f018782ab57fe2bca987288c8f0c5cfb6e2a08783cf6"), looks := false }, kinds := [], alts := [], laidByText := true, laidKinds := [.data, .data, .data, .data, .pinned, .pinned, .pinned, .pinned], laidTests := true, laidLooks := .later }
def FnCasesCardSaid : Prop := Claim7.holds Tryd.pinned (.plain (OpenSpec.ofChange fnCasesSpec)) fnCasesCard

/-- THE TIED CARD OF 'laws.FnFind'. -/
def fnFindCard : Claim7 := { stood := { row := fnFindRow, standIns := [], harness := (true, "3af22bfb1da941f57289f018782ab57fe2bca987288c8f0c5cfb6e2a08783cf6"), looks := false }, kinds := [], alts := [], laidByText := true, laidKinds := [.data, .data, .data, .data, .pinned, .pinned, .pinned, .pinned], laidTests := true, laidLooks := .later }
def FnFindCardSaid : Prop := Claim7.holds Tryd.pinned (.plain (OpenSpec.ofChange fnFindSpec)) fnFindCard

/-- THE TIED CARD OF 'laws.FnPlaces'. -/
def fnPlacesCard : Claim7 := { stood := { row := fnPlacesRow, standIns := [], harness := (true, "3af22bfb1da941f57289f018782ab57fe2bca987288c8f0c5cfb6e2a08783cf6"), looks := false }, kinds := [], alts := [], laidByText := true, laidKinds := [.data, .data, .data, .data, .pinned, .pinned, .pinned, .pinned], laidTests := true, laidLooks := .later }
def FnPlacesCardSaid : Prop := Claim7.holds Tryd.pinned (.plain (OpenSpec.ofChange fnPlacesSpec)) fnPlacesCard

/-- THE SECOND FORM's CARD OF 'laws.FnFindNoSort'. -/
def fnFindNoSortUptoCard : Claim7 := { stood := { row := fnFindNoSortUptoRow, standIns := [], harness := (true, "3af22bfb1da941f57289f018782ab57fe2bca987288c8f0c5cfb6e2a08783cf6"), looks := false }, kinds := [], alts := [], laidByText := true, laidKinds := [.data, .data, .data, .data, .pinned, .pinned, .pinned, .pinned], laidTests := true, laidLooks := .later }
def FnFindNoSortUptoCardSaid : Prop := Claim7.holds Tryd.pinned (.plain (OpenSpec.upto fnFindNoSortSpec)) fnFindNoSortUptoCard

/-- THE SECOND FORM's CARD OF 'laws.FnFindsAll'. -/
def fnFindsAllUptoCard : Claim7 := { stood := { row := fnFindsAllUptoRow, standIns := [], harness := (true, "3af22bfb1da941f57289f018782ab57fe2bca987288c8f0c5cfb6e2a08783cf6"), looks := false }, kinds := [], alts := [], laidByText := true, laidKinds := [.data, .data, .data, .data, .pinned, .pinned, .pinned, .pinned], laidTests := true, laidLooks := .later }
def FnFindsAllUptoCardSaid : Prop := Claim7.holds Tryd.pinned (.plain (OpenSpec.upto fnFindsAllSpec)) fnFindsAllUptoCard

/-- THE SECOND FORM's CARD OF 'laws.FnCases'. -/
def fnCasesUptoCard : Claim7 := { stood := { row := fnCasesUptoRow, standIns := [], harness := (true, "3af22bfb1da941f57289f018782ab57fe2bca987288c8f0c5cfb6e2a08783cf6"), looks := false }, kinds := [], alts := [], laidByText := true, laidKinds := [.data, .data, .data, .data, .pinned, .pinned, .pinned, .pinned], laidTests := true, laidLooks := .later }
def FnCasesUptoCardSaid : Prop := Claim7.holds Tryd.pinned (.plain (OpenSpec.upto fnCasesSpec)) fnCasesUptoCard

/-- THE SECOND FORM's CARD OF 'laws.FnFind'. -/
def fnFindUptoCard : Claim7 := { stood := { row := fnFindUptoRow, standIns := [], harness := (true, "3af22bfb1da941f57289f018782ab57fe2bca987288c8f0c5cfb6e2a08783cf6"), looks := false }, kinds := [], alts := [], laidByText := true, laidKinds := [.data, .data, .data, .data, .pinned, .pinned, .pinned, .pinned], laidTests := true, laidLooks := .later }
def FnFindUptoCardSaid : Prop := Claim7.holds Tryd.pinned (.plain (OpenSpec.upto fnFindSpec)) fnFindUptoCard

/-- THE SECOND FORM's CARD OF 'laws.FnPlaces'. -/
def fnPlacesUptoCard : Claim7 := { stood := { row := fnPlacesUptoRow, standIns := [], harness := (true, "3af22bfb1da941f57289f018782ab57fe2bca987288c8f0c5cfb6e2a08783cf6"), looks := false }, kinds := [], alts := [], laidByText := true, laidKinds := [.data, .data, .data, .data, .pinned, .pinned, .pinned, .pinned], laidTests := true, laidLooks := .later }
def FnPlacesUptoCardSaid : Prop := Claim7.holds Tryd.pinned (.plain (OpenSpec.upto fnPlacesSpec)) fnPlacesUptoCard
end Rows
end Go.Proofs.YtgeimklpcfepaaaDoor
