/-
  DERIVED. GIVEN WITH THE SEED: THE CARDS: each row of YtfkemfkleceeiaaDoorRows.lean that lists a variable, with what it lists TIED to the program's text (the seventh form; the later family's looks); each row that meets fmt, with fmt's text TOLD by the authors' own Lean function (tested against real Go, not proved from fmt's source: count such statements apart). THE CARD IS WHAT COUNTS. Prove the row's statement (the work); the ties are given (YtfkemfkleceeiaaDoorTie.lean); close each card by the builder's one call (the guide's Derived/Test/ToyasCard.lean, 'card_holds'). Laid BY PROGRAM, IN A SANDBOX (cutbox-door.mjs). By AI agents, Wed Nov 11 2026. No macro, syntax, notation, axiom, sorry.
-/
import Derived.Test.YtfkemfkleceeiaaDoorRows
import GoSem.ClaimSeven
namespace Go.Proofs.YtfkemfkleceeiaaDoor
namespace Rows

/-- THE TIED CARD OF 'laws.FnDistance'. -/
def fnDistanceCard : Claim7 := { stood := { row := fnDistanceRow, standIns := [], harness := (true, "4a144481c07bdec325ce679232018d687df45956466abd394da70967f949e192"), looks := false }, kinds := [], alts := [], laidByText := true, laidKinds := [.pinned], laidTests := true, laidLooks := .later }
def FnDistanceCardSaid : Prop := Claim7.holds Tryd.pinned (.plain (OpenSpec.ofChange fnDistanceSpec)) fnDistanceCard

/-- THE TIED CARD OF 'laws.FnEdits'. -/
def fnEditsCard : Claim7 := { stood := { row := fnEditsRow, standIns := [], harness := (true, "4a144481c07bdec325ce679232018d687df45956466abd394da70967f949e192"), looks := false }, kinds := [], alts := [], laidByText := true, laidKinds := [.pinned], laidTests := true, laidLooks := .later }
def FnEditsCardSaid : Prop := Claim7.holds Tryd.pinned (.plain (OpenSpec.ofChange fnEditsSpec)) fnEditsCard

/-- THE TIED CARD OF 'laws.FnTriangle'. -/
def fnTriangleCard : Claim7 := { stood := { row := fnTriangleRow, standIns := [], harness := (true, "4a144481c07bdec325ce679232018d687df45956466abd394da70967f949e192"), looks := false }, kinds := [], alts := [], laidByText := true, laidKinds := [.pinned], laidTests := true, laidLooks := .later }
def FnTriangleCardSaid : Prop := Claim7.holds Tryd.pinned (.plain (OpenSpec.ofChange fnTriangleSpec)) fnTriangleCard

/-- THE TIED CARD OF 'laws.FnMatch'. -/
def fnMatchCard : Claim7 := { stood := { row := fnMatchRow, standIns := [], harness := (true, "4a144481c07bdec325ce679232018d687df45956466abd394da70967f949e192"), looks := false }, kinds := [], alts := [], laidByText := true, laidKinds := [.pinned], laidTests := true, laidLooks := .later }
def FnMatchCardSaid : Prop := Claim7.holds Tryd.pinned (.plain (OpenSpec.ofChange fnMatchSpec)) fnMatchCard

/-- THE TIED CARD OF 'laws.FnFindIn'. -/
def fnFindInCard : Claim7 := { stood := { row := fnFindInRow, standIns := [], harness := (true, "4a144481c07bdec325ce679232018d687df45956466abd394da70967f949e192"), looks := false }, kinds := [], alts := [], laidByText := true, laidKinds := [.pinned], laidTests := true, laidLooks := .later }
def FnFindInCardSaid : Prop := Claim7.holds Tryd.pinned (.plain (OpenSpec.ofChange fnFindInSpec)) fnFindInCard

/-- THE TIED CARD OF 'laws.FnRank'. -/
def fnRankCard : Claim7 := { stood := { row := fnRankRow, standIns := [], harness := (true, "4a144481c07bdec325ce679232018d687df45956466abd394da70967f949e192"), looks := false }, kinds := [], alts := [], laidByText := true, laidKinds := [.pinned], laidTests := true, laidLooks := .later }
def FnRankCardSaid : Prop := Claim7.holds Tryd.pinned (.plain (OpenSpec.ofChange fnRankSpec)) fnRankCard

/-- THE TIED CARD OF 'laws.FnRankIsDistance'. -/
def fnRankIsDistanceCard : Claim7 := { stood := { row := fnRankIsDistanceRow, standIns := [], harness := (true, "4a144481c07bdec325ce679232018d687df45956466abd394da70967f949e192"), looks := false }, kinds := [], alts := [], laidByText := true, laidKinds := [.pinned], laidTests := true, laidLooks := .later }
def FnRankIsDistanceCardSaid : Prop := Claim7.holds Tryd.pinned (.plain (OpenSpec.ofChange fnRankIsDistanceSpec)) fnRankIsDistanceCard

/-- THE TIED CARD OF 'laws.FnRankFind'. -/
def fnRankFindCard : Claim7 := { stood := { row := fnRankFindRow, standIns := [], harness := (true, "4a144481c07bdec325ce679232018d687df45956466abd394da70967f949e192"), looks := false }, kinds := [], alts := [], laidByText := true, laidKinds := [.pinned], laidTests := true, laidLooks := .later }
def FnRankFindCardSaid : Prop := Claim7.holds Tryd.pinned (.plain (OpenSpec.ofChange fnRankFindSpec)) fnRankFindCard

/-- THE TIED CARD OF 'laws.FnRankSorted'. -/
def fnRankSortedCard : Claim7 := { stood := { row := fnRankSortedRow, standIns := [], harness := (true, "4a144481c07bdec325ce679232018d687df45956466abd394da70967f949e192"), looks := false }, kinds := [], alts := [], laidByText := true, laidKinds := [.pinned], laidTests := true, laidLooks := .later }
def FnRankSortedCardSaid : Prop := Claim7.holds Tryd.pinned (.plain (OpenSpec.ofChange fnRankSortedSpec)) fnRankSortedCard

/-- THE SECOND FORM's CARD OF 'laws.FnDistance'. -/
def fnDistanceUptoCard : Claim7 := { stood := { row := fnDistanceUptoRow, standIns := [], harness := (true, "4a144481c07bdec325ce679232018d687df45956466abd394da70967f949e192"), looks := false }, kinds := [], alts := [], laidByText := true, laidKinds := [.pinned], laidTests := true, laidLooks := .later }
def FnDistanceUptoCardSaid : Prop := Claim7.holds Tryd.pinned (.plain (OpenSpec.upto fnDistanceSpec)) fnDistanceUptoCard

/-- THE SECOND FORM's CARD OF 'laws.FnEdits'. -/
def fnEditsUptoCard : Claim7 := { stood := { row := fnEditsUptoRow, standIns := [], harness := (true, "4a144481c07bdec325ce679232018d687df45956466abd394da70967f949e192"), looks := false }, kinds := [], alts := [], laidByText := true, laidKinds := [.pinned], laidTests := true, laidLooks := .later }
def FnEditsUptoCardSaid : Prop := Claim7.holds Tryd.pinned (.plain (OpenSpec.upto fnEditsSpec)) fnEditsUptoCard

/-- THE SECOND FORM's CARD OF 'laws.FnTriangle'. -/
def fnTriangleUptoCard : Claim7 := { stood := { row := fnTriangleUptoRow, standIns := [], harness := (true, "4a144481c07bdec325ce679232018d687df45956466abd394da70967f949e192"), looks := false }, kinds := [], alts := [], laidByText := true, laidKinds := [.pinned], laidTests := true, laidLooks := .later }
def FnTriangleUptoCardSaid : Prop := Claim7.holds Tryd.pinned (.plain (OpenSpec.upto fnTriangleSpec)) fnTriangleUptoCard

/-- THE SECOND FORM's CARD OF 'laws.FnMatch'. -/
def fnMatchUptoCard : Claim7 := { stood := { row := fnMatchUptoRow, standIns := [], harness := (true, "4a144481c07bdec325ce679232018d687df45956466abd394da70967f949e192"), looks := false }, kinds := [], alts := [], laidByText := true, laidKinds := [.pinned], laidTests := true, laidLooks := .later }
def FnMatchUptoCardSaid : Prop := Claim7.holds Tryd.pinned (.plain (OpenSpec.upto fnMatchSpec)) fnMatchUptoCard

/-- THE SECOND FORM's CARD OF 'laws.FnFindIn'. -/
def fnFindInUptoCard : Claim7 := { stood := { row := fnFindInUptoRow, standIns := [], harness := (true, "4a144481c07bdec325ce679232018d687df45956466abd394da70967f949e192"), looks := false }, kinds := [], alts := [], laidByText := true, laidKinds := [.pinned], laidTests := true, laidLooks := .later }
def FnFindInUptoCardSaid : Prop := Claim7.holds Tryd.pinned (.plain (OpenSpec.upto fnFindInSpec)) fnFindInUptoCard

/-- THE SECOND FORM's CARD OF 'laws.FnRank'. -/
def fnRankUptoCard : Claim7 := { stood := { row := fnRankUptoRow, standIns := [], harness := (true, "4a144481c07bdec325ce679232018d687df45956466abd394da70967f949e192"), looks := false }, kinds := [], alts := [], laidByText := true, laidKinds := [.pinned], laidTests := true, laidLooks := .later }
def FnRankUptoCardSaid : Prop := Claim7.holds Tryd.pinned (.plain (OpenSpec.upto fnRankSpec)) fnRankUptoCard

/-- THE SECOND FORM's CARD OF 'laws.FnRankIsDistance'. -/
def fnRankIsDistanceUptoCard : Claim7 := { stood := { row := fnRankIsDistanceUptoRow, standIns := [], harness := (true, "4a144481c07bdec325ce679232018d687df45956466abd394da70967f949e192"), looks := false }, kinds := [], alts := [], laidByText := true, laidKinds := [.pinned], laidTests := true, laidLooks := .later }
def FnRankIsDistanceUptoCardSaid : Prop := Claim7.holds Tryd.pinned (.plain (OpenSpec.upto fnRankIsDistanceSpec)) fnRankIsDistanceUptoCard

/-- THE SECOND FORM's CARD OF 'laws.FnRankFind'. -/
def fnRankFindUptoCard : Claim7 := { stood := { row := fnRankFindUptoRow, standIns := [], harness := (true, "4a144481c07bdec325ce679232018d687df45956466abd394da70967f949e192"), looks := false }, kinds := [], alts := [], laidByText := true, laidKinds := [.pinned], laidTests := true, laidLooks := .later }
def FnRankFindUptoCardSaid : Prop := Claim7.holds Tryd.pinned (.plain (OpenSpec.upto fnRankFindSpec)) fnRankFindUptoCard

/-- THE SECOND FORM's CARD OF 'laws.FnRankSorted'. -/
def fnRankSortedUptoCard : Claim7 := { stood := { row := fnRankSortedUptoRow, standIns := [], harness := (true, "4a144481c07bdec325ce679232018d687df45956466abd394da70967f949e192"), looks := false }, kinds := [], alts := [], laidByText := true, laidKinds := [.pinned], laidTests := true, laidLooks := .later }
def FnRankSortedUptoCardSaid : Prop := Claim7.holds Tryd.pinned (.plain (OpenSpec.upto fnRankSortedSpec)) fnRankSortedUptoCard
end Rows
end Go.Proofs.YtfkemfkleceeiaaDoor
