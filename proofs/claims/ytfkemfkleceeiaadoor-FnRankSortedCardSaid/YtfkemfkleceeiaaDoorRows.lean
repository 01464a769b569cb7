/-
  NARROWER THAN 'FOR EVERY INPUT', by the rows' own cells (each row's printed sentence says how): FnDistance: laid · FnEdits: laid · FnTriangle: laid · FnMatch: laid · FnFindIn: laid · FnRank: laid · FnRankIsDistance: laid · FnRankFind: laid · FnRankSorted: laid.
  DERIVED. THE GIVEN ROWS OF THIS SEAT. 9 by the template 'for every input the law returns true; each argument reads behind the call as it read before'; 0 by the template 'total and deterministic' (their statements: YtfkemfkleceeiaaDoorTotals.lean).
  GIVEN WITH THE SEED: the statements are not yours to turn. If you find one false, say at which input.
  Laid BY PROGRAM, IN A SANDBOX (cutbox-rows.mjs): the forced cells as the released guide's own fill.sh prints them over the translation fc929a14f28e28ae… (all of the seat's roots in one cut). By AI agents, Wed Nov 11 2026. No macro, syntax, notation, axiom, sorry.
-/
import Derived.Test.YtfkemfkleceeiaaDoorChecked
import GoSem.PinnedTables
import GoSem.Claim
import GoSem.ClaimJoined
import GoSem.ClaimMapViews
import Derived.JoinedTies
import Derived.KernelRfl
namespace Go.Proofs.YtfkemfkleceeiaaDoor
/- THE CELL 'sum', in the pinned program and in every row, IS THE sha256 OF THE DUMP (.gsa) THAT YtfkemfkleceeiaaDoorProg.lean LOADS. Nothing in Lean hashes anything: it is a label: what it is worth is what the hold of that sum in a sandbox is worth. -/
noncomputable def Tryd.pinned : Pinned := { name := "ytfkemfkleceeiaadoor", sum := "fc929a14f28e28aed5bb4034509a8b6c73d5b05c1b4e2d68838e38766f82f631", checked := Tryd.checked }
namespace Rows
def none {H : Type} : Left H := { results := [], args := [] }

/- WHAT THE LISTED PACKAGE-LEVEL VARIABLES READ AS WHEN THE CALL BEGINS. Each datum BY PROGRAM (the guide's laid-datum.mjs) off the statement by which the dump's own 'gosem.cut.vars' lays the variable. In a bare row this is a premise. The card (YtfkemfkleceeiaaDoorCards.lean) ties it to the program's text. -/
/-- One of Go's own tables, pinned by name: the form's constant. -/
def laid_unicode_CaseRanges : DataW Unit := Go.Pinned.caseRanges

/-- 'laws.FnDistance': WHATEVER THE INPUT: true; the input reads as it did. -/
def fnDistanceSpec : ChangeSpec := { name := "fnDistance", fn := fun _ => fun
  | [d1, d2] => { results := [.lit (.bool true)], args := [d1, d2] }
  | _ => none }
def fnDistanceRow : OpenClaim := { program := "ytfkemfkleceeiaadoor", sum := "fc929a14f28e28aed5bb4034509a8b6c73d5b05c1b4e2d68838e38766f82f631", func := "loop.example/pub-g03357/laws.FnDistance", spec := "fnDistance", named := ["unicode.CaseRanges"], apart := false, laid := [("unicode.CaseRanges", laid_unicode_CaseRanges)] }
def FnDistanceSaid : Prop := fnDistanceRow.holds Tryd.pinned (OpenSpec.ofChange fnDistanceSpec)

/-- ITS FALSE NEIGHBOUR: 'it returns false'. Refute it at one input. -/
def fnDistanceWrong : ChangeSpec := { name := "fnDistance", fn := fun _ => fun
  | [d1, d2] => { results := [.lit (.bool false)], args := [d1, d2] }
  | _ => none }
def FnDistanceWrongFalsely : Prop := fnDistanceRow.holds Tryd.pinned (OpenSpec.ofChange fnDistanceWrong)

/-- 'laws.FnEdits': WHATEVER THE INPUT: true; the input reads as it did. -/
def fnEditsSpec : ChangeSpec := { name := "fnEdits", fn := fun _ => fun
  | [d1, d2, d3] => { results := [.lit (.bool true)], args := [d1, d2, d3] }
  | _ => none }
def fnEditsRow : OpenClaim := { program := "ytfkemfkleceeiaadoor", sum := "fc929a14f28e28aed5bb4034509a8b6c73d5b05c1b4e2d68838e38766f82f631", func := "loop.example/pub-g03357/laws.FnEdits", spec := "fnEdits", named := ["unicode.CaseRanges"], apart := false, laid := [("unicode.CaseRanges", laid_unicode_CaseRanges)] }
def FnEditsSaid : Prop := fnEditsRow.holds Tryd.pinned (OpenSpec.ofChange fnEditsSpec)

/-- ITS FALSE NEIGHBOUR: 'it returns false'. Refute it at one input. -/
def fnEditsWrong : ChangeSpec := { name := "fnEdits", fn := fun _ => fun
  | [d1, d2, d3] => { results := [.lit (.bool false)], args := [d1, d2, d3] }
  | _ => none }
def FnEditsWrongFalsely : Prop := fnEditsRow.holds Tryd.pinned (OpenSpec.ofChange fnEditsWrong)

/-- 'laws.FnTriangle': WHATEVER THE INPUT: true; the input reads as it did. -/
def fnTriangleSpec : ChangeSpec := { name := "fnTriangle", fn := fun _ => fun
  | [d1, d2, d3] => { results := [.lit (.bool true)], args := [d1, d2, d3] }
  | _ => none }
def fnTriangleRow : OpenClaim := { program := "ytfkemfkleceeiaadoor", sum := "fc929a14f28e28aed5bb4034509a8b6c73d5b05c1b4e2d68838e38766f82f631", func := "loop.example/pub-g03357/laws.FnTriangle", spec := "fnTriangle", named := ["unicode.CaseRanges"], apart := false, laid := [("unicode.CaseRanges", laid_unicode_CaseRanges)] }
def FnTriangleSaid : Prop := fnTriangleRow.holds Tryd.pinned (OpenSpec.ofChange fnTriangleSpec)

/-- ITS FALSE NEIGHBOUR: 'it returns false'. Refute it at one input. -/
def fnTriangleWrong : ChangeSpec := { name := "fnTriangle", fn := fun _ => fun
  | [d1, d2, d3] => { results := [.lit (.bool false)], args := [d1, d2, d3] }
  | _ => none }
def FnTriangleWrongFalsely : Prop := fnTriangleRow.holds Tryd.pinned (OpenSpec.ofChange fnTriangleWrong)

/-- 'laws.FnMatch': WHATEVER THE INPUT: true; the input reads as it did. -/
def fnMatchSpec : ChangeSpec := { name := "fnMatch", fn := fun _ => fun
  | [d1, d2, d3] => { results := [.lit (.bool true)], args := [d1, d2, d3] }
  | _ => none }
def fnMatchRow : OpenClaim := { program := "ytfkemfkleceeiaadoor", sum := "fc929a14f28e28aed5bb4034509a8b6c73d5b05c1b4e2d68838e38766f82f631", func := "loop.example/pub-g03357/laws.FnMatch", spec := "fnMatch", named := ["unicode.CaseRanges"], apart := false, laid := [("unicode.CaseRanges", laid_unicode_CaseRanges)] }
def FnMatchSaid : Prop := fnMatchRow.holds Tryd.pinned (OpenSpec.ofChange fnMatchSpec)

/-- ITS FALSE NEIGHBOUR: 'it returns false'. Refute it at one input. -/
def fnMatchWrong : ChangeSpec := { name := "fnMatch", fn := fun _ => fun
  | [d1, d2, d3] => { results := [.lit (.bool false)], args := [d1, d2, d3] }
  | _ => none }
def FnMatchWrongFalsely : Prop := fnMatchRow.holds Tryd.pinned (OpenSpec.ofChange fnMatchWrong)

/-- 'laws.FnFindIn': WHATEVER THE INPUT: true; the input reads as it did. -/
def fnFindInSpec : ChangeSpec := { name := "fnFindIn", fn := fun _ => fun
  | [d1, d2, d3] => { results := [.lit (.bool true)], args := [d1, d2, d3] }
  | _ => none }
def fnFindInRow : OpenClaim := { program := "ytfkemfkleceeiaadoor", sum := "fc929a14f28e28aed5bb4034509a8b6c73d5b05c1b4e2d68838e38766f82f631", func := "loop.example/pub-g03357/laws.FnFindIn", spec := "fnFindIn", named := ["unicode.CaseRanges"], apart := false, laid := [("unicode.CaseRanges", laid_unicode_CaseRanges)] }
def FnFindInSaid : Prop := fnFindInRow.holds Tryd.pinned (OpenSpec.ofChange fnFindInSpec)

/-- ITS FALSE NEIGHBOUR: 'it returns false'. Refute it at one input. -/
def fnFindInWrong : ChangeSpec := { name := "fnFindIn", fn := fun _ => fun
  | [d1, d2, d3] => { results := [.lit (.bool false)], args := [d1, d2, d3] }
  | _ => none }
def FnFindInWrongFalsely : Prop := fnFindInRow.holds Tryd.pinned (OpenSpec.ofChange fnFindInWrong)

/-- 'laws.FnRank': WHATEVER THE INPUT: true; the input reads as it did. -/
def fnRankSpec : ChangeSpec := { name := "fnRank", fn := fun _ => fun
  | [d1, d2, d3] => { results := [.lit (.bool true)], args := [d1, d2, d3] }
  | _ => none }
def fnRankRow : OpenClaim := { program := "ytfkemfkleceeiaadoor", sum := "fc929a14f28e28aed5bb4034509a8b6c73d5b05c1b4e2d68838e38766f82f631", func := "loop.example/pub-g03357/laws.FnRank", spec := "fnRank", named := ["unicode.CaseRanges"], apart := false, laid := [("unicode.CaseRanges", laid_unicode_CaseRanges)] }
def FnRankSaid : Prop := fnRankRow.holds Tryd.pinned (OpenSpec.ofChange fnRankSpec)

/-- ITS FALSE NEIGHBOUR: 'it returns false'. Refute it at one input. -/
def fnRankWrong : ChangeSpec := { name := "fnRank", fn := fun _ => fun
  | [d1, d2, d3] => { results := [.lit (.bool false)], args := [d1, d2, d3] }
  | _ => none }
def FnRankWrongFalsely : Prop := fnRankRow.holds Tryd.pinned (OpenSpec.ofChange fnRankWrong)

/-- 'laws.FnRankIsDistance': WHATEVER THE INPUT: true; the input reads as it did. -/
def fnRankIsDistanceSpec : ChangeSpec := { name := "fnRankIsDistance", fn := fun _ => fun
  | [d1, d2] => { results := [.lit (.bool true)], args := [d1, d2] }
  | _ => none }
def fnRankIsDistanceRow : OpenClaim := { program := "ytfkemfkleceeiaadoor", sum := "fc929a14f28e28aed5bb4034509a8b6c73d5b05c1b4e2d68838e38766f82f631", func := "loop.example/pub-g03357/laws.FnRankIsDistance", spec := "fnRankIsDistance", named := ["unicode.CaseRanges"], apart := false, laid := [("unicode.CaseRanges", laid_unicode_CaseRanges)] }
def FnRankIsDistanceSaid : Prop := fnRankIsDistanceRow.holds Tryd.pinned (OpenSpec.ofChange fnRankIsDistanceSpec)

/-- ITS FALSE NEIGHBOUR: 'it returns false'. Refute it at one input. -/
def fnRankIsDistanceWrong : ChangeSpec := { name := "fnRankIsDistance", fn := fun _ => fun
  | [d1, d2] => { results := [.lit (.bool false)], args := [d1, d2] }
  | _ => none }
def FnRankIsDistanceWrongFalsely : Prop := fnRankIsDistanceRow.holds Tryd.pinned (OpenSpec.ofChange fnRankIsDistanceWrong)

/-- 'laws.FnRankFind': WHATEVER THE INPUT: true; the input reads as it did. -/
def fnRankFindSpec : ChangeSpec := { name := "fnRankFind", fn := fun _ => fun
  | [d1, d2, d3] => { results := [.lit (.bool true)], args := [d1, d2, d3] }
  | _ => none }
def fnRankFindRow : OpenClaim := { program := "ytfkemfkleceeiaadoor", sum := "fc929a14f28e28aed5bb4034509a8b6c73d5b05c1b4e2d68838e38766f82f631", func := "loop.example/pub-g03357/laws.FnRankFind", spec := "fnRankFind", named := ["unicode.CaseRanges"], apart := false, laid := [("unicode.CaseRanges", laid_unicode_CaseRanges)] }
def FnRankFindSaid : Prop := fnRankFindRow.holds Tryd.pinned (OpenSpec.ofChange fnRankFindSpec)

/-- ITS FALSE NEIGHBOUR: 'it returns false'. Refute it at one input. -/
def fnRankFindWrong : ChangeSpec := { name := "fnRankFind", fn := fun _ => fun
  | [d1, d2, d3] => { results := [.lit (.bool false)], args := [d1, d2, d3] }
  | _ => none }
def FnRankFindWrongFalsely : Prop := fnRankFindRow.holds Tryd.pinned (OpenSpec.ofChange fnRankFindWrong)

/-- 'laws.FnRankSorted': WHATEVER THE INPUT: true; the input reads as it did. -/
def fnRankSortedSpec : ChangeSpec := { name := "fnRankSorted", fn := fun _ => fun
  | [d1, d2, d3] => { results := [.lit (.bool true)], args := [d1, d2, d3] }
  | _ => none }
def fnRankSortedRow : OpenClaim := { program := "ytfkemfkleceeiaadoor", sum := "fc929a14f28e28aed5bb4034509a8b6c73d5b05c1b4e2d68838e38766f82f631", func := "loop.example/pub-g03357/laws.FnRankSorted", spec := "fnRankSorted", unfollowed := true, recurses := true, named := ["unicode.CaseRanges"], apart := false, laid := [("unicode.CaseRanges", laid_unicode_CaseRanges)] }
def FnRankSortedSaid : Prop := fnRankSortedRow.holds Tryd.pinned (OpenSpec.ofChange fnRankSortedSpec)

/-- ITS FALSE NEIGHBOUR: 'it returns false'. Refute it at one input. -/
def fnRankSortedWrong : ChangeSpec := { name := "fnRankSorted", fn := fun _ => fun
  | [d1, d2, d3] => { results := [.lit (.bool false)], args := [d1, d2, d3] }
  | _ => none }
def FnRankSortedWrongFalsely : Prop := fnRankSortedRow.holds Tryd.pinned (OpenSpec.ofChange fnRankSortedWrong)

/- THE SECOND FORM. 'bulk': how many values and letters a reading holds, each counted each time it is reached (what is shared counts as often as it is met; a slice's spare places count too). A statement '..UptoSaid' is the law's where the arguments, and the package variables that the reading takes, are together of bulk at most 1048576: NARROWER than '..Said'. Prove '..Said' where nothing that the law and all that it calls make is longer than what came in: it says more and counts as full. Else prove '..UptoSaid'. A law counts once. -/
mutual
def uptoBulk {H : Type} : DataW H → Nat
  | .lit (.string bytes) => bytes.length + 1
  | .lit _ => 1
  | .nil => 1
  | .ptr d => uptoBulk d + 1
  | .slice elems spare => uptoBulkAll elems + uptoBulkAll spare + 1
  | .agg parts => uptoBulkAll parts + 1
  | .iface _ d => uptoBulk d + 1
  | .map entries => uptoBulkEntries entries + 1
  | .held _ => 1
def uptoBulkAll {H : Type} : List (DataW H) → Nat
  | [] => 0
  | d :: r => uptoBulk d + uptoBulkAll r
def uptoBulkEntries {H : Type} : List (Lit × DataW H) → Nat
  | [] => 0
  | x :: r => uptoBulkEntry x + uptoBulkEntries r
def uptoBulkEntry {H : Type} : Lit × DataW H → Nat
  | (.string bytes, d) => bytes.length + uptoBulk d + 1
  | (_, d) => uptoBulk d + 1
 end
def uptoSmall : (H : Type) → List (DataW H) → Bool := fun _ ds => decide (uptoBulkAll ds ≤ 1048576)
def OpenSpec.upto (s : _root_.Go.ChangeSpec) : _root_.Go.OpenSpec := { _root_.Go.OpenSpec.ofChange s with cond := some uptoSmall }

/-- 'laws.FnDistance', WHERE WHAT IT READS IS OF BULK AT MOST 1048576: true; the input reads as it did. -/
def fnDistanceUptoRow : OpenClaim := { program := "ytfkemfkleceeiaadoor", sum := "fc929a14f28e28aed5bb4034509a8b6c73d5b05c1b4e2d68838e38766f82f631", func := "loop.example/pub-g03357/laws.FnDistance", spec := "fnDistance", named := ["unicode.CaseRanges"], apart := false, laid := [("unicode.CaseRanges", laid_unicode_CaseRanges)], narrowed := true }
def FnDistanceUptoSaid : Prop := fnDistanceUptoRow.holds Tryd.pinned (OpenSpec.upto fnDistanceSpec)

/-- 'laws.FnEdits', WHERE WHAT IT READS IS OF BULK AT MOST 1048576: true; the input reads as it did. -/
def fnEditsUptoRow : OpenClaim := { program := "ytfkemfkleceeiaadoor", sum := "fc929a14f28e28aed5bb4034509a8b6c73d5b05c1b4e2d68838e38766f82f631", func := "loop.example/pub-g03357/laws.FnEdits", spec := "fnEdits", named := ["unicode.CaseRanges"], apart := false, laid := [("unicode.CaseRanges", laid_unicode_CaseRanges)], narrowed := true }
def FnEditsUptoSaid : Prop := fnEditsUptoRow.holds Tryd.pinned (OpenSpec.upto fnEditsSpec)

/-- 'laws.FnTriangle', WHERE WHAT IT READS IS OF BULK AT MOST 1048576: true; the input reads as it did. -/
def fnTriangleUptoRow : OpenClaim := { program := "ytfkemfkleceeiaadoor", sum := "fc929a14f28e28aed5bb4034509a8b6c73d5b05c1b4e2d68838e38766f82f631", func := "loop.example/pub-g03357/laws.FnTriangle", spec := "fnTriangle", named := ["unicode.CaseRanges"], apart := false, laid := [("unicode.CaseRanges", laid_unicode_CaseRanges)], narrowed := true }
def FnTriangleUptoSaid : Prop := fnTriangleUptoRow.holds Tryd.pinned (OpenSpec.upto fnTriangleSpec)

/-- 'laws.FnMatch', WHERE WHAT IT READS IS OF BULK AT MOST 1048576: true; the input reads as it did. -/
def fnMatchUptoRow : OpenClaim := { program := "ytfkemfkleceeiaadoor", sum := "fc929a14f28e28aed5bb4034509a8b6c73d5b05c1b4e2d68838e38766f82f631", func := "loop.example/pub-g03357/laws.FnMatch", spec := "fnMatch", named := ["unicode.CaseRanges"], apart := false, laid := [("unicode.CaseRanges", laid_unicode_CaseRanges)], narrowed := true }
def FnMatchUptoSaid : Prop := fnMatchUptoRow.holds Tryd.pinned (OpenSpec.upto fnMatchSpec)

/-- 'laws.FnFindIn', WHERE WHAT IT READS IS OF BULK AT MOST 1048576: true; the input reads as it did. -/
def fnFindInUptoRow : OpenClaim := { program := "ytfkemfkleceeiaadoor", sum := "fc929a14f28e28aed5bb4034509a8b6c73d5b05c1b4e2d68838e38766f82f631", func := "loop.example/pub-g03357/laws.FnFindIn", spec := "fnFindIn", named := ["unicode.CaseRanges"], apart := false, laid := [("unicode.CaseRanges", laid_unicode_CaseRanges)], narrowed := true }
def FnFindInUptoSaid : Prop := fnFindInUptoRow.holds Tryd.pinned (OpenSpec.upto fnFindInSpec)

/-- 'laws.FnRank', WHERE WHAT IT READS IS OF BULK AT MOST 1048576: true; the input reads as it did. -/
def fnRankUptoRow : OpenClaim := { program := "ytfkemfkleceeiaadoor", sum := "fc929a14f28e28aed5bb4034509a8b6c73d5b05c1b4e2d68838e38766f82f631", func := "loop.example/pub-g03357/laws.FnRank", spec := "fnRank", named := ["unicode.CaseRanges"], apart := false, laid := [("unicode.CaseRanges", laid_unicode_CaseRanges)], narrowed := true }
def FnRankUptoSaid : Prop := fnRankUptoRow.holds Tryd.pinned (OpenSpec.upto fnRankSpec)

/-- 'laws.FnRankIsDistance', WHERE WHAT IT READS IS OF BULK AT MOST 1048576: true; the input reads as it did. -/
def fnRankIsDistanceUptoRow : OpenClaim := { program := "ytfkemfkleceeiaadoor", sum := "fc929a14f28e28aed5bb4034509a8b6c73d5b05c1b4e2d68838e38766f82f631", func := "loop.example/pub-g03357/laws.FnRankIsDistance", spec := "fnRankIsDistance", named := ["unicode.CaseRanges"], apart := false, laid := [("unicode.CaseRanges", laid_unicode_CaseRanges)], narrowed := true }
def FnRankIsDistanceUptoSaid : Prop := fnRankIsDistanceUptoRow.holds Tryd.pinned (OpenSpec.upto fnRankIsDistanceSpec)

/-- 'laws.FnRankFind', WHERE WHAT IT READS IS OF BULK AT MOST 1048576: true; the input reads as it did. -/
def fnRankFindUptoRow : OpenClaim := { program := "ytfkemfkleceeiaadoor", sum := "fc929a14f28e28aed5bb4034509a8b6c73d5b05c1b4e2d68838e38766f82f631", func := "loop.example/pub-g03357/laws.FnRankFind", spec := "fnRankFind", named := ["unicode.CaseRanges"], apart := false, laid := [("unicode.CaseRanges", laid_unicode_CaseRanges)], narrowed := true }
def FnRankFindUptoSaid : Prop := fnRankFindUptoRow.holds Tryd.pinned (OpenSpec.upto fnRankFindSpec)

/-- 'laws.FnRankSorted', WHERE WHAT IT READS IS OF BULK AT MOST 1048576: true; the input reads as it did. -/
def fnRankSortedUptoRow : OpenClaim := { program := "ytfkemfkleceeiaadoor", sum := "fc929a14f28e28aed5bb4034509a8b6c73d5b05c1b4e2d68838e38766f82f631", func := "loop.example/pub-g03357/laws.FnRankSorted", spec := "fnRankSorted", unfollowed := true, recurses := true, named := ["unicode.CaseRanges"], apart := false, laid := [("unicode.CaseRanges", laid_unicode_CaseRanges)], narrowed := true }
def FnRankSortedUptoSaid : Prop := fnRankSortedUptoRow.holds Tryd.pinned (OpenSpec.upto fnRankSortedSpec)

end Rows
end Go.Proofs.YtfkemfkleceeiaaDoor
