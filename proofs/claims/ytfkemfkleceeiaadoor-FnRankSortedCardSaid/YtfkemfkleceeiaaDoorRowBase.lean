/- What the rows of this seat's laws have in common: the world of the witness (unicode.CaseRanges laid), what the listed variable gives. -/
import Derived.Test.YtfkemfkleceeiaaDoorCards
import Derived.Test.YtfkemfkleceeiaaDoorTie
import Derived.Test.YtfkemfkleceeiaaDoorBase
import Derived.Test.YtfkemfkleceeiaaDoorShelf
import Derived.WalkKit
import Derived.ProofKit
import Derived.OpenShut
import Derived.ShutString
import Derived.SliceStrings
import Derived.Deep.DeepHandedRow
import Derived.Deep.DeepWitnessRowRef
import Derived.Lib.LaidTab
import Derived.Lib.LaidCaseMet
import Derived.PinnedBridge
namespace Go.Proofs.YtfkemfkleceeiaaDoor
open Go.ChangeShapes Go.WideShapes Go.ChangeAt Go.RowKit Go.Shelf
set_option linter.unusedVariables false

theorem own : ownKnob Tryd.prog.godebug = none := by kernel_rfl
theorem laidOut : laidOutB Tryd.prog = true := by kernel_rfl
theorem caseExtra : CaseExtra Tryd.prog Tryd.lays204_ren := ⟨by kernel_rfl, by kernel_rfl, by kernel_rfl, by kernel_rfl, by kernel_rfl, by kernel_rfl⟩

/-- THE WITNESS's WORLD: the settled one with one block more, unicode.CaseRanges holding a slice of it. -/
noncomputable def laidWorld (os : Os) : World :=
  let N := (World.settled Tryd.prog os).heap.size
  let w0 := World.holding Tryd.prog os ⟨#[.cells Lib.caseCells5 (Tryd.lays204_ren.t 208)], #[], []⟩
  { w0 with heap := w0.heap.modify 0 fun
      | .cells _ t frozen => .cells #[.slice (some ⟨N, 0, none⟩) 336 336] t frozen
      | o => o }
theorem laid_met (os : Os) (args : Array Value) : laidMet Tryd.prog [("unicode.CaseRanges", Rows.laid_unicode_CaseRanges)] ((laidWorld os).forCall (fun _ _ => 0) ⟨#[], args, []⟩).memory := by
  unfold Rows.laid_unicode_CaseRanges
  rw [Pinned.caseRanges_eq]
  exact laidMet_with_case (ρ := Tryd.lays204_ren) { Tryd.lays204 with } Tryd.lays204.t206 caseExtra (l := []) 10 (by kernel_rfl) (by kernel_rfl) (by kernel_rfl) ((World.settled Tryd.prog default).heap.size) (Tryd.lays204_ren.t 208) (of_decide_eq_true (by kernel_rfl)) (by kernel_rfl) (by kernel_rfl) (by kernel_rfl)
/-- What the listed variable gives. -/
theorem amb_of_laid {W : World} (h : laidMetH Tryd.prog [("unicode.CaseRanges", Rows.laid_unicode_CaseRanges)] W) : Amb W := by
  have h2 : laidMetH Tryd.prog [("unicode.CaseRanges", Lib.caseData)] W := by
    unfold Rows.laid_unicode_CaseRanges at h
    rw [Pinned.caseRanges_eq] at h
    exact h
  exact caseVar_of_reads { Tryd.lays204 with } Tryd.lays204.t206 caseExtra (Lib.laidMet.reads h2 (.head _))
end Go.Proofs.YtfkemfkleceeiaaDoor
