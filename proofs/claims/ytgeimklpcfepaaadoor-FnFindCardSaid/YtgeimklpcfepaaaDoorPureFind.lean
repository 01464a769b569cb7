/- impl.Find, evaluated. -/
import Derived.Test.YtgeimklpcfepaaaDoorPureFound
import Derived.Test.YtgeimklpcfepaaaDoorExtFindS
import Derived.Test.YtgeimklpcfepaaaDoorP11
namespace Go.Proofs.YtgeimklpcfepaaaDoor
open Go.RowKit Go.Lib Go.Sort Go.Proofs.YtgeimklpcfepaaaDoorW.PrintWords Go.Proofs.YtgeimklpcfepaaaDoorW.PrintMore
open P
set_option linter.unusedVariables false
set_option linter.unusedSimpArgs false

theorem find_ev (a0 : ByteArray) (l : List ByteArray) (h : shortAll a0 l = true) : Ev (fun k => impl_Find.f k a0 l) ((isort lt49 (findAll a0 l)).map to33) := by
  obtain ⟨hz, hp⟩ := findAll_le a0 l h
  have h20 : l.length ≤ 20 := by
    unfold shortAll at h
    simp only [Bool.and_eq_true, decide_eq_true_eq] at h
    exact h.2.2.1
  refine Ev.congr (f := fun k => (impl_areShort.f k a0 l).bind fun t235 => if t235 = true then ((impl_told.f k (isort lt49 (findAll a0 l))).bind fun t242 => some t242) else some []) (fun k => ?_) (Ev.bind (areShort_ev a0 l h) (Ev.congr (fun k => by rw [if_pos rfl]) (Ev.bind (told_ev _ (by rw [isort_length]; omega) (fun x hx => by have := hp x (isort_mem _ _ _ hx); omega)) (Ev.now _))))
  unfold impl_Find.f sahilm_Find.f
  rw [if_pos (show ([] : List ByteArray).length + l.length < 8796093022208 by simp; omega), List.nil_append, if_pos ⟨okTexts_short a0 l h, h20⟩, Option.bind_some]
end Go.Proofs.YtgeimklpcfepaaaDoor
