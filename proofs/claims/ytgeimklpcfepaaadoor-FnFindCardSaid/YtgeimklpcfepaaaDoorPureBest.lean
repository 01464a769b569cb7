/- The law FnFind. -/
import Derived.Test.YtgeimklpcfepaaaDoorPureFind
import Derived.Test.YtgeimklpcfepaaaDoorPureSame
import Derived.Test.YtgeimklpcfepaaaDoorExtBest
import Derived.Test.YtgeimklpcfepaaaDoorP12
namespace Go.Proofs.YtgeimklpcfepaaaDoor
open Go.RowKit Go.Lib Go.Sort Go.Proofs.YtgeimklpcfepaaaDoorW.PrintWords Go.Proofs.YtgeimklpcfepaaaDoorW.PrintMore
open P
set_option linter.unusedVariables false
set_option linter.unusedSimpArgs false

theorem best_found (a0 : ByteArray) (l : List ByteArray) (h : shortAll a0 l = true) : spec_Best.f ((findAll a0 l).map to33) = some ((isort lt49 (findAll a0 l)).map to33) := by
  have hz := (findAll_le a0 l h).1
  unfold spec_Best.f
  rw [if_pos (by rw [List.length_map]; omega), isort_map lt49 lt33 to33 (fun x y => rfl)]
theorem law_FnFind (s : ByteArray) (l : List ByteArray) : Ev (fun k => laws_FnFind.f k s l) true := by
  have hj0 : Ev (fun k => laws_FnFind.j0 k s l true) true := Ev.step (f := fun _ => some true) (fun k => by simp only [laws_FnFind.j0, if_true]) (Ev.now _)
  by_cases h0 : (s.size : Int) > 2147483647
  · refine Ev.congr (fun k => ?_) hj0
    unfold laws_FnFind.f; rw [if_pos h0]
  obtain ⟨r, hr, hz⟩ := zzFits_ev l
  refine Ev.congr (f := fun k => (laws_zzFits1.f k l).bind fun t => laws_FnFind.j0 k s l (!t)) (fun k => by unfold laws_FnFind.f; rw [if_neg h0]) (Ev.bind hr ?_)
  cases r
  · exact hj0
  refine Ev.step (f := fun k => (spec_Short.f k s l).bind fun t264 => (if t264 = true then ((impl_Find.f k s l).bind fun t265 => ((spec_Found.f k s l).bind fun t268 => ((spec_Best.f t268).bind fun t271 => ((spec_SameFound.f k t265 t271).bind fun t274 => (some t274))))) else (some true))) (fun k => by simp only [laws_FnFind.j0]; rw [if_neg (by decide)]) ?_
  refine Ev.bind (Short_ev s l (by omega) (hz rfl)) ?_
  by_cases hp : shortAll s l = true
  · rw [hp]
    refine Ev.congr (f := fun k => (impl_Find.f k s l).bind fun t265 => ((spec_Found.f k s l).bind fun t268 => ((spec_Best.f t268).bind fun t271 => ((spec_SameFound.f k t265 t271).bind fun t274 => (some t274))))) (fun k => by rw [if_pos rfl]) ?_
    obtain ⟨hz, hpl⟩ := findAll_le s l hp
    refine Ev.bind (find_ev s l hp) (Ev.bind (found_ev s l hp) ?_)
    refine Ev.congr (f := fun k => (spec_SameFound.f k ((isort lt49 (findAll s l)).map to33) ((isort lt49 (findAll s l)).map to33)).bind fun t274 => (some t274)) (fun k => by rw [best_found s l hp, Option.bind_some]) ?_
    exact Ev.bind (same_ev _ (by rw [List.length_map, isort_length]; omega) (to33_le (fun x hx => hpl x (isort_mem _ _ _ hx)))) (Ev.now _)
  · rw [Bool.eq_false_iff.2 hp]
    exact Ev.congr (fun k => by rw [if_neg (by decide)]) (Ev.now _)
end Go.Proofs.YtgeimklpcfepaaaDoor
