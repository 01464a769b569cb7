/- The laws on distances, as plain Lean. -/
import Derived.Test.YtfkemfkleceeiaaDoorPureTexts
import Derived.Test.YtfkemfkleceeiaaDoorExtFold
import Derived.Test.YtfkemfkleceeiaaDoorP7
import Derived.Test.YtfkemfkleceeiaaDoorP8
namespace Go.Proofs.YtfkemfkleceeiaaDoor
open Go.RowKit Go.Proofs.YtfkemfkleceeiaaDoorW.PrintWords Go.Proofs.YtfkemfkleceeiaaDoorW.PrintMore
open P
set_option linter.unusedSimpArgs false
set_option linter.unusedVariables false

theorem Ev.true_of_eq {a b : Int} {g : Nat → Option Bool} (h : a = b) (k : Ev g (a == b)) : Ev g true := by rwa [beq_iff_eq.2 h] at k

theorem law_FnDistance (s t : ByteArray) : Ev (fun k => laws_FnDistance.f k s t) true := by
  have hj1 : Ev (fun k => laws_FnDistance.j1 k s t true) true := Ev.step (f := fun _ => some true) (fun k => by simp only [laws_FnDistance.j1, if_true]) (Ev.now _)
  have hj0 : Ev (fun k => laws_FnDistance.j0 k s t true) true := Ev.step (f := fun _ => some true) (fun k => by simp only [laws_FnDistance.j0, if_true]) (Ev.now _)
  by_cases h0 : (s.size : Int) > 2147483647
  · refine Ev.congr (fun k => ?_) hj0
    unfold laws_FnDistance.f; rw [if_pos h0]
  by_cases h1 : (t.size : Int) > 2147483647
  · refine Ev.congr (fun k => ?_) hj0
    unfold laws_FnDistance.f; rw [if_neg h0, decide_eq_true h1]
  have hf : ∀ k, laws_FnDistance.f k s t = laws_FnDistance.j0 k s t false := fun k => by unfold laws_FnDistance.f; rw [if_neg h0, decide_eq_false h1]
  refine Ev.congr hf ?_
  by_cases h2 : (s.size : Int) > 60
  · refine Ev.step (fun k => ?_) hj1
    simp only [laws_FnDistance.j0]; rw [if_neg (by decide), if_pos h2]
  by_cases h3 : (t.size : Int) > 60
  · refine Ev.step (fun k => ?_) hj1
    simp only [laws_FnDistance.j0]; rw [if_neg (by decide), if_neg h2, decide_eq_true h3]
  have e1 : Ev (fun k => laws_FnDistance.j1 k s t false) true := by
    refine Ev.step (f := fun k => (impl_Distance.f k s t).bind fun x => (spec_Distance.f k s t).bind fun y => some (x == y)) (fun k => by simp only [laws_FnDistance.j1]; rw [if_neg (by decide)]) ?_
    refine Ev.bind (impl_dist_ev s t (by omega) (by omega)) (Ev.bind (spec_dist_ev s t (by omega) (by omega)) ?_)
    rw [beq_self_eq_true]
    exact Ev.now _
  refine Ev.step (fun k => ?_) e1
  simp only [laws_FnDistance.j0]; rw [if_neg (by decide), if_neg h2, decide_eq_false h3]
end Go.Proofs.YtfkemfkleceeiaaDoor
