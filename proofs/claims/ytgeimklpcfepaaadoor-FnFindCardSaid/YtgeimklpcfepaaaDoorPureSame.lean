/- spec.SameFound of a list and itself. -/
import Derived.Test.YtgeimklpcfepaaaDoorPureScored
import Derived.Test.YtgeimklpcfepaaaDoorP2
namespace Go.Proofs.YtgeimklpcfepaaaDoor
open Go.RowKit Go.Lib Go.Proofs.YtgeimklpcfepaaaDoorW.PrintWords Go.Proofs.YtgeimklpcfepaaaDoorW.PrintMore
open P
set_option linter.unusedVariables false
set_option linter.unusedSimpArgs false

theorem same_l1 (l : List S33) (hl : l.length ≤ 1000) (hp : ∀ x ∈ l, x.f2.length ≤ 1000) (i : Nat) (hi : i < l.length) (next : Ev (fun k => spec_SameFound.l0 k l l ((i + 1 : Nat) : Int)) true) : ∀ (d j : Nat), j + d = l[i].f2.length → Ev (fun k => spec_SameFound.l1 k l l (i : Int) (j : Int)) true
  | 0, j, hj => by
    have hg : rd_T33 l (i : Int) = l[i] := by unfold rd_T33; rw [Int.toNat_natCast, List.getD_eq_getElem?_getD, List.getElem?_eq_getElem hi]; rfl
    refine Ev.step (fun k => ?_) next
    simp only [spec_SameFound.l1]
    rw [if_pos (by omega), if_pos (by omega), hg, if_neg (by omega), wrp (by omega) (by omega)]
    rfl
  | d + 1, j, hj => by
    have hg : rd_T33 l (i : Int) = l[i] := by unfold rd_T33; rw [Int.toNat_natCast, List.getD_eq_getElem?_getD, List.getElem?_eq_getElem hi]; rfl
    have h2 := hp _ (List.getElem_mem hi)
    refine Ev.step (fun k => ?_) (same_l1 l hl hp i hi next d (j + 1) (by omega))
    simp only [spec_SameFound.l1, if_true]
    rw [if_pos (by omega), if_pos (by omega), hg, if_pos (by omega), if_pos (by omega), if_pos (by omega), if_pos (by omega), wrp (by omega) (by omega)]
    rfl
theorem same_l0 (l : List S33) (hl : l.length ≤ 1000) (hp : ∀ x ∈ l, x.f2.length ≤ 1000) : ∀ (d i : Nat), i + d = l.length → Ev (fun k => spec_SameFound.l0 k l l (i : Int)) true
  | 0, i, hi => by
    refine Ev.step (f := fun _ => some true) (fun k => ?_) (Ev.now _)
    simp only [spec_SameFound.l0]
    rw [if_neg (by omega)]
  | d + 1, i, hi => by
    have hlt : i < l.length := by omega
    have h1 := same_l1 l hl hp i hlt (same_l0 l hl hp d (i + 1) (by omega)) l[i].f2.length 0 (by omega)
    have h2 : Ev (fun k => spec_SameFound.j1 k l l (i : Int) false) true := Ev.step (fun k => by simp only [spec_SameFound.j1]; rw [if_neg (by decide)]; rfl) h1
    refine Ev.step (fun k => ?_) h2
    simp only [spec_SameFound.l0, if_true, bne_self_eq_false]
    rw [if_pos (by omega), if_pos (by omega), if_pos (by omega)]
theorem same_ev (l : List S33) (hl : l.length ≤ 1000) (hp : ∀ x ∈ l, x.f2.length ≤ 1000) : Ev (fun k => spec_SameFound.f k l l) true :=
  Ev.congr (fun k => by unfold spec_SameFound.f; rw [if_pos rfl]; rfl) (same_l0 l hl hp l.length 0 (by omega))
end Go.Proofs.YtgeimklpcfepaaaDoor
