/- Facts on a string's iterator beside rows of the call's own. -/
import Derived.Test.YtgeimklpcfepaaaDoorBase
import Derived.Lib.OthersKept
namespace Go.Proofs.YtgeimklpcfepaaaDoor
open Go.RowKit Go.Proofs.YtgeimklpcfepaaaDoorW.PrintWords
theorem Kd.R_iterAt {α : Type} {d : Kd α} {e base k p : Nat} {w : World} {ok : Nat → Prop} {v : Value} {xs : List α} {s : ByteArray} (h : d.R e w base ok v xs) (hk : w.heap[k]? = some (.stringIter s p)) (p' : Nat) : d.R e (w.iterAt k s p') base ok v xs := by
  refine Kd.R_mono (Kd.R_move (Kd.R_bound h) (fun j hj => Lib.iterAt_other w k j s p' ?_)) (fun _ hj => hj.1)
  rintro rfl
  obtain ⟨_, _, _, q, _, cells, hc⟩ := hj
  rw [hk] at hc
  cases hc
/-- An append to a row keeps an iterator. -/
theorem iter_grown {α : Type} {d : Kd α} {e base k p : Nat} {w w1 : World} {ok : Nat → Prop} {v : Value} {xs : List α} {s : ByteArray} (h : d.R e w base ok v xs) (hk : w.heap[k]? = some (.stringIter s p)) (hg : w.grownBy w1 v.ownBlock) : w1.heap[k]? = some (.stringIter s p) := by
  rw [hg.block k (Array.getElem?_eq_some_iff.1 hk).1 ?_]
  · exact hk
  · intro he
    obtain ⟨inner, ho⟩ := Kd.R_own h
    obtain ⟨cells, hc⟩ := own_typed ho k he.symm
    rw [hk] at hc
    cases hc
theorem iter_below {k p : Nat} {w w1 : World} {s : ByteArray} (hk : w.heap[k]? = some (.stringIter s p)) (hb : Below w.heap.size w w1) : w1.heap[k]? = some (.stringIter s p) := by
  rw [hb.block k (Array.getElem?_eq_some_iff.1 hk).1]; exact hk
theorem iter_alloc {k p : Nat} {w : World} {s : ByteArray} (hk : w.heap[k]? = some (.stringIter s p)) (o : Obj) : (w.alloc o).heap[k]? = some (.stringIter s p) := iter_below hk ((Below.refl _ _).alloc (Nat.le_refl _) o)
end Go.Proofs.YtgeimklpcfepaaaDoor
