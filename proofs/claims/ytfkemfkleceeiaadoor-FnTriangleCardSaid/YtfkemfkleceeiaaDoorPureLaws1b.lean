/- The laws on edits and on three texts, as plain Lean. -/
import Derived.Test.YtfkemfkleceeiaaDoorPureSpecD
import Derived.Test.YtfkemfkleceeiaaDoorPureTexts
import Derived.Test.YtfkemfkleceeiaaDoorP7
import Derived.Test.YtfkemfkleceeiaaDoorP8
namespace Go.Proofs.YtfkemfkleceeiaaDoor
open Go.RowKit Go.Proofs.YtfkemfkleceeiaaDoorW.PrintWords Go.Proofs.YtfkemfkleceeiaaDoorW.PrintMore
open P
set_option linter.unusedSimpArgs false
set_option linter.unusedVariables false

theorem lev_texts {s t : ByteArray} (hs : plainB s = true) (ht : plainB t = true) : lev (strRunes s).reverse (strRunes t).reverse = 0 ↔ (s.toList == t.toList) = true := by
  have h1 := (plainB_iff s).1 hs
  have h2 := (plainB_iff t).1 ht
  rw [lev_zero, List.reverse_inj, beq_iff_eq, ByteArray.toList_eq, ByteArray.toList_eq]
  constructor
  · exact fun h => runes_inj h1.1 h2.1 h
  · intro h; rw [runes_of_bytes h]

theorem law_FnEdits (s t : ByteArray) (n : Int) : Ev (fun k => laws_FnEdits.f k s t n) true := by
  have hj1 : Ev (fun k => laws_FnEdits.j1 k s t n true) true := Ev.step (f := fun _ => some true) (fun k => by simp only [laws_FnEdits.j1, if_true]) (Ev.now _)
  have hj0 : Ev (fun k => laws_FnEdits.j0 k s t n true) true := Ev.step (f := fun _ => some true) (fun k => by simp only [laws_FnEdits.j0, if_true]) (Ev.now _)
  by_cases h0 : (s.size : Int) > 2147483647
  · refine Ev.congr (fun k => ?_) hj0
    unfold laws_FnEdits.f; rw [if_pos h0]
  by_cases h1 : (t.size : Int) > 2147483647
  · refine Ev.congr (fun k => ?_) hj0
    unfold laws_FnEdits.f; rw [if_neg h0, decide_eq_true h1]
  refine Ev.congr (f := fun k => laws_FnEdits.j0 k s t n false) (fun k => by unfold laws_FnEdits.f; rw [if_neg h0, decide_eq_false h1]) ?_
  refine Ev.step (f := fun k => (spec_AllPlain.f k s (([t] : List ByteArray))).bind fun t176 => (if t176 = true then ((spec_Distance.f k s t).bind fun t177 => (laws_FnEdits.j1 k s t n (decide (t177 > n)))) else (laws_FnEdits.j1 k s t n true))) (fun k => by simp only [laws_FnEdits.j0]; rw [if_neg (by decide)]) ?_
  refine Ev.bind (allPlain_ev s [t]) ?_
  by_cases hp : allPlainB s [t] = true
  · obtain ⟨p0, p1⟩ := allPlain_one hp
    have q0 := ((plainB_iff s).1 p0).2
    have q1 := ((plainB_iff t).1 p1).2
    rw [hp]
    refine Ev.congr (f := fun k => (spec_Distance.f k s t).bind fun t177 => (laws_FnEdits.j1 k s t n (decide (t177 > n)))) (fun k => by rw [if_pos rfl]) ?_
    refine Ev.bind (spec_dist_ev s t q0 q1) ?_
    by_cases hn : (lev (strRunes s).reverse (strRunes t).reverse : Int) > n
    · rw [decide_eq_true hn]; exact hj1
    · rw [decide_eq_false hn]
      refine Ev.step (f := fun k => (impl_Distance.f k s t).bind fun t178 => (if t178 ≥ 0 then (if t178 ≤ n then ((impl_Distance.f k t s).bind fun t179 => (if t178 = t179 then (some ((t178 == 0) == (s.toList == t.toList))) else (some false))) else (some false)) else (some false))) (fun k => by simp only [laws_FnEdits.j1]; rw [if_neg (by decide)]) ?_
      refine Ev.bind (impl_dist_ev s t q0 q1) ?_
      refine Ev.congr (f := fun k => (impl_Distance.f k t s).bind fun t179 => (if (lev (strRunes s).reverse (strRunes t).reverse : Int) = t179 then (some (((lev (strRunes s).reverse (strRunes t).reverse : Int) == 0) == (s.toList == t.toList))) else (some false))) (fun k => by rw [if_pos (by omega), if_pos (by omega)]) ?_
      refine Ev.bind (impl_dist_ev t s q1 q0) ?_
      refine Ev.congr (f := fun _ => some true) (fun k => ?_) (Ev.now _)
      rw [if_pos (by rw [lev_symm])]
      congr 1
      rw [beq_iff_eq, Bool.eq_iff_iff, ← lev_texts p0 p1, beq_iff_eq]
      omega
  · rw [Bool.eq_false_iff.2 hp]
    exact Ev.congr (fun k => by rw [if_neg (by decide)]) hj1

theorem law_FnTriangle (a b d : ByteArray) : Ev (fun k => laws_FnTriangle.f k a b d) true := by
  have hj1 : Ev (fun k => laws_FnTriangle.j1 k a b d true) true := Ev.step (f := fun _ => some true) (fun k => by simp only [laws_FnTriangle.j1, if_true]) (Ev.now _)
  have hj0 : Ev (fun k => laws_FnTriangle.j0 k a b d true) true := Ev.step (f := fun _ => some true) (fun k => by simp only [laws_FnTriangle.j0, if_true]) (Ev.now _)
  by_cases h0 : (a.size : Int) > 2147483647
  · refine Ev.congr (fun k => ?_) hj0
    unfold laws_FnTriangle.f; rw [if_pos h0]
  by_cases h1 : (b.size : Int) > 2147483647
  · refine Ev.congr (fun k => ?_) hj0
    unfold laws_FnTriangle.f; rw [if_neg h0, if_pos h1]
  by_cases h2 : (d.size : Int) > 2147483647
  · refine Ev.congr (fun k => ?_) hj0
    unfold laws_FnTriangle.f; rw [if_neg h0, if_neg h1, decide_eq_true h2]
  refine Ev.congr (f := fun k => laws_FnTriangle.j0 k a b d false) (fun k => by unfold laws_FnTriangle.f; rw [if_neg h0, if_neg h1, decide_eq_false h2]) ?_
  by_cases g0 : (a.size : Int) > 60
  · refine Ev.step (fun k => ?_) hj1
    simp only [laws_FnTriangle.j0]; rw [if_neg (by decide), if_pos g0]
  by_cases g1 : (b.size : Int) > 60
  · refine Ev.step (fun k => ?_) hj1
    simp only [laws_FnTriangle.j0]; rw [if_neg (by decide), if_neg g0, if_pos g1]
  by_cases g2 : (d.size : Int) > 60
  · refine Ev.step (fun k => ?_) hj1
    simp only [laws_FnTriangle.j0]; rw [if_neg (by decide), if_neg g0, if_neg g1, decide_eq_true g2]
  refine Ev.step (f := fun k => laws_FnTriangle.j1 k a b d false) (fun k => by simp only [laws_FnTriangle.j0]; rw [if_neg (by decide), if_neg g0, if_neg g1, decide_eq_false g2]) ?_
  refine Ev.step (f := fun k => (impl_Distance.f k a b).bind fun t180 => ((impl_Distance.f k b d).bind fun t181 => ((impl_Distance.f k a d).bind fun t182 => (if t182 ≤ (wrap64 (t180 + t181)) then (if t180 ≤ (wrap64 (t181 + t182)) then (if t181 ≤ (wrap64 (t180 + t182)) then ((spec_Distance.f k a d).bind fun t183 => (some (t182 == t183))) else (some false)) else (some false)) else (some false))))) (fun k => by simp only [laws_FnTriangle.j1]; rw [if_neg (by decide)]) ?_
  have la := strRunes_length a
  have lb := strRunes_length b
  have ld := strRunes_length d
  have t1 := lev_triangle (strRunes a).reverse (strRunes b).reverse (strRunes d).reverse
  have t2 := lev_triangle (strRunes a).reverse (strRunes d).reverse (strRunes b).reverse
  have t3 := lev_triangle (strRunes b).reverse (strRunes a).reverse (strRunes d).reverse
  have b1 := lev_le (strRunes a).reverse (strRunes b).reverse
  have b2 := lev_le (strRunes b).reverse (strRunes d).reverse
  have b3 := lev_le (strRunes a).reverse (strRunes d).reverse
  rw [lev_symm (strRunes d).reverse (strRunes b).reverse] at t2
  rw [lev_symm (strRunes b).reverse (strRunes a).reverse] at t3
  simp only [List.length_reverse] at b1 b2 b3
  refine Ev.bind (impl_dist_ev a b (by omega) (by omega)) (Ev.bind (impl_dist_ev b d (by omega) (by omega)) (Ev.bind (impl_dist_ev a d (by omega) (by omega)) ?_))
  refine Ev.congr (f := fun k => (spec_Distance.f k a d).bind fun t183 => (some ((lev (strRunes a).reverse (strRunes d).reverse : Int) == t183))) (fun k => by
    rw [wr (by omega) (by omega), wr (by omega) (by omega), wr (by omega) (by omega), if_pos (by omega), if_pos (by omega), if_pos (by omega)]) ?_
  refine Ev.bind (spec_dist_ev a d (by omega) (by omega)) ?_
  rw [beq_self_eq_true]
  exact Ev.now _
end Go.Proofs.YtfkemfkleceeiaaDoor
