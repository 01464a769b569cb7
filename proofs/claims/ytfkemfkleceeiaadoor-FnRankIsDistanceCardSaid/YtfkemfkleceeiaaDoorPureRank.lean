/- What a rank comes to, and the two laws on it. -/
import Derived.Test.YtfkemfkleceeiaaDoorPureMatch
import Derived.Test.YtfkemfkleceeiaaDoorPureLaws1a
import Derived.Test.YtfkemfkleceeiaaDoorP12
import Derived.Test.YtfkemfkleceeiaaDoorP14
namespace Go.Proofs.YtfkemfkleceeiaaDoor
open Go.RowKit Go.Proofs.YtfkemfkleceeiaaDoorW.PrintWords Go.Proofs.YtfkemfkleceeiaaDoorW.PrintMore
open P
set_option linter.unusedSimpArgs false
set_option linter.unusedVariables false

theorem rankGo_eq : ∀ (l cs : List Int) (n : Nat), rankGo cs l n = if isSub cs l = true then ((n + l.length : Nat) : Int) - (cs.length : Int) else -1
  | l, [], n => by
    rw [rankGo, if_pos (by rw [isSub])]; simp
  | [], c :: cs, n => by
    rw [rankGo, skipTo, isSub_nil, if_neg (by decide)]
  | x :: l, c :: cs, n => by
    rw [isSub_cons]
    by_cases h : c = x
    · have ih := rankGo_eq l cs n
      rw [if_pos h, rankGo, skipTo, if_pos h]
      show rankGo cs l n = _
      rw [ih]
      split
      · simp only [List.length_cons]; omega
      · rfl
    · have ih := rankGo_eq l (c :: cs) (n + 1)
      rw [rankGo] at ih
      rw [if_neg h, rankGo, skipTo, if_neg h]
      rw [ih]
      split
      · simp only [List.length_cons]; omega
      · rfl

def rankV (b : Bool) (s t : ByteArray) : Int := if t.size < s.size then -1 else if matches_ b s t = true then ((strRunes t).length : Int) - ((strRunes s).length : Int) else -1
theorem rankB_eq (b : Bool) (s t : ByteArray) : rankB s t b = rankV b s t := by
  unfold rankB rankV matches_
  by_cases h1 : t.size < s.size
  · rw [if_pos h1, if_pos h1]
  · rw [if_neg h1, if_neg h1]
    split
    · rename_i h2
      have h3 := eq_texts h2.2
      have h4 : runesIf b s = runesIf b t := by rw [← runes_foldStrIf, ← runes_foldStrIf, h3]
      have h5 := congrArg List.length h4
      rw [runesIf_length, runesIf_length] at h5
      rw [h4, isSub_self, if_pos rfl]
      omega
    · rw [runes_foldStrIf, runes_foldStrIf, rankGo_eq, runesIf_length, runesIf_length]
      split <;> omega
theorem rank_f (b : Bool) (s t : ByteArray) (hs : plainB s = true) (ht : plainB t = true) : fuzzysearch_rank.f s t b = some (rankV b s t) := by
  have h3 := plain_size hs
  have h4 := plain_size ht
  unfold fuzzysearch_rank.f
  rw [if_pos ⟨by omega, by omega, by rw [runes_foldStrIf]; exact runesIf_plain b t ht⟩, rankB_eq b s t]
theorem impl_rank_ev (b : Bool) (s t : ByteArray) (h : allPlainB s [t] = true) : Ev (fun k => impl_Rank.f k b false s t) (rankV b s t) := by
  obtain ⟨hs, ht⟩ := allPlain_one h
  refine Ev.congr (f := fun k => (impl_areTexts.f k false s [t]).bind fun t197 => (if t197 = true then some (rankV b s t) else some (-1))) (fun k => ?_) (Ev.bind (areTexts_ev s [t] h) (Ev.now _))
  unfold impl_Rank.f
  cases b
  · simp only [fuzzysearch_RankMatch.f, fuzzysearch_noopTransformer.f, Option.bind_some, rank_f false s t hs ht]
    rfl
  · simp only [fuzzysearch_RankMatchFold.f, fuzzysearch_foldTransformer.f, Option.bind_some, rank_f true s t hs ht]
    rfl
theorem spec_rank_ev (b : Bool) (s t : ByteArray) (hs : plainB s = true) (ht : plainB t = true) : Ev (fun k => spec_Rank.f k b s t) (rankV b s t) := by
  have h1 := plain_size hs
  have h2 := plain_size ht
  have l1 := strRunes_length s
  have l2 := strRunes_length t
  by_cases hz : (s.size : Int) > (t.size : Int)
  · refine Ev.congr (f := fun k => some (rankV b s t)) (fun k => ?_) (Ev.now _)
    unfold spec_Rank.f rankV
    rw [runesOf_f s b (by omega), runesOf_f t b (by omega), Option.bind_some, Option.bind_some, if_pos hz, if_pos (by omega)]
  · refine Ev.congr (f := fun k => (spec_follows.f k (runesIf b s) (runesIf b t)).bind fun t276 => (if t276 = true then (some (wrap64 (((runesIf b t).length : Int) - ((runesIf b s).length : Int)))) else (some (-1)))) (fun k => ?_) (Ev.bind (follows_all _ _ (by rw [runesIf_length]; omega) (by rw [runesIf_length]; omega)) ?_)
    · unfold spec_Rank.f
      rw [runesOf_f s b (by omega), runesOf_f t b (by omega), Option.bind_some, Option.bind_some, if_neg hz]
      rfl
    · refine Ev.congr (f := fun k => some (rankV b s t)) (fun k => ?_) (Ev.now _)
      unfold rankV matches_
      rw [if_neg (show ¬ t.size < s.size by omega), runesIf_length, runesIf_length]
      by_cases hm : isSub (runesIf b s) (runesIf b t) = true
      · rw [if_pos hm, if_pos hm, wr (by omega) (by omega)]
      · rw [if_neg hm, if_neg hm]

theorem law_FnRank (b : Bool) (s t : ByteArray) : Ev (fun k => laws_FnRank.f k b s t) true := by
  have hj0 : Ev (fun k => laws_FnRank.j0 k b s t true) true := Ev.step (f := fun _ => some true) (fun k => by simp only [laws_FnRank.j0, if_true]) (Ev.now _)
  by_cases h0 : (s.size : Int) > 2147483647
  · refine Ev.congr (fun k => ?_) hj0
    unfold laws_FnRank.f; rw [if_pos h0]
  by_cases h1 : (t.size : Int) > 2147483647
  · refine Ev.congr (fun k => ?_) hj0
    unfold laws_FnRank.f; rw [if_neg h0, decide_eq_true h1]
  refine Ev.congr (f := fun k => laws_FnRank.j0 k b s t false) (fun k => by unfold laws_FnRank.f; rw [if_neg h0, decide_eq_false h1]) ?_
  refine Ev.step (f := fun k => (spec_AllPlain.f k s (([t] : List ByteArray))).bind fun t280 => (if t280 = true then ((impl_Rank.f k b false s t).bind fun t281 => ((spec_Rank.f k b s t).bind fun t282 => (some (t281 == t282)))) else (some true))) (fun k => by simp only [laws_FnRank.j0]; rw [if_neg (by decide)]) ?_
  refine Ev.bind (allPlain_ev s [t]) ?_
  by_cases hp : allPlainB s [t] = true
  · obtain ⟨p0, p1⟩ := allPlain_one hp
    rw [hp]
    refine Ev.congr (f := fun k => (impl_Rank.f k b false s t).bind fun t281 => ((spec_Rank.f k b s t).bind fun t282 => (some (t281 == t282)))) (fun k => by rw [if_pos rfl]) ?_
    refine Ev.bind (impl_rank_ev b s t hp) (Ev.bind (spec_rank_ev b s t p0 p1) ?_)
    rw [beq_self_eq_true]
    exact Ev.now _
  · rw [Bool.eq_false_iff.2 hp]
    exact Ev.congr (fun k => by rw [if_neg (by decide)]) (Ev.now _)

theorem isSub_sublist : ∀ (l cs : List Int), isSub cs l = true → cs.Sublist l
  | l, [], _ => List.nil_sublist l
  | [], c :: cs, h => by rw [isSub_nil] at h; exact absurd h (by decide)
  | x :: l, c :: cs, h => by
    rw [isSub_cons] at h
    by_cases e : c = x
    · rw [if_pos e] at h
      rw [e]
      exact List.Sublist.cons_cons x (isSub_sublist l cs h)
    · rw [if_neg e] at h
      exact List.Sublist.cons x (isSub_sublist l (c :: cs) h)
theorem lev_sublist {cs l : List Int} (h : cs.Sublist l) : lev cs l + cs.length ≤ l.length := by
  induction h with
  | slnil => rw [lev_nil_left]; simp
  | @cons l₁ l₂ x _ ih =>
    have := lev_step_right x l₂ l₁
    simp only [List.length_cons]
    omega
  | @cons_cons l₁ l₂ x _ ih =>
    have := lev_turn x x l₁ l₂
    rw [if_pos rfl] at this
    simp only [List.length_cons]
    omega
theorem lev_isSub {cs l : List Int} (h : isSub cs l = true) : lev cs.reverse l.reverse + cs.length = l.length := by
  have h1 := lev_sublist (isSub_sublist l cs h).reverse
  have h2 := lev_length cs.reverse l.reverse
  simp only [List.length_reverse] at h1 h2
  omega
theorem law_FnRankIsDistance (s t : ByteArray) : Ev (fun k => laws_FnRankIsDistance.f k s t) true := by
  have hj0 : Ev (fun k => laws_FnRankIsDistance.j0 k s t true) true := Ev.step (f := fun _ => some true) (fun k => by simp only [laws_FnRankIsDistance.j0, if_true]) (Ev.now _)
  by_cases h0 : (s.size : Int) > 2147483647
  · refine Ev.congr (fun k => ?_) hj0
    unfold laws_FnRankIsDistance.f; rw [if_pos h0]
  by_cases h1 : (t.size : Int) > 2147483647
  · refine Ev.congr (fun k => ?_) hj0
    unfold laws_FnRankIsDistance.f; rw [if_neg h0, decide_eq_true h1]
  refine Ev.congr (f := fun k => laws_FnRankIsDistance.j0 k s t false) (fun k => by unfold laws_FnRankIsDistance.f; rw [if_neg h0, decide_eq_false h1]) ?_
  refine Ev.step (f := fun k => (spec_AllPlain.f k s (([t] : List ByteArray))).bind fun t286 => (if t286 = true then ((impl_Rank.f k false false s t).bind fun t287 => ((spec_Match.f k false s t).bind fun t288 => (if ((t287 == (-1)) == (!t288)) = true then (if t287 = (-1) then (some true) else ((impl_Distance.f k s t).bind fun t289 => (some (t287 == t289)))) else (some false)))) else (some true))) (fun k => by simp only [laws_FnRankIsDistance.j0]; rw [if_neg (by decide)]) ?_
  refine Ev.bind (allPlain_ev s [t]) ?_
  by_cases hp : allPlainB s [t] = true
  · obtain ⟨p0, p1⟩ := allPlain_one hp
    rw [hp]
    refine Ev.congr (f := fun k => (impl_Rank.f k false false s t).bind fun t287 => ((spec_Match.f k false s t).bind fun t288 => (if ((t287 == (-1)) == (!t288)) = true then (if t287 = (-1) then (some true) else ((impl_Distance.f k s t).bind fun t289 => (some (t287 == t289)))) else (some false)))) (fun k => by rw [if_pos rfl]) ?_
    refine Ev.bind (impl_rank_ev false s t hp) (Ev.bind (spec_match_ev false s t p0 p1) ?_)
    by_cases hm : matches_ false s t = true
    · have e1 : runesIf false s = strRunes s := map_foldIf _
      have e2 : runesIf false t = strRunes t := map_foldIf _
      have hm2 : isSub (strRunes s) (strRunes t) = true := by
        have := hm
        unfold matches_ at this
        rwa [e1, e2] at this
      have hz := isSub_size ((plainB_iff s).1 p0).1 ((plainB_iff t).1 p1).1 hm2
      have hl := lev_isSub hm2
      have hv : rankV false s t = (lev (strRunes s).reverse (strRunes t).reverse : Int) := by
        unfold rankV
        rw [if_neg (by omega), if_pos hm]
        omega
      have hn : rankV false s t ≠ -1 := by rw [hv]; omega
      refine Ev.congr (f := fun k => (impl_Distance.f k s t).bind fun t289 => (some (rankV false s t == t289))) (fun k => ?_) (Ev.bind (impl_dist_ev s t (plain_size p0) (plain_size p1)) ?_)
      · rw [hm, if_neg hn, if_pos (by rw [beq_eq_false_iff_ne.2 hn]; decide)]
      · rw [hv, beq_self_eq_true]; exact Ev.now _
    · have hm' := Bool.eq_false_iff.2 hm
      have hv : rankV false s t = -1 := by
        unfold rankV
        rw [if_neg hm]; split <;> rfl
      refine Ev.congr (fun k => ?_) (Ev.now _)
      rw [hv, hm', if_pos (by decide), if_pos rfl]
  · rw [Bool.eq_false_iff.2 hp]
    exact Ev.congr (fun k => by rw [if_neg (by decide)]) (Ev.now _)
end Go.Proofs.YtfkemfkleceeiaaDoor
