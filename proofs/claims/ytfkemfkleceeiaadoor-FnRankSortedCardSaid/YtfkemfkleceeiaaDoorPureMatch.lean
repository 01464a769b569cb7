/- What the two ways of matching come to, and the law on it. -/
import Derived.Test.YtfkemfkleceeiaaDoorPureTexts
import Derived.Test.YtfkemfkleceeiaaDoorExtRank
import Derived.Test.YtfkemfkleceeiaaDoorP10
namespace Go.Proofs.YtfkemfkleceeiaaDoor
open Go.RowKit Go.Proofs.YtfkemfkleceeiaaDoorW.PrintWords Go.Proofs.YtfkemfkleceeiaaDoorW.PrintMore
open P
set_option linter.unusedSimpArgs false
set_option linter.unusedVariables false

/-- The runes of a text, made small where it is folded. -/
def runesIf (b : Bool) (s : ByteArray) : List Int := (strRunes s).map (foldIf b)
theorem runes_foldStrIf (b : Bool) (s : ByteArray) : strRunes (foldStrIf b s) = runesIf b s := by
  unfold foldStrIf runesIf
  cases b
  · rw [map_foldIf]; rfl
  · rw [if_pos rfl]
    unfold foldStr
    rw [runes_runesBytes _ (fun x hx => by
      obtain ⟨y, hy, rfl⟩ := List.mem_map.1 hx
      exact lower_valid y (strRunes_valid s y hy))]
    apply List.map_congr_left
    intro x _
    simp [foldIf]
theorem runesIf_plain (b : Bool) (s : ByteArray) (h : plainB s = true) : ∀ x ∈ runesIf b s, x ≠ 65533 := by
  intro x hx
  obtain ⟨y, hy, rfl⟩ := List.mem_map.1 hx
  have hy2 := ((plainB_iff s).1 h).1 y hy
  cases b
  · exact hy2
  · exact lower_fffd y hy2
theorem runesIf_length (b : Bool) (s : ByteArray) : (runesIf b s).length = (strRunes s).length := by simp [runesIf]

/-- Does a source match a target? -/
def matches_ (b : Bool) (s t : ByteArray) : Bool := isSub (runesIf b s) (runesIf b t)
theorem eq_texts {s t : ByteArray} (h : (s.toList == t.toList) = true) : s = t := by
  rw [beq_iff_eq, ByteArray.toList_eq, ByteArray.toList_eq] at h
  exact runes_of_bytes h
theorem matchB_eq (b : Bool) (s t : ByteArray) (hs : plainB s = true) (ht : plainB t = true) : matchB (foldStrIf b s) (foldStrIf b t) = matches_ b s t := by
  unfold matchB matches_
  rw [runes_foldStrIf, runes_foldStrIf]
  by_cases h1 : (foldStrIf b t).size < (foldStrIf b s).size
  · rw [if_pos h1]
    symm
    rw [Bool.eq_false_iff]
    intro h2
    rw [← runes_foldStrIf, ← runes_foldStrIf] at h2
    have := isSub_size (by rw [runes_foldStrIf]; exact runesIf_plain b s hs) (by rw [runes_foldStrIf]; exact runesIf_plain b t ht) h2
    omega
  · rw [if_neg h1]
    split
    · rename_i h2
      have h3 := eq_texts h2.2
      rw [← runes_foldStrIf, ← runes_foldStrIf, h3, isSub_self]
    · rfl
theorem plain_size {s : ByteArray} (h : plainB s = true) : s.size ≤ 60 := ((plainB_iff s).1 h).2
theorem mt_f (b : Bool) (s t : ByteArray) (hs : plainB s = true) (ht : plainB t = true) : fuzzysearch_matchTransformed.f (foldStrIf b s) (foldStrIf b t) = some (matches_ b s t) := by
  have h1 := foldIf_size s b
  have h2 := foldIf_size t b
  have h3 := plain_size hs
  have h4 := plain_size ht
  unfold fuzzysearch_matchTransformed.f
  rw [if_pos ⟨by omega, by omega, by rw [runes_foldStrIf]; exact runesIf_plain b t ht⟩, matchB_eq b s t hs ht]
theorem match_f (b : Bool) (s t : ByteArray) (hs : plainB s = true) (ht : plainB t = true) : fuzzysearch_match.f s t b = some (matches_ b s t) := by
  have h3 := plain_size hs
  have h4 := plain_size ht
  unfold fuzzysearch_match.f
  rw [fold_f s b (by omega), fold_f t b (by omega)]
  simp only [Option.bind_some]
  rw [mt_f b s t hs ht]
  rfl
theorem impl_match_ev (b : Bool) (s t : ByteArray) (h : allPlainB s [t] = true) : Ev (fun k => impl_Match.f k b false s t) (matches_ b s t) := by
  obtain ⟨hs, ht⟩ := allPlain_one h
  refine Ev.congr (f := fun k => (impl_areTexts.f k false s [t]).bind fun t197 => (if t197 = true then some (matches_ b s t) else some false)) (fun k => ?_) (Ev.bind (areTexts_ev s [t] h) (Ev.now _))
  unfold impl_Match.f
  cases b
  · simp only [fuzzysearch_Match.f, fuzzysearch_noopTransformer.f, Option.bind_some, match_f false s t hs ht]
    rfl
  · simp only [fuzzysearch_MatchFold.f, fuzzysearch_foldTransformer.f, Option.bind_some, match_f true s t hs ht]
    rfl

/-- spec.follows is the same. -/
theorem follows_ev (a b : List Int) (ha : a.length ≤ 1000000) (hb : b.length ≤ 1000000) : ∀ (d i k : Nat), i + d = b.length → k ≤ a.length → Ev (fun n => spec_follows.l0 n a b (k : Int) (i : Int)) (isSub (a.drop k) (b.drop i))
  | 0, i, k, h, hk => by
    rw [show List.drop i b = [] from List.drop_eq_nil_of_le (by omega)]
    have hj : Ev (fun n => spec_follows.j1 n a b (k : Int) (i : Int) false) (((k : Int) == (a.length : Int))) := Ev.step (f := fun _ => some ((k : Int) == (a.length : Int))) (fun n => by simp only [spec_follows.j1]; rw [if_neg (by decide)]) (Ev.now _)
    have he : ((k : Int) == (a.length : Int)) = isSub (a.drop k) [] := by
      by_cases e : k = a.length
      · subst e
        rw [List.drop_length, beq_self_eq_true]; rfl
      · rw [List.drop_eq_getElem_cons (by omega), isSub_nil, beq_eq_false_iff_ne]; omega
    rw [← he]
    refine Ev.step (fun n => ?_) hj
    simp only [spec_follows.l0]
    rw [if_neg (by omega)]
  | d + 1, i, k, h, hk => by
    have hi : i < b.length := by omega
    by_cases e : k = a.length
    · subst e
      rw [List.drop_length]
      have hj : Ev (fun n => spec_follows.j1 n a b ((a.length : Nat) : Int) (i : Int) false) true := Ev.step (f := fun _ => some true) (fun n => by simp only [spec_follows.j1]; rw [if_neg (by decide), beq_self_eq_true]) (Ev.now _)
      refine Ev.step (fun n => ?_) hj
      simp only [spec_follows.l0]
      rw [if_pos (by omega), decide_eq_false (by omega)]
    · have hk2 : k < a.length := by omega
      rw [List.drop_eq_getElem_cons hk2, List.drop_eq_getElem_cons hi, isSub_cons]
      have hj : Ev (fun n => spec_follows.j1 n a b (k : Int) (i : Int) true) (if a[k] = b[i] then isSub (a.drop (k + 1)) (b.drop (i + 1)) else isSub (a[k] :: a.drop (k + 1)) (b.drop (i + 1))) := by
        by_cases e2 : a[k] = b[i]
        · rw [if_pos e2]
          refine Ev.step (fun n => ?_) (follows_ev a b ha hb d (i + 1) (k + 1) (by omega) (by omega))
          simp only [spec_follows.j1, if_true]
          rw [if_pos (by omega), if_pos (by omega), if_pos (by omega), if_pos (by omega), rd_get a k hk2, rd_get b i hi, if_pos e2.symm, wr (by omega) (by omega), wr (by omega) (by omega)]
          rfl
        · rw [if_neg e2]
          have ih := follows_ev a b ha hb d (i + 1) k (by omega) (by omega)
          rw [List.drop_eq_getElem_cons hk2] at ih
          refine Ev.step (fun n => ?_) ih
          simp only [spec_follows.j1, if_true]
          rw [if_pos (by omega), if_pos (by omega), if_pos (by omega), if_pos (by omega), rd_get a k hk2, rd_get b i hi, if_neg (fun h => e2 h.symm), wr (by omega) (by omega)]
          rfl
      refine Ev.step (fun n => ?_) hj
      simp only [spec_follows.l0]
      rw [if_pos (by omega), decide_eq_true (by omega)]
theorem follows_all (a b : List Int) (ha : a.length ≤ 1000000) (hb : b.length ≤ 1000000) : Ev (fun n => spec_follows.f n a b) (isSub a b) := by
  have h := follows_ev a b ha hb b.length 0 0 (by omega) (by omega)
  rw [List.drop_zero, List.drop_zero] at h
  exact h
theorem spec_match_ev (b : Bool) (s t : ByteArray) (hs : plainB s = true) (ht : plainB t = true) : Ev (fun k => spec_Match.f k b s t) (matches_ b s t) := by
  have h1 := plain_size hs
  have h2 := plain_size ht
  have l1 := strRunes_length s
  have l2 := strRunes_length t
  refine Ev.congr (f := fun k => (spec_follows.f k (runesIf b s) (runesIf b t)).bind fun t208 => (some t208)) (fun k => ?_) (Ev.bind (follows_all _ _ (by rw [runesIf_length]; omega) (by rw [runesIf_length]; omega)) (Ev.now _))
  unfold spec_Match.f
  rw [runesOf_f s b (by omega), runesOf_f t b (by omega), Option.bind_some, Option.bind_some]
  rfl

theorem law_FnMatch (b : Bool) (s t : ByteArray) : Ev (fun k => laws_FnMatch.f k b s t) true := by
  have hj0 : Ev (fun k => laws_FnMatch.j0 k b s t true) true := Ev.step (f := fun _ => some true) (fun k => by simp only [laws_FnMatch.j0, if_true]) (Ev.now _)
  by_cases h0 : (s.size : Int) > 2147483647
  · refine Ev.congr (fun k => ?_) hj0
    unfold laws_FnMatch.f; rw [if_pos h0]
  by_cases h1 : (t.size : Int) > 2147483647
  · refine Ev.congr (fun k => ?_) hj0
    unfold laws_FnMatch.f; rw [if_neg h0, decide_eq_true h1]
  refine Ev.congr (f := fun k => laws_FnMatch.j0 k b s t false) (fun k => by unfold laws_FnMatch.f; rw [if_neg h0, decide_eq_false h1]) ?_
  refine Ev.step (f := fun k => (spec_AllPlain.f k s (([t] : List ByteArray))).bind fun t212 => (if t212 = true then ((impl_Match.f k b false s t).bind fun t213 => ((spec_Match.f k b s t).bind fun t214 => (some (t213 == t214)))) else (some true))) (fun k => by simp only [laws_FnMatch.j0]; rw [if_neg (by decide)]) ?_
  refine Ev.bind (allPlain_ev s [t]) ?_
  by_cases hp : allPlainB s [t] = true
  · obtain ⟨p0, p1⟩ := allPlain_one hp
    rw [hp]
    refine Ev.congr (f := fun k => (impl_Match.f k b false s t).bind fun t213 => ((spec_Match.f k b s t).bind fun t214 => (some (t213 == t214)))) (fun k => by rw [if_pos rfl]) ?_
    refine Ev.bind (impl_match_ev b s t hp) (Ev.bind (spec_match_ev b s t p0 p1) ?_)
    rw [beq_self_eq_true]
    exact Ev.now _
  · rw [Bool.eq_false_iff.2 hp]
    exact Ev.congr (fun k => by rw [if_neg (by decide)]) (Ev.now _)
end Go.Proofs.YtfkemfkleceeiaaDoor
