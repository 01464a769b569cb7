/- What the lists of ranks come to, and the law on them. -/
import Derived.Test.YtfkemfkleceeiaaDoorPureFind
import Derived.Test.YtfkemfkleceeiaaDoorP17
namespace Go.Proofs.YtfkemfkleceeiaaDoor
open Go.RowKit Go.Proofs.YtfkemfkleceeiaaDoorW.PrintWords Go.Proofs.YtfkemfkleceeiaaDoorW.PrintMore
open P
set_option linter.unusedSimpArgs false
set_option linter.unusedVariables false

def dI (s t : ByteArray) : Int := (lev (strRunes s).reverse (strRunes t).reverse : Int)
/-- The entries of the targets that match, from a place on. -/
def E63 (b : Bool) (s : ByteArray) : List ByteArray → Nat → List S63
  | [], _ => []
  | t :: ts, i => if matches_ b s t = true then (⟨s, t, dI s t, (i : Int)⟩ : S63) :: E63 b s ts (i + 1) else E63 b s ts (i + 1)
def E50 (b : Bool) (s : ByteArray) : List ByteArray → Nat → List S50
  | [], _ => []
  | t :: ts, i => if matches_ b s t = true then (⟨s, t, dI s t, (i : Int)⟩ : S50) :: E50 b s ts (i + 1) else E50 b s ts (i + 1)
def to50 (x : S63) : S50 := ⟨x.f0, x.f1, x.f2, x.f3⟩
theorem E63_map (b : Bool) (s : ByteArray) : ∀ (ts : List ByteArray) (i : Nat), (E63 b s ts i).map to50 = E50 b s ts i
  | [], _ => rfl
  | t :: ts, i => by
    unfold E63 E50
    split
    · rw [List.map_cons, E63_map b s ts (i + 1)]; rfl
    · exact E63_map b s ts (i + 1)
theorem E63_length (b : Bool) (s : ByteArray) : ∀ (ts : List ByteArray) (i : Nat), (E63 b s ts i).length ≤ ts.length
  | [], _ => Nat.le_refl _
  | t :: ts, i => by
    have := E63_length b s ts (i + 1)
    unfold E63
    split <;> simp only [List.length_cons] <;> omega
theorem E50_length (b : Bool) (s : ByteArray) (ts : List ByteArray) (i : Nat) : (E50 b s ts i).length ≤ ts.length := by
  rw [← E63_map, List.length_map]; exact E63_length b s ts i

theorem rankFind_l0 (b : Bool) (s : ByteArray) (l : List ByteArray) (h : allPlainB s l = true) : ∀ (d i : Nat) (acc : List S63), i + d = l.length → acc.length ≤ i →
    Ev (fun k => fuzzysearch_rankFind.l0 k s b (foldStrIf b s) acc l (l.length : Int) (i : Int)) (acc ++ E63 b s (l.drop i) i)
  | 0, i, acc, hi, ha => by
    rw [List.drop_eq_nil_of_le (by omega), E63, List.append_nil]
    refine Ev.step (f := fun _ => some acc) (fun k => ?_) (Ev.now _)
    simp only [fuzzysearch_rankFind.l0]
    rw [if_neg (by omega)]
  | d + 1, i, acc, hi, ha => by
    obtain ⟨hs, hl, hp⟩ := list_plain h
    have hlt : i < l.length := by omega
    have ht := hp _ (List.getElem_mem hlt)
    have hz := plain_size ht
    have hzs := plain_size hs
    have hw : wrap64 ((i : Int) + 1) = ((i + 1 : Nat) : Int) := by rw [wr (by omega) (by omega)]; rfl
    rw [List.drop_eq_getElem_cons hlt, E63]
    cases hm : matches_ b s l[i] with
    | true =>
      rw [if_pos rfl]
      have ih := rankFind_l0 b s l h d (i + 1) (acc ++ [(⟨s, l[i], dI s l[i], (i : Int)⟩ : S63)]) (by omega) (by simp; omega)
      rw [List.append_assoc] at ih
      refine Ev.step (fun k => ?_) (Ev.bind (f := fun k t301 => if acc.length < 2932031007402 then (fuzzysearch_rankFind.l0 k s b (foldStrIf b s) (acc ++ [(⟨s, l[i], t301, (i : Int)⟩ : S63)]) l (l.length : Int) ((i + 1 : Nat) : Int)) else none) (lev_ev s l[i] (by omega) (by omega)) (Ev.congr (fun k => by rw [if_pos (by omega)]; rfl) ih))
      simp only [fuzzysearch_rankFind.l0]
      rw [if_pos (by omega), if_pos (by omega), if_pos (by omega), rdOf_get l i hlt, fold_f l[i] b (by omega), Option.bind_some, mt_f b s l[i] hs ht, Option.bind_some, if_pos hm, hw]
    | false =>
      rw [if_neg (by decide)]
      refine Ev.step (fun k => ?_) (rankFind_l0 b s l h d (i + 1) acc (by omega) (by omega))
      simp only [fuzzysearch_rankFind.l0]
      rw [if_pos (by omega), if_pos (by omega), if_pos (by omega), rdOf_get l i hlt, fold_f l[i] b (by omega), Option.bind_some, mt_f b s l[i] hs ht, Option.bind_some, if_neg (by rw [hm]; decide), hw]
theorem rankFind_ev (b : Bool) (s : ByteArray) (l : List ByteArray) (h : allPlainB s l = true) : Ev (fun k => fuzzysearch_rankFind.f k s l b) (E63 b s l 0) := by
  have h1 := rankFind_l0 b s l h l.length 0 [] (by omega) (by simp)
  rw [List.drop_zero, List.nil_append] at h1
  refine Ev.congr (fun k => ?_) h1
  unfold fuzzysearch_rankFind.f
  rw [fold_f s b (by have := plain_size (list_plain h).1; omega), Option.bind_some]
  rfl
theorem ranks_ev (b : Bool) (s : ByteArray) (l : List ByteArray) (h : allPlainB s l = true) : Ev (fun k => impl_ranks.f k b s l) (E63 b s l 0) := by
  have hl := (list_plain h).2.1
  have h2 : Ev (fun k => if b = true then (fuzzysearch_RankFindFold.f k s l).bind fun t237 => some t237 else (fuzzysearch_RankFind.f k s l).bind fun t240 => some t240) (E63 b s l 0) := by
    cases b
    · refine Ev.congr (fun k => ?_) (Ev.bind (Ev.bind (rankFind_ev false s l h) (Ev.now _)) (Ev.now _))
      rw [if_neg (by decide)]; unfold fuzzysearch_RankFind.f fuzzysearch_noopTransformer.f; rw [Option.bind_some]
    · refine Ev.congr (fun k => ?_) (Ev.bind (Ev.bind (rankFind_ev true s l h) (Ev.now _)) (Ev.now _))
      rw [if_pos rfl]; unfold fuzzysearch_RankFindFold.f fuzzysearch_foldTransformer.f; rw [Option.bind_some]
  refine Ev.congr (fun k => ?_) h2
  unfold impl_ranks.f
  rw [if_pos (by simp; omega), Option.bind_some, List.nil_append]
theorem ranked_l0 (l : List S63) (hl : l.length ≤ 100000) : ∀ (d i : Nat) (acc : List S50), i + d = l.length → acc.length ≤ i →
    Ev (fun k => impl_ranked.l0 k acc l (l.length : Int) (i : Int)) (acc ++ (l.drop i).map to50)
  | 0, i, acc, hi, ha => by
    rw [List.drop_eq_nil_of_le (by omega), List.map_nil, List.append_nil]
    refine Ev.step (f := fun _ => some acc) (fun k => ?_) (Ev.now _)
    simp only [impl_ranked.l0]
    rw [if_neg (by omega)]
  | d + 1, i, acc, hi, ha => by
    have hlt : i < l.length := by omega
    have hw : wrap64 ((i : Int) + 1) = ((i + 1 : Nat) : Int) := by rw [wr (by omega) (by omega)]; rfl
    have hg : rd_T63 l (i : Int) = l[i] := by unfold rd_T63; rw [Int.toNat_natCast, List.getD_eq_getElem?_getD, List.getElem?_eq_getElem hlt]; rfl
    rw [List.drop_eq_getElem_cons hlt, List.map_cons]
    have ih := ranked_l0 l hl d (i + 1) (acc ++ [to50 l[i]]) (by omega) (by simp; omega)
    rw [List.append_assoc] at ih
    refine Ev.step (fun k => ?_) ih
    simp only [impl_ranked.l0]
    rw [if_pos (by omega), if_pos (by omega), if_pos (by omega), if_pos (by omega), hg, hw]
    rfl
theorem ranked_ev (l : List S63) (hl : l.length ≤ 100000) : Ev (fun k => impl_ranked.f k l) (l.map to50) := by
  have h1 := ranked_l0 l hl l.length 0 [] (by omega) (by simp)
  rw [List.drop_zero, List.nil_append] at h1
  exact h1
theorem impl_rankFind_ev (b : Bool) (s : ByteArray) (l : List ByteArray) (h : allPlainB s l = true) : Ev (fun k => impl_RankFind.f k b false s l) (E50 b s l 0) := by
  have hl := (list_plain h).2.1
  have hz := E63_length b s l 0
  have h2 := ranked_ev (E63 b s l 0) (by omega)
  rw [E63_map] at h2
  exact Ev.bind (areTexts_ev s l h) (Ev.congr (fun k => by rw [if_pos rfl]) (Ev.bind (ranks_ev b s l h) (Ev.bind h2 (Ev.now _))))
theorem spec_rankFind_l0 (b : Bool) (s : ByteArray) (l : List ByteArray) (h : allPlainB s l = true) : ∀ (d i : Nat) (acc : List S50), i + d = l.length → acc.length ≤ i →
    Ev (fun k => spec_RankFind.l0 k b s l acc (i : Int)) (acc ++ E50 b s (l.drop i) i)
  | 0, i, acc, hi, ha => by
    rw [List.drop_eq_nil_of_le (by omega), E50, List.append_nil]
    refine Ev.step (f := fun _ => some acc) (fun k => ?_) (Ev.now _)
    simp only [spec_RankFind.l0]
    rw [if_neg (by omega)]
  | d + 1, i, acc, hi, ha => by
    obtain ⟨hs, hl, hp⟩ := list_plain h
    have hlt : i < l.length := by omega
    have ht := hp _ (List.getElem_mem hlt)
    have hz := plain_size ht
    have hzs := plain_size hs
    have hw : wrap64 ((i : Int) + 1) = ((i + 1 : Nat) : Int) := by rw [wr (by omega) (by omega)]; rfl
    rw [List.drop_eq_getElem_cons hlt, E50]
    have e1 : ∀ r, Ev (fun k => (if matches_ b s l[i] = true then ((spec_Distance.f k s l[i]).bind fun t336 => (if acc.length < 2932031007402 then (spec_RankFind.l0 k b s l (acc ++ [(⟨s, l[i], t336, (i : Int)⟩ : S50)]) ((i + 1 : Nat) : Int)) else (none))) else (spec_RankFind.l0 k b s l acc ((i + 1 : Nat) : Int)))) r → Ev (fun k => spec_RankFind.l0 k b s l acc (i : Int)) r := fun r hr => by
      refine Ev.step (fun k => ?_) (Ev.bind (f := fun k t333 => if t333 = true then ((spec_Distance.f k s l[i]).bind fun t336 => (if acc.length < 2932031007402 then (spec_RankFind.l0 k b s l (acc ++ [(⟨s, l[i], t336, (i : Int)⟩ : S50)]) ((i + 1 : Nat) : Int)) else (none))) else (spec_RankFind.l0 k b s l acc ((i + 1 : Nat) : Int))) (spec_match_ev b s l[i] hs ht) hr)
      simp only [spec_RankFind.l0]
      rw [if_pos (by omega), if_pos (by omega), rdOf_get l i hlt, hw]
    refine e1 _ ?_
    cases hm : matches_ b s l[i] with
    | true =>
      rw [if_pos rfl]
      have ih := spec_rankFind_l0 b s l h d (i + 1) (acc ++ [(⟨s, l[i], dI s l[i], (i : Int)⟩ : S50)]) (by omega) (by simp; omega)
      rw [List.append_assoc] at ih
      exact Ev.congr (fun k => by rw [if_pos rfl]) (Ev.bind (f := fun k t336 => if acc.length < 2932031007402 then (spec_RankFind.l0 k b s l (acc ++ [(⟨s, l[i], t336, (i : Int)⟩ : S50)]) ((i + 1 : Nat) : Int)) else none) (spec_dist_ev s l[i] hzs hz) (Ev.congr (fun k => by rw [if_pos (by omega)]; rfl) ih))
    | false =>
      rw [if_neg (by decide)]
      exact Ev.congr (fun k => by rw [if_neg (by decide)]) (spec_rankFind_l0 b s l h d (i + 1) acc (by omega) (by omega))
theorem spec_rankFind_ev (b : Bool) (s : ByteArray) (l : List ByteArray) (h : allPlainB s l = true) : Ev (fun k => spec_RankFind.f k b s l) (E50 b s l 0) := by
  have h1 := spec_rankFind_l0 b s l h l.length 0 [] (by omega) (by simp)
  rw [List.drop_zero, List.nil_append] at h1
  exact h1
theorem sameRanks_l0 (l : List S50) (hl : l.length ≤ 1000) : ∀ (d i : Nat), i + d = l.length → Ev (fun k => spec_SameRanks.l0 k l l (i : Int)) true
  | 0, i, hi => by
    refine Ev.step (f := fun _ => some true) (fun k => ?_) (Ev.now _)
    simp only [spec_SameRanks.l0]
    rw [if_neg (by omega)]
  | d + 1, i, hi => by
    refine Ev.step (fun k => ?_) (sameRanks_l0 l hl d (i + 1) (by omega))
    simp only [spec_SameRanks.l0]
    rw [if_pos (by omega), if_pos (by omega), if_pos (by omega), if_neg (by simp), wr (by omega) (by omega)]
    rfl
theorem sameRanks_ev (l : List S50) (hl : l.length ≤ 1000) : Ev (fun k => spec_SameRanks.f k l l) true :=
  Ev.congr (fun k => by unfold spec_SameRanks.f; rw [if_pos rfl]; rfl) (sameRanks_l0 l hl l.length 0 (by omega))

theorem law_FnRankFind (b : Bool) (s : ByteArray) (l : List ByteArray) : Ev (fun k => laws_FnRankFind.f k b s l) true := by
  have hj0 : Ev (fun k => laws_FnRankFind.j0 k b s l true) true := Ev.step (f := fun _ => some true) (fun k => by simp only [laws_FnRankFind.j0, if_true]) (Ev.now _)
  by_cases h0 : (s.size : Int) > 2147483647
  · refine Ev.congr (fun k => ?_) hj0
    unfold laws_FnRankFind.f; rw [if_pos h0]
  obtain ⟨r, hr⟩ := zzFits_ev l
  refine Ev.congr (f := fun k => (laws_zzFits1.f k l).bind fun t => laws_FnRankFind.j0 k b s l (!t)) (fun k => by unfold laws_FnRankFind.f; rw [if_neg h0]) (Ev.bind hr ?_)
  cases r
  · exact hj0
  refine Ev.step (f := fun k => (spec_AllPlain.f k s l).bind fun t341 => (if t341 = true then ((impl_RankFind.f k b false s l).bind fun t342 => ((spec_RankFind.f k b s l).bind fun t345 => ((spec_SameRanks.f k t342 t345).bind fun t348 => (some t348)))) else (some true))) (fun k => by simp only [laws_FnRankFind.j0]; rw [if_neg (by decide)]) ?_
  refine Ev.bind (allPlain_ev s l) ?_
  by_cases hp : allPlainB s l = true
  · rw [hp]
    refine Ev.congr (f := fun k => (impl_RankFind.f k b false s l).bind fun t342 => ((spec_RankFind.f k b s l).bind fun t345 => ((spec_SameRanks.f k t342 t345).bind fun t348 => (some t348)))) (fun k => by rw [if_pos rfl]) ?_
    refine Ev.bind (impl_rankFind_ev b s l hp) (Ev.bind (spec_rankFind_ev b s l hp) (Ev.bind (sameRanks_ev _ ?_) (Ev.now _)))
    have h1 := E50_length b s l 0
    have h2 := (list_plain hp).2.1
    omega
  · rw [Bool.eq_false_iff.2 hp]
    exact Ev.congr (fun k => by rw [if_neg (by decide)]) (Ev.now _)
end Go.Proofs.YtfkemfkleceeiaaDoor
