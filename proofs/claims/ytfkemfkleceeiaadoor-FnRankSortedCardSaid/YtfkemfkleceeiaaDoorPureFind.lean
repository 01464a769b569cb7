/- What the lists of matches come to, and the law on them. -/
import Derived.Test.YtfkemfkleceeiaaDoorPureMatch
import Derived.Test.YtfkemfkleceeiaaDoorP12
namespace Go.Proofs.YtfkemfkleceeiaaDoor
open Go.RowKit Go.Proofs.YtfkemfkleceeiaaDoorW.PrintWords Go.Proofs.YtfkemfkleceeiaaDoorW.PrintMore
open P
set_option linter.unusedSimpArgs false
set_option linter.unusedVariables false

theorem list_plain {s : ByteArray} {l : List ByteArray} (h : allPlainB s l = true) : plainB s = true ∧ l.length ≤ 20 ∧ ∀ t ∈ l, plainB t = true := by
  unfold allPlainB at h
  simp only [Bool.and_eq_true, decide_eq_true_eq, List.all_eq_true] at h
  exact ⟨h.1, h.2.1, h.2.2⟩
theorem find_l0 (b : Bool) (s : ByteArray) (l : List ByteArray) (h : allPlainB s l = true) : ∀ (d i : Nat) (acc : List ByteArray), i + d = l.length → acc.length ≤ i →
    Ev (fun k => fuzzysearch_find.l0 k b (foldStrIf b s) acc l (l.length : Int) (i : Int)) (acc ++ (l.drop i).filter (matches_ b s))
  | 0, i, acc, hi, ha => by
    rw [List.drop_eq_nil_of_le (by omega), List.filter_nil, List.append_nil]
    refine Ev.step (f := fun _ => some acc) (fun k => ?_) (Ev.now _)
    simp only [fuzzysearch_find.l0]
    rw [if_neg (by omega)]
  | d + 1, i, acc, hi, ha => by
    obtain ⟨hs, hl, hp⟩ := list_plain h
    have hlt : i < l.length := by omega
    have ht := hp _ (List.getElem_mem hlt)
    have hz := plain_size ht
    rw [List.drop_eq_getElem_cons hlt, List.filter_cons]
    cases hm : matches_ b s l[i] with
    | true =>
      rw [if_pos rfl]
      have ih := find_l0 b s l h d (i + 1) (acc ++ [l[i]]) (by omega) (by simp; omega)
      rw [List.append_assoc] at ih
      refine Ev.step (fun k => ?_) ih
      simp only [fuzzysearch_find.l0]
      rw [if_pos (by omega), if_pos (by omega), if_pos (by omega), rdOf_get l i hlt, fold_f l[i] b (by omega), Option.bind_some, mt_f b s l[i] hs ht, Option.bind_some, if_pos hm, if_pos (by omega), wr (by omega) (by omega)]
      rfl
    | false =>
      rw [if_neg (by decide)]
      refine Ev.step (fun k => ?_) (find_l0 b s l h d (i + 1) acc (by omega) (by omega))
      simp only [fuzzysearch_find.l0]
      rw [if_pos (by omega), if_pos (by omega), if_pos (by omega), rdOf_get l i hlt, fold_f l[i] b (by omega), Option.bind_some, mt_f b s l[i] hs ht, Option.bind_some, if_neg (by rw [hm]; decide), wr (by omega) (by omega)]
      rfl
theorem find_ev (b : Bool) (s : ByteArray) (l : List ByteArray) (h : allPlainB s l = true) : Ev (fun k => fuzzysearch_find.f k s l b) (l.filter (matches_ b s)) := by
  have h1 := find_l0 b s l h l.length 0 [] (by omega) (by simp)
  rw [List.drop_zero, List.nil_append] at h1
  refine Ev.congr (fun k => ?_) h1
  unfold fuzzysearch_find.f
  rw [fold_f s b (by have := plain_size (list_plain h).1; omega), Option.bind_some]
  rfl
theorem impl_find_ev (b : Bool) (s : ByteArray) (l : List ByteArray) (h : allPlainB s l = true) : Ev (fun k => impl_FindIn.f k b false s l) (l.filter (matches_ b s)) := by
  have hl := (list_plain h).2.1
  have h2 : Ev (fun k => if b = true then (fuzzysearch_FindFold.f k s l).bind fun t237 => some t237 else (fuzzysearch_Find.f k s l).bind fun t240 => some t240) (l.filter (matches_ b s)) := by
    cases b
    · refine Ev.congr (fun k => ?_) (Ev.bind (Ev.bind (find_ev false s l h) (Ev.now _)) (Ev.now _))
      rw [if_neg (by decide)]; unfold fuzzysearch_Find.f fuzzysearch_noopTransformer.f; rw [Option.bind_some]
    · refine Ev.congr (fun k => ?_) (Ev.bind (Ev.bind (find_ev true s l h) (Ev.now _)) (Ev.now _))
      rw [if_pos rfl]; unfold fuzzysearch_FindFold.f fuzzysearch_foldTransformer.f; rw [Option.bind_some]
  refine Ev.congr (fun k => ?_) (Ev.bind (f := fun k t => if t = true then (if b = true then (fuzzysearch_FindFold.f k s l).bind fun t237 => some t237 else (fuzzysearch_Find.f k s l).bind fun t240 => some t240) else some []) (areTexts_ev s l h) (Ev.congr (fun k => by rw [if_pos rfl]) h2))
  unfold impl_FindIn.f
  rw [if_pos (by simp; omega), Option.bind_some, List.nil_append]
theorem spec_findIn_l0 (b : Bool) (s : ByteArray) (l : List ByteArray) (h : allPlainB s l = true) : ∀ (d i : Nat) (acc : List ByteArray), i + d = l.length → acc.length ≤ i →
    Ev (fun k => spec_FindIn.l0 k b s acc l (l.length : Int) (i : Int)) (acc ++ (l.drop i).filter (matches_ b s))
  | 0, i, acc, hi, ha => by
    rw [List.drop_eq_nil_of_le (by omega), List.filter_nil, List.append_nil]
    refine Ev.step (f := fun _ => some acc) (fun k => ?_) (Ev.now _)
    simp only [spec_FindIn.l0]
    rw [if_neg (by omega)]
  | d + 1, i, acc, hi, ha => by
    obtain ⟨hs, hl, hp⟩ := list_plain h
    have hlt : i < l.length := by omega
    have ht := hp _ (List.getElem_mem hlt)
    have hw : wrap64 ((i : Int) + 1) = ((i + 1 : Nat) : Int) := by rw [wr (by omega) (by omega)]; rfl
    rw [List.drop_eq_getElem_cons hlt, List.filter_cons]
    have e1 : ∀ r, Ev (fun k => (if matches_ b s l[i] = true then (if acc.length < 8796093022208 then (spec_FindIn.l0 k b s (acc ++ [l[i]]) l (l.length : Int) ((i + 1 : Nat) : Int)) else (none)) else (spec_FindIn.l0 k b s acc l (l.length : Int) ((i + 1 : Nat) : Int)))) r → Ev (fun k => spec_FindIn.l0 k b s acc l (l.length : Int) (i : Int)) r := fun r hr => by
      refine Ev.step (fun k => ?_) (Ev.bind (f := fun k t => if t = true then (if acc.length < 8796093022208 then (spec_FindIn.l0 k b s (acc ++ [l[i]]) l (l.length : Int) ((i + 1 : Nat) : Int)) else (none)) else (spec_FindIn.l0 k b s acc l (l.length : Int) ((i + 1 : Nat) : Int))) (spec_match_ev b s l[i] hs ht) hr)
      simp only [spec_FindIn.l0]
      rw [if_pos (by omega), if_pos (by omega), if_pos (by omega), rdOf_get l i hlt, hw]
    refine e1 _ ?_
    cases hm : matches_ b s l[i] with
    | true =>
      have ih := spec_findIn_l0 b s l h d (i + 1) (acc ++ [l[i]]) (by omega) (by simp; omega)
      rw [List.append_assoc] at ih
      exact Ev.congr (fun k => by rw [if_pos rfl, if_pos (by omega)]) ih
    | false => exact Ev.congr (fun k => by rw [if_neg (by decide)]) (spec_findIn_l0 b s l h d (i + 1) acc (by omega) (by omega))
theorem spec_findIn_ev (b : Bool) (s : ByteArray) (l : List ByteArray) (h : allPlainB s l = true) : Ev (fun k => spec_FindIn.f k b s l) (l.filter (matches_ b s)) := by
  have h1 := spec_findIn_l0 b s l h l.length 0 [] (by omega) (by simp)
  rw [List.drop_zero, List.nil_append] at h1
  exact h1
theorem sameTexts_l0 (l : List ByteArray) (hl : l.length ≤ 1000) : ∀ (d i : Nat), i + d = l.length → Ev (fun k => spec_SameTexts.l0 k l l (i : Int)) true
  | 0, i, hi => by
    refine Ev.step (f := fun _ => some true) (fun k => ?_) (Ev.now _)
    simp only [spec_SameTexts.l0]
    rw [if_neg (by omega)]
  | d + 1, i, hi => by
    refine Ev.step (fun k => ?_) (sameTexts_l0 l hl d (i + 1) (by omega))
    simp only [spec_SameTexts.l0, if_true]
    rw [if_pos (by omega), if_pos (by omega), if_pos (by omega), wr (by omega) (by omega)]
    rfl
theorem sameTexts_ev (l : List ByteArray) (hl : l.length ≤ 1000) : Ev (fun k => spec_SameTexts.f k l l) true :=
  Ev.congr (fun k => by unfold spec_SameTexts.f; rw [if_pos rfl]; rfl) (sameTexts_l0 l hl l.length 0 (by omega))
theorem zzFits_l0 (l : List ByteArray) (hl : l.length ≤ 2147483647) : ∀ (d i : Nat), i + d = l.length → ∃ r, Ev (fun k => laws_zzFits1.l0 k l (l.length : Int) (i : Int)) r
  | 0, i, hi => ⟨true, Ev.step (f := fun _ => some true) (fun k => by simp only [laws_zzFits1.l0]; rw [if_neg (by omega)]) (Ev.now _)⟩
  | d + 1, i, hi => by
    by_cases hb : ((rdOf ByteArray.empty l (i : Int)).size : Int) > 2147483647
    · exact ⟨false, Ev.step (f := fun _ => some false) (fun k => by simp only [laws_zzFits1.l0]; rw [if_pos (by omega), if_pos (by omega), if_pos (by omega), if_pos hb]) (Ev.now _)⟩
    · obtain ⟨r, hr⟩ := zzFits_l0 l hl d (i + 1) (by omega)
      exact ⟨r, Ev.step (fun k => by simp only [laws_zzFits1.l0]; rw [if_pos (by omega), if_pos (by omega), if_pos (by omega), if_neg hb, wr (by omega) (by omega)]; rfl) hr⟩
theorem zzFits_ev (l : List ByteArray) : ∃ r, Ev (fun k => laws_zzFits1.f k l) r := by
  by_cases hl : (l.length : Int) > 2147483647
  · exact ⟨false, Ev.congr (fun k => by unfold laws_zzFits1.f; rw [if_pos hl]) (Ev.now _)⟩
  · obtain ⟨r, hr⟩ := zzFits_l0 l (by omega) l.length 0 (by omega)
    exact ⟨r, Ev.congr (fun k => by unfold laws_zzFits1.f; rw [if_neg hl]; rfl) hr⟩

theorem law_FnFindIn (b : Bool) (s : ByteArray) (l : List ByteArray) : Ev (fun k => laws_FnFindIn.f k b s l) true := by
  have hj0 : Ev (fun k => laws_FnFindIn.j0 k b s l true) true := Ev.step (f := fun _ => some true) (fun k => by simp only [laws_FnFindIn.j0, if_true]) (Ev.now _)
  by_cases h0 : (s.size : Int) > 2147483647
  · refine Ev.congr (fun k => ?_) hj0
    unfold laws_FnFindIn.f; rw [if_pos h0]
  obtain ⟨r, hr⟩ := zzFits_ev l
  refine Ev.congr (f := fun k => (laws_zzFits1.f k l).bind fun t => laws_FnFindIn.j0 k b s l (!t)) (fun k => by unfold laws_FnFindIn.f; rw [if_neg h0]) (Ev.bind hr ?_)
  cases r
  · exact hj0
  refine Ev.step (f := fun k => (spec_AllPlain.f k s l).bind fun t252 => (if t252 = true then ((impl_FindIn.f k b false s l).bind fun t253 => ((spec_FindIn.f k b s l).bind fun t256 => ((spec_SameTexts.f k t253 t256).bind fun t259 => (some t259)))) else (some true))) (fun k => by simp only [laws_FnFindIn.j0]; rw [if_neg (by decide)]) ?_
  refine Ev.bind (allPlain_ev s l) ?_
  by_cases hp : allPlainB s l = true
  · rw [hp]
    refine Ev.congr (f := fun k => (impl_FindIn.f k b false s l).bind fun t253 => ((spec_FindIn.f k b s l).bind fun t256 => ((spec_SameTexts.f k t253 t256).bind fun t259 => (some t259)))) (fun k => by rw [if_pos rfl]) ?_
    refine Ev.bind (impl_find_ev b s l hp) (Ev.bind (spec_findIn_ev b s l hp) (Ev.bind (sameTexts_ev _ ?_) (Ev.now _)))
    have h1 := List.length_filter_le (matches_ b s) l
    have h2 := (list_plain hp).2.1
    omega
  · rw [Bool.eq_false_iff.2 hp]
    exact Ev.congr (fun k => by rw [if_neg (by decide)]) (Ev.now _)
end Go.Proofs.YtfkemfkleceeiaaDoor
