/- Patterns whose letters are alike find the same; the law FnCases. -/
import Derived.Test.YtgeimklpcfepaaaDoorPureFind
import Derived.Test.YtgeimklpcfepaaaDoorPureSame
import Derived.Test.YtgeimklpcfepaaaDoorExtBest
import Derived.Test.YtgeimklpcfepaaaDoorP11b
namespace Go.Proofs.YtgeimklpcfepaaaDoor
open Go.RowKit Go.Lib Go.Sort Go.Proofs.YtgeimklpcfepaaaDoorW.PrintWords Go.Proofs.YtgeimklpcfepaaaDoorW.PrintMore
open P
set_option linter.unusedVariables false
set_option linter.unusedSimpArgs false

theorem best_found (a0 : ByteArray) (l : List ByteArray) (h : shortAll a0 l = true) : spec_Best.f ((findAll a0 l).map to33) = some ((isort lt49 (findAll a0 l)).map to33) := by
  have hz := (findAll_le a0 l h).1
  unfold spec_Best.f
  rw [if_pos (by rw [List.length_map]; omega), isort_map lt49 lt33 to33 (fun x y => rfl)]
/-- Letters alike, one by one. -/
def Like (V W : List Int) : Prop := V.length = W.length ∧ ∀ i, i < V.length → okR (V.getD i 0) ∧ okR (W.getD i 0) ∧ alikeB (V.getD i 0) (W.getD i 0) = true
theorem Like.alike {V W : List Int} (h : Like V W) (i : Nat) (r : Int) (hr : okR r) : alikeB r (V.getD i 0) = alikeB r (W.getD i 0) := by
  by_cases hi : i < V.length
  · obtain ⟨o1, o2, o3⟩ := h.2 i hi
    rw [alikeB_symm hr o1, alikeB_symm hr o2]
    exact alikeB_same r o1 o2 o3
  · have e1 : V.getD i 0 = 0 := by rw [List.getD_eq_getElem?_getD, List.getElem?_eq_none (by omega)]; rfl
    have e2 : W.getD i 0 = 0 := by rw [List.getD_eq_getElem?_getD, List.getElem?_eq_none (by have := h.1; omega)]; rfl
    rw [e1, e2]
theorem Like.next {V W : List Int} (h : Like V W) (i : Nat) (c : Int) : alikeB (nextP V i) c = alikeB (nextP W i) c := by
  unfold nextP
  by_cases hi : i + 1 < V.length
  · obtain ⟨o1, o2, o3⟩ := h.2 (i + 1) hi
    rw [if_pos hi, if_pos (by have := h.1; omega)]
    exact alikeB_same c o1 o2 o3
  · rw [if_neg hi, if_neg (by have := h.1; omega)]
theorem loop_like {V W : List Int} (h : Like V W) : ∀ (T : List S45) (st : St), (∀ x ∈ T, okR x.f0) → loopS V T st = loopS W T st
  | [], _, _ => rfl
  | x :: r, st, hT => by
    have e : stepS V x r st = stepS W x r st := by
      unfold stepS takeS candS
      rw [h.alike st.pi x.f0 (hT x (by simp))]
      split
      · split
        · rw [h.next]
        · rw [h.next]
      · rw [h.next]
    rw [loopS, loopS, e]
    exact loop_like h r _ (fun y hy => hT y (by simp [hy]))
theorem one_like {V W : List Int} (h : Like V W) (s : ByteArray) (hs : shortB s = true) : oneS V s = oneS W s :=
  loop_like h (letters s) St0 (fun x hx => (letters_ok s (shortB_iff hs).1 s.size 0 x hx).1)
theorem findS_like {V W : List Int} (h : Like V W) : ∀ (l : List ByteArray) (i : Nat), (∀ s ∈ l, shortB s = true) → findS V l i = findS W l i
  | [], _, _ => rfl
  | s :: r, i, hl => by
    have e := one_like h s (hl s (by simp))
    have ih := findS_like h r (i + 1) (fun x hx => hl x (by simp [hx]))
    have es : scoreOf V s = scoreOf W s := by unfold scoreOf; rw [e]
    rw [findS, findS, e, es, ih, h.1]
theorem short_parts {a0 : ByteArray} {l : List ByteArray} (h : shortAll a0 l = true) : shortB a0 = true ∧ (letters a0).length ≤ 39 ∧ l.length ≤ 20 ∧ ∀ s ∈ l, shortB s = true := by
  unfold shortAll at h
  simp only [Bool.and_eq_true, decide_eq_true_eq, List.all_eq_true] at h
  exact h
theorem size_zero (a0 : ByteArray) : a0.size = 0 ↔ (strRunes a0).length = 0 := by
  constructor
  · intro h
    rw [pat_len]
    have := letters_length a0
    omega
  · intro h
    by_cases h0 : a0.size = 0
    · exact h0
    · have := pat_pos a0 (by omega); omega
theorem findAll_like {a b : ByteArray} {l : List ByteArray} (h : Like (strRunes a) (strRunes b)) (hl : ∀ s ∈ l, shortB s = true) : findAll a l = findAll b l := by
  unfold findAll
  by_cases h0 : a.size = 0
  · rw [if_pos h0, if_pos ((size_zero b).2 (by rw [← h.1]; exact (size_zero a).1 h0))]
  · rw [if_neg h0, if_neg (fun e => h0 ((size_zero a).2 (by rw [h.1]; exact (size_zero b).1 e)))]
    exact findS_like h l 0 hl
theorem allAlike_l0 (A B : List S45) (hA : ∀ x ∈ A, okR x.f0) (hl : A.length = B.length) (h3 : A.length ≤ 1000) : ∀ (d i : Nat), i + d = A.length → ∃ r, Ev (fun k => spec_AllAlike.l0 k A B (i : Int)) r ∧ (r = true → ∀ j, i ≤ j → j < A.length → alikeB (A.getD j z45).f0 (B.getD j z45).f0 = true)
  | 0, i, hi => ⟨true, Ev.step (f := fun _ => some true) (fun k => by simp only [spec_AllAlike.l0]; rw [if_neg (by omega)]) (Ev.now _), fun _ j h1 h2 => by omega⟩
  | d + 1, i, hi => by
    have h1 : i < A.length := by omega
    have h2 : i < B.length := by omega
    have hw : wrap64 ((i : Int) + 1) = ((i + 1 : Nat) : Int) := by rw [wrp (by omega) (by omega)]; rfl
    have hal := alike_ev A[i].f0 B[i].f0 (hA _ (List.getElem_mem h1))
    have key : ∀ res, Ev (fun k => if alikeB A[i].f0 B[i].f0 = true then spec_AllAlike.l0 k A B ((i + 1 : Nat) : Int) else some false) res → Ev (fun k => spec_AllAlike.l0 k A B (i : Int)) res := fun res hres => by
      refine Ev.step (fun k => ?_) (Ev.bind (f := fun k t234 => if t234 = true then spec_AllAlike.l0 k A B ((i + 1 : Nat) : Int) else some false) hal hres)
      simp only [spec_AllAlike.l0]
      rw [if_pos (by omega), if_pos (by omega), if_pos (by omega), rdT_get A i h1, rdT_get B i h2, hw]
    by_cases hc : alikeB A[i].f0 B[i].f0 = true
    · obtain ⟨r, hr, hz⟩ := allAlike_l0 A B hA hl h3 d (i + 1) (by omega)
      refine ⟨r, key r (Ev.congr (fun k => by rw [if_pos hc]) hr), fun e j j1 j2 => ?_⟩
      by_cases hj : j = i
      · subst hj; rw [getT A j h1, getT B j h2]; exact hc
      · exact hz e j (by omega) j2
    · exact ⟨false, key false (Ev.congr (f := fun _ => some false) (fun k => by rw [if_neg hc]) (Ev.now _)), fun e => by cases e⟩
theorem runes_getD (a : ByteArray) (j : Nat) (hj : j < (letters a).length) : (strRunes a).getD j 0 = ((letters a).getD j z45).f0 := by
  rw [← letters_runes, List.getD_eq_getElem?_getD, List.getElem?_map, List.getElem?_eq_getElem hj, getT _ j hj]; rfl
theorem allAlike_ev (a b : ByteArray) (ha : shortB a = true) (hb : shortB b = true) : ∃ r, Ev (fun k => spec_AllAlike.f k a b) r ∧ (r = true → Like (strRunes a) (strRunes b)) := by
  have e1 := (shortB_iff ha).2
  have e2 := (shortB_iff hb).2
  have la := letters_length a
  by_cases hl : (letters a).length = (letters b).length
  · obtain ⟨r, hr, hz⟩ := allAlike_l0 (letters a) (letters b) (fun x hx => (letters_ok a (shortB_iff ha).1 a.size 0 x hx).1) hl (by omega) (letters a).length 0 (by omega)
    refine ⟨r, Ev.congr (fun k => ?_) hr, fun e => ⟨by rw [pat_len, pat_len]; exact hl, fun i hi => ?_⟩⟩
    · unfold spec_AllAlike.f spec_Letters.f
      rw [if_pos (by omega), if_pos (by omega), Option.bind_some, Option.bind_some, if_pos (by omega)]
      rfl
    · have hia : i < (letters a).length := by rw [← pat_len]; exact hi
      have hib : i < (letters b).length := by omega
      have h1 : (strRunes a).getD i 0 ∈ strRunes a := by
        rw [List.getD_eq_getElem?_getD, List.getElem?_eq_getElem hi]; exact List.getElem_mem hi
      have hi2 : i < (strRunes b).length := by rw [pat_len]; exact hib
      have h2 : (strRunes b).getD i 0 ∈ strRunes b := by
        rw [List.getD_eq_getElem?_getD, List.getElem?_eq_getElem hi2]; exact List.getElem_mem hi2
      refine ⟨pat_ok a ha _ h1, pat_ok b hb _ h2, ?_⟩
      rw [runes_getD a i hia, runes_getD b i hib]
      exact hz e i (Nat.zero_le _) hia
  · refine ⟨false, Ev.congr (f := fun _ => some false) (fun k => ?_) (Ev.now _), fun e => by cases e⟩
    unfold spec_AllAlike.f spec_Letters.f
    rw [if_pos (by omega), if_pos (by omega), Option.bind_some, Option.bind_some, if_neg (by omega)]
theorem law_FnCases (a b : ByteArray) (l : List ByteArray) : Ev (fun k => laws_FnCases.f k a b l) true := by
  have hj0 : Ev (fun k => laws_FnCases.j0 k a b l true) true := Ev.step (f := fun _ => some true) (fun k => by simp only [laws_FnCases.j0, if_true]) (Ev.now _)
  have hj1 : Ev (fun k => laws_FnCases.j1 k a b l true) true := Ev.step (f := fun _ => some true) (fun k => by simp only [laws_FnCases.j1, if_true]) (Ev.now _)
  by_cases h0 : (a.size : Int) > 2147483647
  · refine Ev.congr (fun k => ?_) hj0
    unfold laws_FnCases.f; rw [if_pos h0]
  by_cases h1 : (b.size : Int) > 2147483647
  · refine Ev.congr (fun k => ?_) hj0
    unfold laws_FnCases.f; rw [if_neg h0, if_pos h1]
  obtain ⟨r, hr, hz⟩ := zzFits_ev l
  refine Ev.congr (f := fun k => (laws_zzFits1.f k l).bind fun t => laws_FnCases.j0 k a b l (!t)) (fun k => by unfold laws_FnCases.f; rw [if_neg h0, if_neg h1]) (Ev.bind hr ?_)
  cases r
  · exact hj0
  refine Ev.step (f := fun k => ((spec_Short.f k a l).bind fun t246 => (if t246 = true then ((spec_Short.f k b l).bind fun t247 => (if t247 = true then ((spec_AllAlike.f k a b).bind fun t248 => (laws_FnCases.j1 k a b l (!t248))) else (laws_FnCases.j1 k a b l true))) else (laws_FnCases.j1 k a b l true)))) (fun k => by simp only [laws_FnCases.j0]; rw [if_neg (by decide)]) ?_
  refine Ev.bind (Short_ev a l (by omega) (hz rfl)) ?_
  by_cases hp : shortAll a l = true
  · rw [hp]
    refine Ev.congr (f := fun k => ((spec_Short.f k b l).bind fun t247 => (if t247 = true then ((spec_AllAlike.f k a b).bind fun t248 => (laws_FnCases.j1 k a b l (!t248))) else (laws_FnCases.j1 k a b l true)))) (fun k => by rw [if_pos rfl]) ?_
    refine Ev.bind (Short_ev b l (by omega) (hz rfl)) ?_
    by_cases hq : shortAll b l = true
    · rw [hq]
      refine Ev.congr (f := fun k => ((spec_AllAlike.f k a b).bind fun t248 => (laws_FnCases.j1 k a b l (!t248)))) (fun k => by rw [if_pos rfl]) ?_
      obtain ⟨pa, _, _, pl⟩ := short_parts hp
      obtain ⟨pb, _⟩ := short_parts hq
      obtain ⟨r, hr, hlike⟩ := allAlike_ev a b pa pb
      refine Ev.bind hr ?_
      cases r
      · exact hj1
      · have hf := findAll_like (hlike rfl) pl
        have hA := find_ev a l hp
        have hB := find_ev b l hq
        have hF := found_ev b l hq
        have hbest := best_found b l hq
        obtain ⟨hz, hpl⟩ := findAll_le b l hq
        rw [hf] at hA
        have hsame := same_ev ((isort lt49 (findAll b l)).map to33) (by rw [List.length_map, isort_length]; omega) (to33_le (fun x hx => hpl x (isort_mem _ _ _ hx)))
        generalize (isort lt49 (findAll b l)).map to33 = R at hA hB hbest hsame
        generalize (findAll b l).map to33 = F at hF hbest
        refine Ev.step (f := fun k => ((impl_Find.f k a l).bind fun t249 => ((impl_Find.f k b l).bind fun t252 => ((spec_SameFound.f k t249 t252).bind fun t255 => (if t255 = true then ((spec_Found.f k b l).bind fun t256 => ((spec_Best.f t256).bind fun t259 => ((spec_SameFound.f k t249 t259).bind fun t262 => (some t262)))) else (some false)))))) (fun k => by show laws_FnCases.j1 (k + 1) a b l false = _; simp only [laws_FnCases.j1]; rw [if_neg (by decide)]) ?_
        refine Ev.bind hA (Ev.bind hB (Ev.bind hsame ?_))
        refine Ev.congr (f := fun k => ((spec_Found.f k b l).bind fun t256 => ((spec_Best.f t256).bind fun t259 => ((spec_SameFound.f k R t259).bind fun t262 => (some t262))))) (fun k => by rw [if_pos rfl]) ?_
        refine Ev.bind hF ?_
        refine Ev.congr (f := fun k => (spec_SameFound.f k R R).bind fun t262 => (some t262)) (fun k => by rw [hbest, Option.bind_some]) ?_
        exact Ev.bind hsame (Ev.now _)
    · rw [Bool.eq_false_iff.2 hq]
      exact Ev.congr (fun k => by rw [if_neg (by decide)]) hj1
  · rw [Bool.eq_false_iff.2 hp]
    exact Ev.congr (fun k => by rw [if_neg (by decide)]) hj1
end Go.Proofs.YtgeimklpcfepaaaDoor
