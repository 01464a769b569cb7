/- The law on the sorted list. -/
import Derived.Test.YtfkemfkleceeiaaDoorP18
namespace Go.Proofs.YtfkemfkleceeiaaDoor
open Go.RowKit Go.Proofs.YtfkemfkleceeiaaDoorW.PrintWords Go.Proofs.YtfkemfkleceeiaaDoorW.PrintMore
open P
set_option linter.unusedSimpArgs false
set_option linter.unusedVariables false

def keyD (x : S50) : Int := x.f2
theorem nearest_l1 (L : List S50) (hl : L.length ≤ 20) (q : Nat) (hq : q ≤ 200) (R : List S50) : ∀ (d i : Nat) (acc : List S50), i + d = L.length → acc.length ≤ 100000 + i →
    Ev (fun k => spec_Nearest.l0 k L (acc ++ (L.drop i).filter (fun x => decide (keyD x = (q : Int)))) ((q + 1 : Nat) : Int)) R → Ev (fun k => spec_Nearest.l1 k L acc (q : Int) L (L.length : Int) (i : Int)) R
  | 0, i, acc, hi, ha, h => by
    rw [List.drop_eq_nil_of_le (by omega), List.filter_nil, List.append_nil] at h
    refine Ev.step (fun k => ?_) h
    simp only [spec_Nearest.l1]
    rw [if_neg (by omega), wr (by omega) (by omega)]
    rfl
  | d + 1, i, acc, hi, ha, h => by
    have hlt : i < L.length := by omega
    have hg : rd_T50 L (i : Int) = L[i] := by unfold rd_T50; rw [Int.toNat_natCast, List.getD_eq_getElem?_getD, List.getElem?_eq_getElem hlt]; rfl
    have hw : wrap64 ((i : Int) + 1) = ((i + 1 : Nat) : Int) := by rw [wr (by omega) (by omega)]; rfl
    rw [List.drop_eq_getElem_cons hlt, List.filter_cons] at h
    by_cases e : keyD L[i] = (q : Int)
    · rw [if_pos (decide_eq_true e)] at h
      have ih := nearest_l1 L hl q hq R d (i + 1) (acc ++ [L[i]]) (by omega) (by simp; omega) (by rw [List.append_assoc]; exact h)
      refine Ev.step (fun k => ?_) ih
      simp only [spec_Nearest.l1]
      rw [if_pos (by omega), if_pos (by omega), if_pos (by omega), hg, if_pos (show L[i].f2 = (q : Int) from e), if_pos (by omega), hw]
    · rw [if_neg (by rw [decide_eq_true_eq]; exact e)] at h
      have ih := nearest_l1 L hl q hq R d (i + 1) acc (by omega) (by omega) h
      refine Ev.step (fun k => ?_) ih
      simp only [spec_Nearest.l1]
      rw [if_pos (by omega), if_pos (by omega), if_pos (by omega), hg, if_neg (show ¬ L[i].f2 = (q : Int) from e), hw]
theorem nearest_l0 (L : List S50) (hl : L.length ≤ 20) : ∀ (n q : Nat) (acc : List S50), q + n = 201 → acc.length ≤ 20 * q →
    Ev (fun k => spec_Nearest.l0 k L acc (q : Int)) (acc ++ buckets keyD L q n)
  | 0, q, acc, hq, ha => by
    rw [buckets, List.append_nil]
    refine Ev.step (f := fun _ => some acc) (fun k => ?_) (Ev.now _)
    simp only [spec_Nearest.l0]
    rw [if_neg (by omega)]
  | n + 1, q, acc, hq, ha => by
    have hf := List.length_filter_le (fun x => decide (keyD x = (q : Int))) L
    have ih := nearest_l0 L hl n (q + 1) (acc ++ L.filter (fun x => decide (keyD x = (q : Int)))) (by omega) (by rw [List.length_append]; omega)
    rw [List.append_assoc] at ih
    have h1 := nearest_l1 L hl q (by omega) _ L.length 0 acc (by omega) (by omega) (by rw [List.drop_zero]; exact ih)
    rw [buckets]
    refine Ev.step (fun k => ?_) h1
    simp only [spec_Nearest.l0]
    rw [if_pos (by omega)]
    rfl
theorem nearest_ev (L : List S50) (hl : L.length ≤ 20) : Ev (fun k => spec_Nearest.f k L) (buckets keyD L 0 201) := by
  have h := nearest_l0 L hl 201 0 [] (by omega) (by simp)
  rw [List.nil_append] at h
  exact h
theorem E50_keys (b : Bool) (s : ByteArray) (hs : plainB s = true) : ∀ (ts : List ByteArray) (i : Nat), (∀ t ∈ ts, plainB t = true) → ∀ x ∈ E50 b s ts i, 0 ≤ keyD x ∧ keyD x < ((201 : Nat) : Int)
  | [], i, _, x, hx => by simp [E50] at hx
  | t :: ts, i, h, x, hx => by
    unfold E50 at hx
    have ih := E50_keys b s hs ts (i + 1) (fun t ht => h t (by simp [ht])) x
    split at hx
    · rcases List.mem_cons.1 hx with rfl | hx
      · unfold keyD dI
        have h1 := lev_le (strRunes s).reverse (strRunes t).reverse
        have h2 := plain_size hs
        have h3 := plain_size (h t (by simp))
        have l1 := strRunes_length s
        have l2 := strRunes_length t
        simp only [List.length_reverse] at h1
        simp only
        omega
      · exact ih hx
    · exact ih hx
theorem sorted_eq (b : Bool) (s : ByteArray) (l : List ByteArray) (h : allPlainB s l = true) : (isort lt63 (E63 b s l 0)).map to50 = buckets keyD (E50 b s l 0) 0 201 := by
  obtain ⟨hs, hl, hp⟩ := list_plain h
  rw [isort_map lt63 (fun x y => decide (keyD x < keyD y)) to50 (fun _ _ => rfl), E63_map]
  exact isort_buckets keyD 201 _ (E50_keys b s hs l 0 hp)

theorem law_FnRankSorted (b : Bool) (s : ByteArray) (l : List ByteArray) : Ev (fun k => laws_FnRankSorted.f k b s l) true := by
  have hj0 : Ev (fun k => laws_FnRankSorted.j0 k b s l true) true := Ev.step (f := fun _ => some true) (fun k => by simp only [laws_FnRankSorted.j0, if_true]) (Ev.now _)
  by_cases h0 : (s.size : Int) > 2147483647
  · refine Ev.congr (fun k => ?_) hj0
    unfold laws_FnRankSorted.f; rw [if_pos h0]
  obtain ⟨r, hr⟩ := zzFits_ev l
  refine Ev.congr (f := fun k => (laws_zzFits1.f k l).bind fun t => laws_FnRankSorted.j0 k b s l (!t)) (fun k => by unfold laws_FnRankSorted.f; rw [if_neg h0]) (Ev.bind hr ?_)
  cases r
  · exact hj0
  refine Ev.step (f := fun k => (spec_AllPlain.f k s l).bind fun t358 => (if t358 = true then ((impl_RankSorted.f b false s l).bind fun t359 => ((spec_RankFind.f k b s l).bind fun t362 => ((spec_Nearest.f k t362).bind fun t365 => ((spec_SameRanks.f k t359 t365).bind fun t368 => (some t368))))) else (some true))) (fun k => by simp only [laws_FnRankSorted.j0]; rw [if_neg (by decide)]) ?_
  refine Ev.bind (allPlain_ev s l) ?_
  by_cases hp : allPlainB s l = true
  · have hl := (list_plain hp).2.1
    have hz := E50_length b s l 0
    rw [hp]
    refine Ev.congr (f := fun k => ((spec_RankFind.f k b s l).bind fun t362 => ((spec_Nearest.f k t362).bind fun t365 => ((spec_SameRanks.f k (buckets keyD (E50 b s l 0) 0 201) t365).bind fun t368 => (some t368))))) (fun k => by rw [if_pos rfl, impl_RankSorted.f, if_pos ⟨rfl, hp⟩, Option.bind_some, sorted_eq b s l hp]) ?_
    refine Ev.bind (spec_rankFind_ev b s l hp) (Ev.bind (nearest_ev _ (by omega)) (Ev.bind (sameRanks_ev _ ?_) (Ev.now _)))
    rw [← sorted_eq b s l hp, List.length_map, isort_length]
    have := E63_length b s l 0
    omega
  · rw [Bool.eq_false_iff.2 hp]
    exact Ev.congr (fun k => by rw [if_neg (by decide)]) (Ev.now _)
end Go.Proofs.YtfkemfkleceeiaaDoor
