/- What LevenshteinDistance comes to: the edit distance of the runes. -/
import Derived.Test.YtfkemfkleceeiaaDoorLev
import Derived.Test.YtfkemfkleceeiaaDoorP4
namespace Go.Proofs.YtfkemfkleceeiaaDoor
open Go.RowKit Go.Proofs.YtfkemfkleceeiaaDoorW.PrintWords
open P
set_option linter.unusedSimpArgs false
set_option linter.unusedVariables false

theorem wr {x : Int} (h0 : -9223372036854775808 ≤ x) (h1 : x ≤ 9223372036854775807) : wrap64 x = x := by unfold wrap64; omega
theorem min_f (a b c : Int) : fuzzysearch_min.f a b c = some (min (min a b) c) := by
  unfold fuzzysearch_min.f fuzzysearch_min2.f
  split <;> simp only [Option.bind_some] <;> split <;> simp only [Option.bind_some] <;> congr 1 <;> omega

/-- A column of which the first y numbers are new. -/
def colL (a b : List Int) (X y : Nat) : List Int := (List.range (a.length + 1)).map fun i => if i < y then (dist a b i X : Int) else (dist a b i (X - 1) : Int)
theorem colL_length (a b : List Int) (X y : Nat) : (colL a b X y).length = a.length + 1 := by simp [colL]
theorem colL_rd (a b : List Int) (X y i : Nat) (hi : i ≤ a.length) : rd (colL a b X y) (i : Int) = if i < y then (dist a b i X : Int) else (dist a b i (X - 1) : Int) := by
  unfold rd colL
  rw [Int.toNat_natCast, List.getD_eq_getElem?_getD, List.getElem?_map, List.getElem?_range (by omega)]
  rfl
theorem colL_set (a b : List Int) (X y : Nat) : (colL a b X y).set y (dist a b y X : Int) = colL a b X (y + 1) := by
  apply List.ext_getElem
  · simp [colL]
  · intro i h1 h2
    simp only [colL, List.getElem_set, List.getElem_map, List.getElem_range]
    by_cases e : y = i
    · subst e; rw [if_pos rfl, if_pos (by omega)]
    · rw [if_neg e]
      by_cases h : i < y
      · rw [if_pos h, if_pos (by omega)]
      · rw [if_neg h, if_neg (by omega)]
theorem colL_start (a b : List Int) (X : Nat) (hX : X < b.length) : (colL a b X (a.length + 1)).set 0 (((X + 1 : Nat) : Int)) = colL a b (X + 1) 1 := by
  apply List.ext_getElem
  · simp [colL]
  · intro i h1 h2
    simp only [colL, List.length_set, List.length_map, List.length_range] at h1
    simp only [colL, List.getElem_set, List.getElem_map, List.getElem_range]
    by_cases e : 0 = i
    · subst e; rw [if_pos rfl, if_pos (by omega), dist_zero_left a b _ (by omega)]
    · rw [if_neg e, if_pos h1, if_neg (by omega), Nat.add_sub_cancel]

theorem rd_get (a : List Int) (i : Nat) (hi : i < a.length) : rd a (i : Int) = a[i] := by
  unfold rd; rw [Int.toNat_natCast, List.getD_eq_getElem?_getD, List.getElem?_eq_getElem hi]; rfl

theorem lev_l2 (a b : List Int) (ha : a.length ≤ 100000) (hb : b.length ≤ 100000) (R : Int) (X : Nat) (hX : X < b.length)
    (hl1 : Ev (fun k => fuzzysearch_LevenshteinDistance.l1 k a b (colL a b (X + 1) (a.length + 1)) (((X + 2 : Nat) : Int))) R) :
    ∀ (d y : Nat), y + d = a.length → Ev (fun k => fuzzysearch_LevenshteinDistance.l2 k a b (colL a b (X + 1) (y + 1)) (((X + 1 : Nat) : Int)) (((y + 1 : Nat) : Int)) (dist a b y X : Int)) R
  | 0, y, h => by
    obtain rfl : y = a.length := by omega
    refine Ev.step (fun k => ?_) hl1
    simp only [fuzzysearch_LevenshteinDistance.l2]
    rw [if_neg (by omega), wr (by omega) (by omega)]
    congr 1
  | d + 1, y, h => by
    have ih := lev_l2 a b ha hb R X hX hl1 d (y + 1) (by omega)
    have hw1 : wrap64 (((y + 1 : Nat) : Int) - 1) = (y : Int) := by rw [wr (by omega) (by omega)]; omega
    have hw2 : wrap64 (((X + 1 : Nat) : Int) - 1) = (X : Int) := by rw [wr (by omega) (by omega)]; omega
    have hw3 : wrap64 (((y + 1 : Nat) : Int) + 1) = ((y + 2 : Nat) : Int) := by rw [wr (by omega) (by omega)]; omega
    have d1 := dist_le a b (y + 1) X
    have d2 := dist_le a b y (X + 1)
    have d3 := dist_le a b y X
    have r1 : rd (colL a b (X + 1) (y + 1)) (((y + 1 : Nat) : Int)) = (dist a b (y + 1) X : Int) := by rw [colL_rd _ _ _ _ _ (by omega), if_neg (by omega), Nat.add_sub_cancel]
    have r2 : rd (colL a b (X + 1) (y + 1)) (y : Int) = (dist a b y (X + 1) : Int) := by rw [colL_rd _ _ _ _ _ (by omega), if_pos (by omega)]
    have r3 := rd_get a y (by omega)
    have r4 := rd_get b X hX
    have hs := dist_step a b y X (by omega) hX
    refine Ev.step (fun k => ?_) ih
    simp only [fuzzysearch_LevenshteinDistance.l2]
    rw [if_pos (by omega), if_pos (by omega), if_pos (by rw [colL_length]; omega), hw1, hw2, hw3, if_pos (by omega), if_pos (by omega), if_pos (by omega), if_pos (by omega), r1, r2, r3, r4]
    by_cases e : a[y] = b[X]
    · rw [if_pos e, if_pos (by rw [colL_length]; omega), min_f, Option.bind_some]
      rw [if_pos e] at hs
      rw [wr (by omega) (by omega), wr (by omega) (by omega), wr (by omega) (by omega), Int.toNat_natCast]
      rw [← colL_set a b (X + 1) (y + 1), hs]
      congr 2
      omega
    · rw [if_neg e, if_pos (by rw [colL_length]; omega), min_f, Option.bind_some]
      rw [if_neg e] at hs
      rw [wr (by omega) (by omega), wr (by omega) (by omega), wr (by omega) (by omega), Int.toNat_natCast]
      rw [← colL_set a b (X + 1) (y + 1), hs]
      congr 2
      omega

theorem lev_l1 (a b : List Int) (ha : a.length ≤ 100000) (hb : b.length ≤ 100000) :
    ∀ (d X : Nat), X + d = b.length → Ev (fun k => fuzzysearch_LevenshteinDistance.l1 k a b (colL a b X (a.length + 1)) (((X + 1 : Nat) : Int))) (lev a.reverse b.reverse : Int)
  | 0, X, h => by
    obtain rfl : X = b.length := by omega
    refine Ev.step (f := fun _ => some (lev a.reverse b.reverse : Int)) (fun k => ?_) (Ev.now _)
    simp only [fuzzysearch_LevenshteinDistance.l1]
    rw [if_neg (by omega), if_pos (by omega), if_pos (by rw [colL_length]; omega), colL_rd _ _ _ _ _ (Nat.le_refl _), if_pos (by omega), dist_all]
  | d + 1, X, h => by
    have ih := lev_l1 a b ha hb d (X + 1) (by omega)
    have h2 := lev_l2 a b ha hb _ X (by omega) ih a.length 0 (by omega)
    refine Ev.step (fun k => ?_) h2
    simp only [fuzzysearch_LevenshteinDistance.l1]
    rw [if_pos (by omega), if_pos (by rw [colL_length]; omega), show ((0 : Int)).toNat = 0 from rfl, colL_start a b X (by omega), wr (by omega) (by omega), dist_zero_left a b X (by omega)]
    congr 1
    omega

theorem lev_l0 (a b : List Int) (ha : a.length ≤ 100000) (hb : b.length ≤ 100000) :
    ∀ (d y : Nat), y + d = a.length → Ev (fun k => fuzzysearch_LevenshteinDistance.l0 k a b ((List.range (y + 1)).map fun (i : Nat) => (i : Int)) (((y + 1 : Nat) : Int))) (lev a.reverse b.reverse : Int)
  | 0, y, h => by
    obtain rfl : y = a.length := by omega
    refine Ev.step (fun k => ?_) (lev_l1 a b ha hb b.length 0 (by omega))
    simp only [fuzzysearch_LevenshteinDistance.l0]
    rw [if_neg (by omega)]
    congr 1
    apply List.ext_getElem
    · simp [colL]
    · intro i h1 h2
      simp only [List.length_map, List.length_range] at h1
      simp only [colL, List.getElem_map, List.getElem_range]
      rw [if_pos h1, dist_zero_right a b i (by omega)]
  | d + 1, y, h => by
    refine Ev.step (fun k => ?_) (lev_l0 a b ha hb d (y + 1) (by omega))
    simp only [fuzzysearch_LevenshteinDistance.l0]
    rw [if_pos (by omega), if_pos (by simp; omega), wr (by omega) (by omega)]
    congr 1
    · rw [List.range_succ (n := y + 1), List.map_append]; rfl

theorem lev_ev (s t : ByteArray) (hs : s.size ≤ 100000) (ht : t.size ≤ 100000) : Ev (fun k => fuzzysearch_LevenshteinDistance.f k s t) (lev (strRunes s).reverse (strRunes t).reverse : Int) := by
  have h1 := strRunes_length s
  have h2 := strRunes_length t
  refine Ev.congr (fun k => ?_) (lev_l0 (strRunes s) (strRunes t) (by omega) (by omega) (strRunes s).length 0 (by omega))
  unfold fuzzysearch_LevenshteinDistance.f
  rw [if_pos (by omega), if_pos (by omega)]
  rfl
theorem impl_dist_ev (s t : ByteArray) (hs : s.size ≤ 60) (ht : t.size ≤ 60) : Ev (fun k => impl_Distance.f k s t) (lev (strRunes s).reverse (strRunes t).reverse : Int) := by
  refine Ev.congr (fun k => ?_) (Ev.bind (lev_ev s t (by omega) (by omega)) (Ev.now _))
  unfold impl_Distance.f
  rw [if_neg (by omega), if_neg (by omega)]
end Go.Proofs.YtfkemfkleceeiaaDoor
