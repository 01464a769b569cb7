/- What spec.Distance comes to: the edit distance of the runes. -/
import Derived.Test.YtfkemfkleceeiaaDoorPureLev
import Derived.Test.YtfkemfkleceeiaaDoorP5
namespace Go.Proofs.YtfkemfkleceeiaaDoor
open Go.RowKit Go.Proofs.YtfkemfkleceeiaaDoorW.PrintWords Go.Proofs.YtfkemfkleceeiaaDoorW.PrintMore
open P
set_option linter.unusedSimpArgs false
set_option linter.unusedVariables false

theorem mn_eq (a b : Int) : mn a b = min a b := by unfold mn; split <;> omega
theorem min3a (A B C : Nat) : min (min (A : Int) ((B : Int) + 1)) ((C : Int) + 1) = ((min (min (B + 1) (C + 1)) A : Nat) : Int) := by
  rcases Nat.le_total (B + 1) (C + 1) with h | h <;> (first | rw [Nat.min_eq_left h] | rw [Nat.min_eq_right h]) <;> omega
theorem min3b (A B C : Nat) : min (min ((A : Int) + 1) ((B : Int) + 1)) ((C : Int) + 1) = ((min (min (B + 1) (C + 1)) (A + 1) : Nat) : Int) := by
  rcases Nat.le_total (B + 1) (C + 1) with h | h <;> (first | rw [Nat.min_eq_left h] | rw [Nat.min_eq_right h]) <;> omega
theorem runesOf_f (s : ByteArray) (b : Bool) (hs : s.size ≤ 1073741824) : spec_runesOf.f s b = some ((strRunes s).map (foldIf b)) := by unfold spec_runesOf.f; rw [if_pos hs]
theorem map_foldIf (l : List Int) : l.map (foldIf false) = l := by
  have : foldIf false = id := by funext x; simp [foldIf]
  rw [this, List.map_id]

/-- The first j numbers of row i. -/
def rowP (a b : List Int) (i j : Nat) : List Int := (List.range j).map fun (j' : Nat) => (dist a b i j' : Int)
def rowsL (a b : List Int) (i : Nat) : List (List Int) := (List.range i).map fun (i' : Nat) => rowP a b i' (b.length + 1)
theorem rowP_length (a b : List Int) (i j : Nat) : (rowP a b i j).length = j := by simp [rowP]
theorem rowP_rd (a b : List Int) (i j q : Nat) (h : q < j) : rd (rowP a b i j) (q : Int) = (dist a b i q : Int) := by
  unfold rd rowP
  rw [Int.toNat_natCast, List.getD_eq_getElem?_getD, List.getElem?_map, List.getElem?_range h]
  rfl
theorem rowP_succ (a b : List Int) (i j : Nat) : rowP a b i j ++ [(dist a b i j : Int)] = rowP a b i (j + 1) := by unfold rowP; rw [List.range_succ, List.map_append]; rfl
theorem rowsL_length (a b : List Int) (i : Nat) : (rowsL a b i).length = i := by simp [rowsL]
theorem rowsL_rd (a b : List Int) (i q : Nat) (h : q < i) : rd_L5 (rowsL a b i) (q : Int) = rowP a b q (b.length + 1) := by
  unfold rd_L5 rowsL
  rw [Int.toNat_natCast, List.getD_eq_getElem?_getD, List.getElem?_map, List.getElem?_range h]
  rfl
theorem rowsL_succ (a b : List Int) (i : Nat) : rowsL a b i ++ [rowP a b i (b.length + 1)] = rowsL a b (i + 1) := by unfold rowsL; rw [List.range_succ, List.map_append]; rfl

theorem sd_l1 (a b : List Int) (ha : a.length ≤ 100000) (hb : b.length ≤ 100000) (R : Int) (i : Nat) (hi : i ≤ a.length)
    (h0 : Ev (fun k => spec_Distance.l0 k a b (rowsL a b (i + 1)) (((i + 1 : Nat) : Int))) R) :
    ∀ (d j : Nat), j + d = b.length + 1 → Ev (fun k => spec_Distance.l1 k a b (rowsL a b i) (i : Int) (rowP a b i j) (j : Int)) R
  | 0, j, h => by
    obtain rfl : j = b.length + 1 := by omega
    refine Ev.step (fun k => ?_) h0
    simp only [spec_Distance.l1]
    rw [if_neg (by omega), if_pos (by rw [rowsL_length]; omega), rowsL_succ, wr (by omega) (by omega)]
    congr 1
  | d + 1, j, h => by
    have ih := sd_l1 a b ha hb R i hi h0 d (j + 1) (by omega)
    have hw0 : wrap64 ((j : Int) + 1) = ((j + 1 : Nat) : Int) := by rw [wr (by omega) (by omega)]; omega
    have hlim : (rowP a b i j).length < 17592186044416 := by rw [rowP_length]; omega
    refine Ev.step (fun k => ?_) ih
    simp only [spec_Distance.l1]
    rw [if_pos (by omega)]
    match i, hi with
    | 0, hi =>
      rw [if_pos (by omega), if_pos hlim, hw0, ← rowP_succ, dist_zero_left a b j (by omega)]
    | i + 1, hi =>
      rw [if_neg (by omega)]
      match j, h with
      | 0, h =>
        rw [if_pos (by omega), if_pos hlim, hw0, ← rowP_succ, dist_zero_right a b (i + 1) hi]
      | j + 1, h =>
        have d1 := dist_le a b (i + 1) j
        have d2 := dist_le a b i (j + 1)
        have d3 := dist_le a b i j
        have hw1 : wrap64 (((i + 1 : Nat) : Int) - 1) = (i : Int) := by rw [wr (by omega) (by omega)]; omega
        have hw2 : wrap64 (((j + 1 : Nat) : Int) - 1) = (j : Int) := by rw [wr (by omega) (by omega)]; omega
        have r1 : rd_L5 (rowsL a b (i + 1)) (i : Int) = rowP a b i (b.length + 1) := rowsL_rd _ _ _ _ (by omega)
        have r2 := rowP_rd a b i (b.length + 1) j (by omega)
        have r3 := rowP_rd a b i (b.length + 1) (j + 1) (by omega)
        have r4 := rowP_rd a b (i + 1) (j + 1) j (by omega)
        have r5 := rd_get a i (by omega)
        have r6 := rd_get b j (by omega)
        have hs := dist_step a b i j (by omega) (by omega)
        rw [if_neg (by omega), hw0, hw1, hw2, r1, if_pos (by omega), if_pos (by rw [rowsL_length]; omega), if_pos (by omega), if_pos (by rw [rowP_length]; omega), if_pos (by omega), if_pos (by omega), r2, r3, r4, r5, r6]
        rw [wr (x := (dist a b i j : Int) + 1) (by omega) (by omega), wr (x := (dist a b i (j + 1) : Int) + 1) (by omega) (by omega), wr (x := (dist a b (i + 1) j : Int) + 1) (by omega) (by omega)]
        by_cases e : a[i] = b[j]
        · rw [if_pos e, if_pos (by omega), if_pos (by rw [rowP_length]; omega), if_pos (by rw [rowP_length]; omega), if_pos hlim, ← rowP_succ a b (i + 1) (j + 1)]
          rw [if_pos e] at hs
          rw [mn_eq, mn_eq, min3a, hs]
          rfl
        · rw [if_neg e, if_pos (by omega), if_pos (by rw [rowP_length]; omega), if_pos (by rw [rowP_length]; omega), if_pos hlim, ← rowP_succ a b (i + 1) (j + 1)]
          rw [if_neg e] at hs
          rw [mn_eq, mn_eq, min3b, hs]

theorem sd_l0 (a b : List Int) (ha : a.length ≤ 100000) (hb : b.length ≤ 100000) :
    ∀ (d i : Nat), i + d = a.length + 1 → Ev (fun k => spec_Distance.l0 k a b (rowsL a b i) (i : Int)) (lev a.reverse b.reverse : Int)
  | 0, i, h => by
    obtain rfl : i = a.length + 1 := by omega
    refine Ev.step (f := fun _ => some (lev a.reverse b.reverse : Int)) (fun k => ?_) (Ev.now _)
    simp only [spec_Distance.l0]
    rw [if_neg (by omega), if_pos (by omega), if_pos (by rw [rowsL_length]; omega), rowsL_rd _ _ _ _ (by omega), if_pos (by omega), if_pos (by rw [rowP_length]; omega), rowP_rd _ _ _ _ _ (by omega), dist_all]
  | d + 1, i, h => by
    refine Ev.step (fun k => ?_) (sd_l1 a b ha hb _ i (by omega) (sd_l0 a b ha hb d (i + 1) (by omega)) (b.length + 1) 0 (by omega))
    simp only [spec_Distance.l0]
    rw [if_pos (by omega)]
    rfl

theorem spec_dist_ev (s t : ByteArray) (hs : s.size ≤ 60) (ht : t.size ≤ 60) : Ev (fun k => spec_Distance.f k s t) (lev (strRunes s).reverse (strRunes t).reverse : Int) := by
  have h1 := strRunes_length s
  have h2 := strRunes_length t
  refine Ev.congr (fun k => ?_) (sd_l0 (strRunes s) (strRunes t) (by omega) (by omega) ((strRunes s).length + 1) 0 (by omega))
  unfold spec_Distance.f
  rw [runesOf_f s false (by omega), runesOf_f t false (by omega), Option.bind_some, Option.bind_some, map_foldIf, map_foldIf]
  rfl
end Go.Proofs.YtfkemfkleceeiaaDoor
