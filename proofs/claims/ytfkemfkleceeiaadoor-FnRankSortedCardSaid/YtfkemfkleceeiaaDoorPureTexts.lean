/- The edit distance of two lists, and what it obeys: nothing of the program. -/
import Derived.Test.YtfkemfkleceeiaaDoorTexts
import Derived.Test.YtfkemfkleceeiaaDoorP4
import Derived.Test.YtfkemfkleceeiaaDoorP5
import Derived.Test.YtfkemfkleceeiaaDoorExtFold
import Derived.Test.YtfkemfkleceeiaaDoorP6
import Derived.Test.YtfkemfkleceeiaaDoorP8
import Derived.Laws.Cover4
import Derived.Lib.CaseU
import Derived.Shelf.Unicode.CaseLaid
namespace Go.Proofs.YtfkemfkleceeiaaDoor

/-- The fewest changes. -/
def lev : List Int → List Int → Nat
  | [], b => b.length
  | x :: a, [] => a.length + 1
  | x :: a, y :: b => min (min (lev a (y :: b) + 1) (lev (x :: a) b + 1)) (lev a b + if x = y then 0 else 1)
  termination_by a b => a.length + b.length

theorem lev_nil_left (b : List Int) : lev [] b = b.length := by unfold lev; rfl
theorem lev_nil_right : ∀ a : List Int, lev a [] = a.length
  | [] => by unfold lev; rfl
  | _ :: _ => by unfold lev; rfl
theorem lev_cons (x y : Int) (a b : List Int) : lev (x :: a) (y :: b) = min (min (lev a (y :: b) + 1) (lev (x :: a) b + 1)) (lev a b + if x = y then 0 else 1) := by rw [lev]

theorem lev_step_left (x : Int) (a : List Int) : ∀ b, lev (x :: a) b ≤ lev a b + 1
  | [] => by rw [lev_nil_right, lev_nil_right]; simp
  | y :: b => by rw [lev_cons]; omega
theorem lev_step_right (y : Int) (b : List Int) : ∀ a, lev a (y :: b) ≤ lev a b + 1
  | [] => by rw [lev_nil_left, lev_nil_left]; simp
  | x :: a => by rw [lev_cons]; omega
theorem lev_turn (x y : Int) (a b : List Int) : lev (x :: a) (y :: b) ≤ lev a b + if x = y then 0 else 1 := by rw [lev_cons]; exact Nat.min_le_right _ _
/-- One of three changes comes first. -/
theorem lev_cases (x y : Int) (a b : List Int) : lev (x :: a) (y :: b) = lev a (y :: b) + 1 ∨ lev (x :: a) (y :: b) = lev (x :: a) b + 1 ∨ lev (x :: a) (y :: b) = lev a b + if x = y then 0 else 1 := by
  rw [lev_cons]
  rcases Nat.le_total (min (lev a (y :: b) + 1) (lev (x :: a) b + 1)) (lev a b + if x = y then 0 else 1) with h4 | h4
  · rw [Nat.min_eq_left h4]
    rcases Nat.le_total (lev a (y :: b) + 1) (lev (x :: a) b + 1) with h5 | h5
    · exact .inl (Nat.min_eq_left h5)
    · exact .inr (.inl (Nat.min_eq_right h5))
  · rw [Nat.min_eq_right h4]
    exact .inr (.inr rfl)
theorem lev_symm_upto (N : Nat) : ∀ a b : List Int, a.length + b.length ≤ N → lev a b = lev b a := by
  induction N with
  | zero =>
    intro a b h
    obtain rfl : a = [] := List.eq_nil_of_length_eq_zero (by omega)
    obtain rfl : b = [] := List.eq_nil_of_length_eq_zero (by omega)
    rfl
  | succ N ih =>
    intro a b h
    match a, b, h with
    | [], b, _ => rw [lev_nil_left, lev_nil_right]
    | x :: a, [], _ => rw [lev_nil_left, lev_nil_right]
    | x :: a, y :: b, h =>
      simp only [List.length_cons] at h
      rw [lev_cons, lev_cons, ih a (y :: b) (by simp only [List.length_cons]; omega), ih (x :: a) b (by simp only [List.length_cons]; omega), ih a b (by omega), Nat.min_comm (lev (y :: b) a + 1)]
      congr 2
      by_cases e : x = y
      · rw [if_pos e, if_pos e.symm]
      · rw [if_neg e, if_neg (fun h => e h.symm)]
theorem lev_symm (a b : List Int) : lev a b = lev b a := lev_symm_upto _ a b (Nat.le_refl _)
theorem lev_le : ∀ a b : List Int, lev a b ≤ a.length + b.length
  | [], b => by rw [lev_nil_left]; simp
  | x :: a, b => by have h1 := lev_step_left x a b; have h2 := lev_le a b; simp only [List.length_cons]; omega
theorem lev_length_upto (N : Nat) : ∀ a b : List Int, a.length + b.length ≤ N → b.length ≤ a.length + lev a b := by
  induction N with
  | zero =>
    intro a b h
    omega
  | succ N ih =>
    intro a b h
    match a, b, h with
    | [], b, _ => rw [lev_nil_left]; simp
    | x :: a, [], _ => simp
    | x :: a, y :: b, h =>
      simp only [List.length_cons] at h
      have h1 := ih a (y :: b) (by simp only [List.length_cons]; omega)
      have h2 := ih (x :: a) b (by simp only [List.length_cons]; omega)
      have h3 := ih a b (by omega)
      simp only [List.length_cons] at h1 h2 ⊢
      rcases lev_cases x y a b with e | e | e <;> omega
theorem lev_length (a b : List Int) : b.length ≤ a.length + lev a b := lev_length_upto _ a b (Nat.le_refl _)
theorem cost_triangle (x y z : Int) : (if x = z then 0 else 1) ≤ (if x = y then 0 else 1) + (if y = z then 0 else 1) := by
  by_cases h1 : x = y
  · subst h1; split <;> simp
  · rw [if_neg h1]; split <;> omega
theorem lev_triangle_upto (N : Nat) : ∀ a b c : List Int, a.length + b.length + c.length ≤ N → lev a c ≤ lev a b + lev b c := by
  induction N with
  | zero =>
    intro a b c h
    obtain rfl : a = [] := List.eq_nil_of_length_eq_zero (by omega)
    obtain rfl : c = [] := List.eq_nil_of_length_eq_zero (by omega)
    rw [lev_nil_left]; simp
  | succ N ih =>
    intro a b c h
    match a, b, c, h with
    | [], b, c, _ => have := lev_length b c; rw [lev_nil_left, lev_nil_left]; omega
    | x :: a, [], c, _ => have := lev_le (x :: a) c; rw [lev_nil_right, lev_nil_left]; omega
    | x :: a, y :: b, [], _ => have h1 := lev_length (y :: b) (x :: a); rw [lev_symm] at h1; rw [lev_nil_right, lev_nil_right]; omega
    | x :: a, y :: b, z :: c, h =>
      simp only [List.length_cons] at h
      have i1 := ih (x :: a) (y :: b) c (by simp only [List.length_cons]; omega)
      have i2 := ih a (y :: b) (z :: c) (by simp only [List.length_cons]; omega)
      have i3 := ih (x :: a) b (z :: c) (by simp only [List.length_cons]; omega)
      have i4 := ih (x :: a) b c (by simp only [List.length_cons]; omega)
      have i5 := ih a b (z :: c) (by simp only [List.length_cons]; omega)
      have i6 := ih a b c (by omega)
      have s1 := lev_step_right z c (x :: a)
      have s2 := lev_step_left x a (z :: c)
      have s3 := lev_turn x z a c
      have s4 := cost_triangle x y z
      rcases lev_cases y z b c with e2 | e2 | e2
      · rcases lev_cases x y a b with e1 | e1 | e1 <;> omega
      · omega
      · rcases lev_cases x y a b with e1 | e1 | e1
        · omega
        · omega
        · omega
theorem lev_triangle (a b c : List Int) : lev a c ≤ lev a b + lev b c := lev_triangle_upto _ a b c (Nat.le_refl _)
theorem lev_same : ∀ a : List Int, lev a a = 0
  | [] => by rw [lev_nil_left]; rfl
  | x :: a => by have h := lev_turn x x a a; rw [if_pos rfl, lev_same a] at h; omega
theorem lev_eq : ∀ a b : List Int, lev a b = 0 → a = b
  | [], [], _ => rfl
  | [], y :: b, h => by rw [lev_nil_left] at h; simp at h
  | x :: a, [], h => by rw [lev_nil_right] at h; simp at h
  | x :: a, y :: b, h => by
    rcases lev_cases x y a b with e | e | e
    · omega
    · omega
    · by_cases c : x = y
      · rw [if_pos c] at e
        rw [c, lev_eq a b (by omega)]
      · rw [if_neg c] at e; omega
theorem lev_zero (a b : List Int) : lev a b = 0 ↔ a = b := ⟨lev_eq a b, fun h => by rw [h]; exact lev_same b⟩

/-- The distance of the first i runes of one and the first j of the other. -/
def dist (a b : List Int) (i j : Nat) : Nat := lev (a.take i).reverse (b.take j).reverse
theorem dist_zero_left (a b : List Int) (j : Nat) (hj : j ≤ b.length) : dist a b 0 j = j := by
  unfold dist; rw [List.take_zero, List.reverse_nil, lev_nil_left, List.length_reverse, List.length_take]; omega
theorem dist_zero_right (a b : List Int) (i : Nat) (hi : i ≤ a.length) : dist a b i 0 = i := by
  unfold dist; rw [List.take_zero, List.reverse_nil, lev_nil_right, List.length_reverse, List.length_take]; omega
theorem take_rev (a : List Int) (i : Nat) (hi : i < a.length) : (a.take (i + 1)).reverse = a[i] :: (a.take i).reverse := by
  rw [List.take_succ_eq_append_getElem hi, List.reverse_append]; rfl
theorem dist_step (a b : List Int) (i j : Nat) (hi : i < a.length) (hj : j < b.length) :
    dist a b (i + 1) (j + 1) = min (min (dist a b i (j + 1) + 1) (dist a b (i + 1) j + 1)) (dist a b i j + if a[i] = b[j] then 0 else 1) := by
  unfold dist
  rw [take_rev a i hi, take_rev b j hj, lev_cons]
theorem dist_all (a b : List Int) : dist a b a.length b.length = lev a.reverse b.reverse := by
  unfold dist; rw [List.take_length, List.take_length]
theorem dist_le (a b : List Int) (i j : Nat) : dist a b i j ≤ a.length + b.length := by
  have := lev_le (a.take i).reverse (b.take j).reverse
  simp at this
  unfold dist
  omega
end Go.Proofs.YtfkemfkleceeiaaDoor
namespace Go.Proofs.YtfkemfkleceeiaaDoor
open Go.RowKit Go.Proofs.YtfkemfkleceeiaaDoorW.PrintWords
open P
set_option linter.unusedSimpArgs false
set_option linter.unusedVariables false

theorem wr {x : Int} (h0 : -9223372036854775808 ≤ x) (h1 : x ≤ 9223372036854775807) : wrap64 x = x := by unfold wrap64; omega
theorem min_f (a b c : Int) : fuzzysearch_min.f a b c = some (min (min a b) c) := by
  unfold fuzzysearch_min.f fuzzysearch_min2.f
  split <;> simp only [Option.bind_some] <;> split <;> simp only [Option.bind_some] <;> congr 1 <;> omega

/-- A column of which the first y numbers are new. -/
def colL (a b : List Int) (X y : Nat) : List Int := (List.range (a.length + 1)).map fun i => if i < y then (dist a b i X : Int) else (dist a b i (X - 1) : Int)
theorem colL_length (a b : List Int) (X y : Nat) : (colL a b X y).length = a.length + 1 := by simp [colL]
theorem colL_rd (a b : List Int) (X y i : Nat) (hi : i ≤ a.length) : rd (colL a b X y) (i : Int) = if i < y then (dist a b i X : Int) else (dist a b i (X - 1) : Int) := by
  unfold rd colL
  rw [Int.toNat_natCast, List.getD_eq_getElem?_getD, List.getElem?_map, List.getElem?_range (by omega)]
  rfl
theorem colL_set (a b : List Int) (X y : Nat) : (colL a b X y).set y (dist a b y X : Int) = colL a b X (y + 1) := by
  apply List.ext_getElem
  · simp [colL]
  · intro i h1 h2
    simp only [colL, List.getElem_set, List.getElem_map, List.getElem_range]
    by_cases e : y = i
    · subst e; rw [if_pos rfl, if_pos (by omega)]
    · rw [if_neg e]
      by_cases h : i < y
      · rw [if_pos h, if_pos (by omega)]
      · rw [if_neg h, if_neg (by omega)]
theorem colL_start (a b : List Int) (X : Nat) (hX : X < b.length) : (colL a b X (a.length + 1)).set 0 (((X + 1 : Nat) : Int)) = colL a b (X + 1) 1 := by
  apply List.ext_getElem
  · simp [colL]
  · intro i h1 h2
    simp only [colL, List.length_set, List.length_map, List.length_range] at h1
    simp only [colL, List.getElem_set, List.getElem_map, List.getElem_range]
    by_cases e : 0 = i
    · subst e; rw [if_pos rfl, if_pos (by omega), dist_zero_left a b _ (by omega)]
    · rw [if_neg e, if_pos h1, if_neg (by omega), Nat.add_sub_cancel]

theorem rd_get (a : List Int) (i : Nat) (hi : i < a.length) : rd a (i : Int) = a[i] := by
  unfold rd; rw [Int.toNat_natCast, List.getD_eq_getElem?_getD, List.getElem?_eq_getElem hi]; rfl

theorem lev_l2 (a b : List Int) (ha : a.length ≤ 100000) (hb : b.length ≤ 100000) (R : Int) (X : Nat) (hX : X < b.length)
    (hl1 : Ev (fun k => fuzzysearch_LevenshteinDistance.l1 k a b (colL a b (X + 1) (a.length + 1)) (((X + 2 : Nat) : Int))) R) :
    ∀ (d y : Nat), y + d = a.length → Ev (fun k => fuzzysearch_LevenshteinDistance.l2 k a b (colL a b (X + 1) (y + 1)) (((X + 1 : Nat) : Int)) (((y + 1 : Nat) : Int)) (dist a b y X : Int)) R
  | 0, y, h => by
    obtain rfl : y = a.length := by omega
    refine Ev.step (fun k => ?_) hl1
    simp only [fuzzysearch_LevenshteinDistance.l2]
    rw [if_neg (by omega), wr (by omega) (by omega)]
    congr 1
  | d + 1, y, h => by
    have ih := lev_l2 a b ha hb R X hX hl1 d (y + 1) (by omega)
    have hw1 : wrap64 (((y + 1 : Nat) : Int) - 1) = (y : Int) := by rw [wr (by omega) (by omega)]; omega
    have hw2 : wrap64 (((X + 1 : Nat) : Int) - 1) = (X : Int) := by rw [wr (by omega) (by omega)]; omega
    have hw3 : wrap64 (((y + 1 : Nat) : Int) + 1) = ((y + 2 : Nat) : Int) := by rw [wr (by omega) (by omega)]; omega
    have d1 := dist_le a b (y + 1) X
    have d2 := dist_le a b y (X + 1)
    have d3 := dist_le a b y X
    have r1 : rd (colL a b (X + 1) (y + 1)) (((y + 1 : Nat) : Int)) = (dist a b (y + 1) X : Int) := by rw [colL_rd _ _ _ _ _ (by omega), if_neg (by omega), Nat.add_sub_cancel]
    have r2 : rd (colL a b (X + 1) (y + 1)) (y : Int) = (dist a b y (X + 1) : Int) := by rw [colL_rd _ _ _ _ _ (by omega), if_pos (by omega)]
    have r3 := rd_get a y (by omega)
    have r4 := rd_get b X hX
    have hs := dist_step a b y X (by omega) hX
    refine Ev.step (fun k => ?_) ih
    simp only [fuzzysearch_LevenshteinDistance.l2]
    rw [if_pos (by omega), if_pos (by omega), if_pos (by rw [colL_length]; omega), hw1, hw2, hw3, if_pos (by omega), if_pos (by omega), if_pos (by omega), if_pos (by omega), r1, r2, r3, r4]
    by_cases e : a[y] = b[X]
    · rw [if_pos e, if_pos (by rw [colL_length]; omega), min_f, Option.bind_some]
      rw [if_pos e] at hs
      rw [wr (by omega) (by omega), wr (by omega) (by omega), wr (by omega) (by omega), Int.toNat_natCast]
      rw [← colL_set a b (X + 1) (y + 1), hs]
      congr 2
      omega
    · rw [if_neg e, if_pos (by rw [colL_length]; omega), min_f, Option.bind_some]
      rw [if_neg e] at hs
      rw [wr (by omega) (by omega), wr (by omega) (by omega), wr (by omega) (by omega), Int.toNat_natCast]
      rw [← colL_set a b (X + 1) (y + 1), hs]
      congr 2
      omega

theorem lev_l1 (a b : List Int) (ha : a.length ≤ 100000) (hb : b.length ≤ 100000) :
    ∀ (d X : Nat), X + d = b.length → Ev (fun k => fuzzysearch_LevenshteinDistance.l1 k a b (colL a b X (a.length + 1)) (((X + 1 : Nat) : Int))) (lev a.reverse b.reverse : Int)
  | 0, X, h => by
    obtain rfl : X = b.length := by omega
    refine Ev.step (f := fun _ => some (lev a.reverse b.reverse : Int)) (fun k => ?_) (Ev.now _)
    simp only [fuzzysearch_LevenshteinDistance.l1]
    rw [if_neg (by omega), if_pos (by omega), if_pos (by rw [colL_length]; omega), colL_rd _ _ _ _ _ (Nat.le_refl _), if_pos (by omega), dist_all]
  | d + 1, X, h => by
    have ih := lev_l1 a b ha hb d (X + 1) (by omega)
    have h2 := lev_l2 a b ha hb _ X (by omega) ih a.length 0 (by omega)
    refine Ev.step (fun k => ?_) h2
    simp only [fuzzysearch_LevenshteinDistance.l1]
    rw [if_pos (by omega), if_pos (by rw [colL_length]; omega), show ((0 : Int)).toNat = 0 from rfl, colL_start a b X (by omega), wr (by omega) (by omega), dist_zero_left a b X (by omega)]
    congr 1
    omega

theorem lev_l0 (a b : List Int) (ha : a.length ≤ 100000) (hb : b.length ≤ 100000) :
    ∀ (d y : Nat), y + d = a.length → Ev (fun k => fuzzysearch_LevenshteinDistance.l0 k a b ((List.range (y + 1)).map fun (i : Nat) => (i : Int)) (((y + 1 : Nat) : Int))) (lev a.reverse b.reverse : Int)
  | 0, y, h => by
    obtain rfl : y = a.length := by omega
    refine Ev.step (fun k => ?_) (lev_l1 a b ha hb b.length 0 (by omega))
    simp only [fuzzysearch_LevenshteinDistance.l0]
    rw [if_neg (by omega)]
    congr 1
    apply List.ext_getElem
    · simp [colL]
    · intro i h1 h2
      simp only [List.length_map, List.length_range] at h1
      simp only [colL, List.getElem_map, List.getElem_range]
      rw [if_pos h1, dist_zero_right a b i (by omega)]
  | d + 1, y, h => by
    refine Ev.step (fun k => ?_) (lev_l0 a b ha hb d (y + 1) (by omega))
    simp only [fuzzysearch_LevenshteinDistance.l0]
    rw [if_pos (by omega), if_pos (by simp; omega), wr (by omega) (by omega)]
    congr 1
    · rw [List.range_succ (n := y + 1), List.map_append]; rfl

theorem lev_ev (s t : ByteArray) (hs : s.size ≤ 100000) (ht : t.size ≤ 100000) : Ev (fun k => fuzzysearch_LevenshteinDistance.f k s t) (lev (strRunes s).reverse (strRunes t).reverse : Int) := by
  have h1 := strRunes_length s
  have h2 := strRunes_length t
  refine Ev.congr (fun k => ?_) (lev_l0 (strRunes s) (strRunes t) (by omega) (by omega) (strRunes s).length 0 (by omega))
  unfold fuzzysearch_LevenshteinDistance.f
  rw [if_pos (by omega), if_pos (by omega)]
  rfl
theorem impl_dist_ev (s t : ByteArray) (hs : s.size ≤ 60) (ht : t.size ≤ 60) : Ev (fun k => impl_Distance.f k s t) (lev (strRunes s).reverse (strRunes t).reverse : Int) := by
  refine Ev.congr (fun k => ?_) (Ev.bind (lev_ev s t (by omega) (by omega)) (Ev.now _))
  unfold impl_Distance.f
  rw [if_neg (by omega), if_neg (by omega)]
end Go.Proofs.YtfkemfkleceeiaaDoor
namespace Go.Proofs.YtfkemfkleceeiaaDoor
open Go.RowKit Go.Proofs.YtfkemfkleceeiaaDoorW.PrintWords Go.Proofs.YtfkemfkleceeiaaDoorW.PrintMore
open P
set_option linter.unusedSimpArgs false
set_option linter.unusedVariables false

theorem mn_eq (a b : Int) : mn a b = min a b := by unfold mn; split <;> omega
theorem min3a (A B C : Nat) : min (min (A : Int) ((B : Int) + 1)) ((C : Int) + 1) = ((min (min (B + 1) (C + 1)) A : Nat) : Int) := by
  rcases Nat.le_total (B + 1) (C + 1) with h | h <;> (first | rw [Nat.min_eq_left h] | rw [Nat.min_eq_right h]) <;> omega
theorem min3b (A B C : Nat) : min (min ((A : Int) + 1) ((B : Int) + 1)) ((C : Int) + 1) = ((min (min (B + 1) (C + 1)) (A + 1) : Nat) : Int) := by
  rcases Nat.le_total (B + 1) (C + 1) with h | h <;> (first | rw [Nat.min_eq_left h] | rw [Nat.min_eq_right h]) <;> omega
theorem runesOf_f (s : ByteArray) (b : Bool) (hs : s.size ≤ 1073741824) : spec_runesOf.f s b = some ((strRunes s).map (foldIf b)) := by unfold spec_runesOf.f; rw [if_pos hs]
theorem map_foldIf (l : List Int) : l.map (foldIf false) = l := by
  have : foldIf false = id := by funext x; simp [foldIf]
  rw [this, List.map_id]

/-- The first j numbers of row i. -/
def rowP (a b : List Int) (i j : Nat) : List Int := (List.range j).map fun (j' : Nat) => (dist a b i j' : Int)
def rowsL (a b : List Int) (i : Nat) : List (List Int) := (List.range i).map fun (i' : Nat) => rowP a b i' (b.length + 1)
theorem rowP_length (a b : List Int) (i j : Nat) : (rowP a b i j).length = j := by simp [rowP]
theorem rowP_rd (a b : List Int) (i j q : Nat) (h : q < j) : rd (rowP a b i j) (q : Int) = (dist a b i q : Int) := by
  unfold rd rowP
  rw [Int.toNat_natCast, List.getD_eq_getElem?_getD, List.getElem?_map, List.getElem?_range h]
  rfl
theorem rowP_succ (a b : List Int) (i j : Nat) : rowP a b i j ++ [(dist a b i j : Int)] = rowP a b i (j + 1) := by unfold rowP; rw [List.range_succ, List.map_append]; rfl
theorem rowsL_length (a b : List Int) (i : Nat) : (rowsL a b i).length = i := by simp [rowsL]
theorem rowsL_rd (a b : List Int) (i q : Nat) (h : q < i) : rd_L5 (rowsL a b i) (q : Int) = rowP a b q (b.length + 1) := by
  unfold rd_L5 rowsL
  rw [Int.toNat_natCast, List.getD_eq_getElem?_getD, List.getElem?_map, List.getElem?_range h]
  rfl
theorem rowsL_succ (a b : List Int) (i : Nat) : rowsL a b i ++ [rowP a b i (b.length + 1)] = rowsL a b (i + 1) := by unfold rowsL; rw [List.range_succ, List.map_append]; rfl

theorem sd_l1 (a b : List Int) (ha : a.length ≤ 100000) (hb : b.length ≤ 100000) (R : Int) (i : Nat) (hi : i ≤ a.length)
    (h0 : Ev (fun k => spec_Distance.l0 k a b (rowsL a b (i + 1)) (((i + 1 : Nat) : Int))) R) :
    ∀ (d j : Nat), j + d = b.length + 1 → Ev (fun k => spec_Distance.l1 k a b (rowsL a b i) (i : Int) (rowP a b i j) (j : Int)) R
  | 0, j, h => by
    obtain rfl : j = b.length + 1 := by omega
    refine Ev.step (fun k => ?_) h0
    simp only [spec_Distance.l1]
    rw [if_neg (by omega), if_pos (by rw [rowsL_length]; omega), rowsL_succ, wr (by omega) (by omega)]
    congr 1
  | d + 1, j, h => by
    have ih := sd_l1 a b ha hb R i hi h0 d (j + 1) (by omega)
    have hw0 : wrap64 ((j : Int) + 1) = ((j + 1 : Nat) : Int) := by rw [wr (by omega) (by omega)]; omega
    have hlim : (rowP a b i j).length < 17592186044416 := by rw [rowP_length]; omega
    refine Ev.step (fun k => ?_) ih
    simp only [spec_Distance.l1]
    rw [if_pos (by omega)]
    match i, hi with
    | 0, hi =>
      rw [if_pos (by omega), if_pos hlim, hw0, ← rowP_succ, dist_zero_left a b j (by omega)]
    | i + 1, hi =>
      rw [if_neg (by omega)]
      match j, h with
      | 0, h =>
        rw [if_pos (by omega), if_pos hlim, hw0, ← rowP_succ, dist_zero_right a b (i + 1) hi]
      | j + 1, h =>
        have d1 := dist_le a b (i + 1) j
        have d2 := dist_le a b i (j + 1)
        have d3 := dist_le a b i j
        have hw1 : wrap64 (((i + 1 : Nat) : Int) - 1) = (i : Int) := by rw [wr (by omega) (by omega)]; omega
        have hw2 : wrap64 (((j + 1 : Nat) : Int) - 1) = (j : Int) := by rw [wr (by omega) (by omega)]; omega
        have r1 : rd_L5 (rowsL a b (i + 1)) (i : Int) = rowP a b i (b.length + 1) := rowsL_rd _ _ _ _ (by omega)
        have r2 := rowP_rd a b i (b.length + 1) j (by omega)
        have r3 := rowP_rd a b i (b.length + 1) (j + 1) (by omega)
        have r4 := rowP_rd a b (i + 1) (j + 1) j (by omega)
        have r5 := rd_get a i (by omega)
        have r6 := rd_get b j (by omega)
        have hs := dist_step a b i j (by omega) (by omega)
        rw [if_neg (by omega), hw0, hw1, hw2, r1, if_pos (by omega), if_pos (by rw [rowsL_length]; omega), if_pos (by omega), if_pos (by rw [rowP_length]; omega), if_pos (by omega), if_pos (by omega), r2, r3, r4, r5, r6]
        rw [wr (x := (dist a b i j : Int) + 1) (by omega) (by omega), wr (x := (dist a b i (j + 1) : Int) + 1) (by omega) (by omega), wr (x := (dist a b (i + 1) j : Int) + 1) (by omega) (by omega)]
        by_cases e : a[i] = b[j]
        · rw [if_pos e, if_pos (by omega), if_pos (by rw [rowP_length]; omega), if_pos (by rw [rowP_length]; omega), if_pos hlim, ← rowP_succ a b (i + 1) (j + 1)]
          rw [if_pos e] at hs
          rw [mn_eq, mn_eq, min3a, hs]
          rfl
        · rw [if_neg e, if_pos (by omega), if_pos (by rw [rowP_length]; omega), if_pos (by rw [rowP_length]; omega), if_pos hlim, ← rowP_succ a b (i + 1) (j + 1)]
          rw [if_neg e] at hs
          rw [mn_eq, mn_eq, min3b, hs]

theorem sd_l0 (a b : List Int) (ha : a.length ≤ 100000) (hb : b.length ≤ 100000) :
    ∀ (d i : Nat), i + d = a.length + 1 → Ev (fun k => spec_Distance.l0 k a b (rowsL a b i) (i : Int)) (lev a.reverse b.reverse : Int)
  | 0, i, h => by
    obtain rfl : i = a.length + 1 := by omega
    refine Ev.step (f := fun _ => some (lev a.reverse b.reverse : Int)) (fun k => ?_) (Ev.now _)
    simp only [spec_Distance.l0]
    rw [if_neg (by omega), if_pos (by omega), if_pos (by rw [rowsL_length]; omega), rowsL_rd _ _ _ _ (by omega), if_pos (by omega), if_pos (by rw [rowP_length]; omega), rowP_rd _ _ _ _ _ (by omega), dist_all]
  | d + 1, i, h => by
    refine Ev.step (fun k => ?_) (sd_l1 a b ha hb _ i (by omega) (sd_l0 a b ha hb d (i + 1) (by omega)) (b.length + 1) 0 (by omega))
    simp only [spec_Distance.l0]
    rw [if_pos (by omega)]
    rfl

theorem spec_dist_ev (s t : ByteArray) (hs : s.size ≤ 60) (ht : t.size ≤ 60) : Ev (fun k => spec_Distance.f k s t) (lev (strRunes s).reverse (strRunes t).reverse : Int) := by
  have h1 := strRunes_length s
  have h2 := strRunes_length t
  refine Ev.congr (fun k => ?_) (sd_l0 (strRunes s) (strRunes t) (by omega) (by omega) ((strRunes s).length + 1) 0 (by omega))
  unfold spec_Distance.f
  rw [runesOf_f s false (by omega), runesOf_f t false (by omega), Option.bind_some, Option.bind_some, map_foldIf, map_foldIf]
  rfl
end Go.Proofs.YtfkemfkleceeiaaDoor
namespace Go.Proofs.YtfkemfkleceeiaaDoor
open Go.RowKit Go.Proofs.YtfkemfkleceeiaaDoorW.PrintWords Go.Proofs.YtfkemfkleceeiaaDoorW.PrintMore
open P
set_option linter.unusedSimpArgs false
set_option linter.unusedVariables false

theorem plainB_iff (s : ByteArray) : plainB s = true ↔ (∀ x ∈ strRunes s, x ≠ 65533) ∧ s.size ≤ 60 := by
  unfold plainB
  rw [Bool.and_eq_true, List.all_eq_true, decide_eq_true_eq]
  constructor
  · rintro ⟨h1, h2⟩; exact ⟨fun x hx => bne_iff_ne.1 (h1 x hx), h2⟩
  · rintro ⟨h1, h2⟩; exact ⟨fun x hx => bne_iff_ne.2 (h1 x hx), h2⟩
def allPlainB (a0 : ByteArray) (l : List ByteArray) : Bool := plainB a0 && (decide (l.length ≤ 20) && l.all plainB)
theorem rdOf_get (l : List ByteArray) (i : Nat) (h : i < l.length) : rdOf ByteArray.empty l (i : Int) = l[i] := by
  unfold rdOf; rw [Int.toNat_natCast, List.getD_eq_getElem?_getD, List.getElem?_eq_getElem h]; rfl
theorem allPlain_l0 (l : List ByteArray) (hl : l.length ≤ 20) : ∀ (d i : Nat), i + d = l.length → Ev (fun k => spec_AllPlain.l0 k l (i : Int)) ((l.drop i).all plainB)
  | 0, i, h => by
    rw [List.drop_eq_nil_of_le (by omega)]
    refine Ev.step (f := fun _ => some true) (fun k => ?_) (Ev.now _)
    simp only [spec_AllPlain.l0]
    rw [if_neg (by omega)]
  | d + 1, i, h => by
    have hi : i < l.length := by omega
    rw [List.drop_eq_getElem_cons hi, List.all_cons]
    by_cases hb : plainB l[i] = true
    · rw [hb, Bool.true_and]
      refine Ev.step (fun k => ?_) (allPlain_l0 l hl d (i + 1) (by omega))
      simp only [spec_AllPlain.l0, spec_Plain.f]
      rw [if_pos (by omega), if_pos (by omega), Option.bind_some, rdOf_get l i hi, if_pos hb, wr (by omega) (by omega)]
      congr 1
    · rw [Bool.eq_false_iff.2 hb, Bool.false_and]
      refine Ev.step (f := fun _ => some false) (fun k => ?_) (Ev.now _)
      simp only [spec_AllPlain.l0, spec_Plain.f]
      rw [if_pos (by omega), if_pos (by omega), Option.bind_some, rdOf_get l i hi, if_neg hb]
theorem allPlain_ev (a0 : ByteArray) (l : List ByteArray) : Ev (fun k => spec_AllPlain.f k a0 l) (allPlainB a0 l) := by
  have hj : Ev (fun k => spec_AllPlain.j0 k l true) false := Ev.step (f := fun _ => some false) (fun k => by simp only [spec_AllPlain.j0, if_true]) (Ev.now _)
  unfold allPlainB
  by_cases h0 : plainB a0 = true
  · rw [h0, Bool.true_and]
    by_cases h1 : l.length ≤ 20
    · rw [decide_eq_true h1, Bool.true_and]
      have h2 := allPlain_l0 l h1 l.length 0 (by omega)
      rw [List.drop_zero] at h2
      have h3 : Ev (fun k => spec_AllPlain.j0 k l false) (l.all plainB) := Ev.step (fun k => by simp only [spec_AllPlain.j0]; rw [if_neg (by decide)]; rfl) h2
      refine Ev.congr (fun k => ?_) h3
      unfold spec_AllPlain.f spec_Plain.f
      rw [Option.bind_some, if_pos h0, decide_eq_false (by omega)]
    · rw [decide_eq_false h1, Bool.false_and]
      refine Ev.congr (fun k => ?_) hj
      unfold spec_AllPlain.f spec_Plain.f
      rw [Option.bind_some, if_pos h0, decide_eq_true (by omega)]
  · rw [Bool.eq_false_iff.2 h0, Bool.false_and]
    refine Ev.congr (fun k => ?_) hj
    unfold spec_AllPlain.f spec_Plain.f
    rw [Option.bind_some, if_neg h0]
theorem areTexts_l0 (a0 : ByteArray) (l : List ByteArray) (h : allPlainB a0 l = true) : ∀ (d i : Nat), i + d = l.length → Ev (fun k => impl_areTexts.l0 k false a0 l l (l.length : Int) (i : Int)) true
  | 0, i, hi => by
    unfold allPlainB at h
    simp only [Bool.and_eq_true, decide_eq_true_eq] at h
    refine Ev.step (f := fun _ => some true) (fun k => ?_) (Ev.now _)
    simp only [impl_areTexts.l0, impl_isText.f]
    rw [if_neg (by omega), if_neg (by decide), Option.bind_some, if_pos h.1, decide_eq_true (by omega)]
  | d + 1, i, hi => by
    have h' := h
    unfold allPlainB at h'
    simp only [Bool.and_eq_true, decide_eq_true_eq] at h'
    have hlt : i < l.length := by omega
    refine Ev.step (fun k => ?_) (areTexts_l0 a0 l h d (i + 1) (by omega))
    simp only [impl_areTexts.l0, impl_isText.f]
    rw [if_pos (by omega), if_pos (by omega), if_pos (by omega), Option.bind_some, rdOf_get l i hlt, if_pos (List.all_eq_true.1 h'.2.2 _ (List.getElem_mem hlt)), wr (by omega) (by omega)]
    congr 1
theorem areTexts_ev (a0 : ByteArray) (l : List ByteArray) (h : allPlainB a0 l = true) : Ev (fun k => impl_areTexts.f k false a0 l) true := by
  refine Ev.congr (fun k => ?_) (areTexts_l0 a0 l h l.length 0 (by omega))
  unfold impl_areTexts.f
  rfl
theorem allPlain_one {a0 a1 : ByteArray} (h : allPlainB a0 [a1] = true) : plainB a0 = true ∧ plainB a1 = true := by
  unfold allPlainB at h
  simpa using h
end Go.Proofs.YtfkemfkleceeiaaDoor
namespace Go.Proofs.YtfkemfkleceeiaaDoor
open Go

/-! ### a text made of runes has just these -/
theorem decodeL_encode (r : Int) (hv : Lib.validRune r = true) (t : List UInt8) : Lib.decodeL ((Utf8.encode r).data.toList ++ t) = (r.toNat, (Utf8.encode r).data.toList.length) := by
  have hv' : (0 ≤ r ∧ r < 55296) ∨ (57343 < r ∧ r ≤ 1114111) := by simpa [Lib.validRune] using hv
  have hu : Utf8.valid r = true := by simp [Utf8.valid]; omega
  rw [Lib.decodeL_N]
  unfold Utf8.encode
  rw [hu]
  simp only [if_true]
  by_cases h1 : r.toNat < 128
  · rw [if_pos h1]
    simp [Lib.decodeN, UInt8.toNat_ofNat']
    rw [if_pos (by omega)]
    simp; omega
  · rw [if_neg h1]
    by_cases h2 : r.toNat < 2048
    · rw [if_pos h2]
      simp [Lib.decodeN, UInt8.toNat_ofNat']
      rw [if_neg (by omega), if_pos (by omega), if_pos (by omega)]
      simp; omega
    · rw [if_neg h2]
      by_cases h3 : r.toNat < 65536
      · rw [if_pos h3]
        simp [Lib.decodeN, UInt8.toNat_ofNat']
        rw [if_neg (by omega), if_neg (by omega), if_pos (by omega), if_pos (by omega)]
        simp; omega
      · rw [if_neg h3]
        simp [Lib.decodeN, UInt8.toNat_ofNat']
        rw [if_neg (by omega), if_neg (by omega), if_neg (by omega), if_pos (by omega), if_pos (by omega)]
        simp; omega
theorem encode_ne (r : Int) : (Utf8.encode r).data.toList ≠ [] := by
  unfold Utf8.encode
  simp only
  repeat' split
  all_goals simp

def lrunes : Nat → List UInt8 → List Int
  | 0, _ => []
  | f + 1, l => if l = [] then [] else ((Lib.decodeL l).1 : Int) :: lrunes f (l.drop (Lib.decodeL l).2)
theorem runesFrom_list (s : ByteArray) : ∀ f pos, runesFrom s f pos = lrunes f (s.data.toList.drop pos)
  | 0, _ => rfl
  | f + 1, pos => by
    unfold runesFrom lrunes
    by_cases hp : pos < s.size
    · rw [if_pos hp, if_neg (by intro he; have := congrArg List.length he; simp at this; omega), Lib.decodeL_drop, runesFrom_list s f, List.drop_drop]
    · rw [if_neg hp, if_pos (List.drop_eq_nil_of_le (by simp; omega))]
theorem lrunes_encode : ∀ (l : List Int), (∀ x ∈ l, Lib.validRune x = true) → ∀ n, (l.flatMap fun r => (Utf8.encode r).data.toList).length ≤ n → lrunes n (l.flatMap fun r => (Utf8.encode r).data.toList) = l
  | [], _, n, _ => by cases n <;> simp [lrunes]
  | r :: l, hv, n, hn => by
    have hne := encode_ne r
    have hl : 0 < (Utf8.encode r).data.toList.length := List.length_pos_iff.2 hne
    rw [List.flatMap_cons] at hn ⊢
    rw [List.length_append] at hn
    obtain ⟨m, rfl⟩ : ∃ m, n = m + 1 := ⟨n - 1, by omega⟩
    have hr := hv r (List.mem_cons_self ..)
    have h0 : 0 ≤ r := by simp [Lib.validRune] at hr; omega
    unfold lrunes
    rw [if_neg (by simp [hne]), decodeL_encode r hr, List.drop_left, lrunes_encode l (fun x hx => hv x (List.mem_cons_of_mem _ hx)) m (by omega)]
    congr 1
    omega
theorem runesBytes_list (l : List Int) : (runesBytes l).data.toList = l.flatMap fun r => (Utf8.encode r).data.toList := by
  have h : ∀ (l : List Int) (s : ByteArray), (l.foldl (fun r n => r ++ Utf8.encode n) s).data.toList = s.data.toList ++ l.flatMap fun r => (Utf8.encode r).data.toList := by
    intro l
    induction l with
    | nil => intro s; simp
    | cons x l ih => intro s; rw [List.foldl_cons, ih, List.flatMap_cons]; simp [ByteArray.data_append]
  have h2 := h l ByteArray.empty
  simpa [runesBytes] using h2
theorem runes_runesBytes (l : List Int) (hv : ∀ x ∈ l, Lib.validRune x = true) : strRunes (runesBytes l) = l := by
  show runesFrom _ _ _ = l
  rw [runesFrom_list, List.drop_zero, runesBytes_list]
  exact lrunes_encode l hv _ (by rw [← runesBytes_list]; simp)

/-! ### what is decoded is a rune -/
theorem decode_valid (s : ByteArray) (pos : Nat) : Lib.validRune ((Utf8.decode s pos).1 : Int) = true := by
  have hb : ∀ k, (s.get! (pos + k)).toNat < 256 := fun k => (s.get! (pos + k)).toNat_lt
  have h0 := hb 0; have h1 := hb 1; have h2 := hb 2; have h3 := hb 3
  unfold Lib.validRune
  simp only [Utf8.decode]
  repeat' split
  all_goals simp_all [Utf8.runeError, Utf8.valid]
  all_goals omega
theorem runesFrom_valid (s : ByteArray) : ∀ f pos, ∀ x ∈ runesFrom s f pos, Lib.validRune x = true
  | 0, _, r, h => by simp [runesFrom] at h
  | f + 1, pos, r, h => by
    unfold runesFrom at h
    split at h
    · rcases List.mem_cons.1 h with rfl | h
      · exact decode_valid s pos
      · exact runesFrom_valid s f _ r h
    · simp at h
theorem strRunes_valid (s : ByteArray) : ∀ x ∈ strRunes s, Lib.validRune x = true := runesFrom_valid s _ _

/-! ### small letters are runes, and none but U+FFFD is made U+FFFD -/
/-- A row's images lie among the runes, and U+FFFD is none of them. -/
def lowFits (x : Lib.CaseRow) : Bool :=
  let lo : Int := if x.delta 1 > 1114111 then (x.1 : Int) else (x.1 : Int) + x.delta 1
  let hi : Int := if x.delta 1 > 1114111 then (x.2.1 : Int) + 1 else (x.2.1 : Int) + x.delta 1
  (decide (0 ≤ lo) && decide (hi < 55296)) || (decide (57343 < lo) && decide (hi < 65533)) || (decide (65533 < lo) && decide (hi ≤ 1114111))
set_option maxRecDepth 1000000 in
theorem lowFits_all : Lib.caseT.all lowFits = true := by decide
theorem toR_fits (r : Int) : Lib.toR Lib.caseA 1 r = r ∨ (Lib.validRune (Lib.toR Lib.caseA 1 r) = true ∧ Lib.toR Lib.caseA 1 r ≠ 65533) := by
  unfold Lib.toR Lib.lookupGo
  cases hi : Lib.lookupIdx Lib.caseA r (Lib.caseA.size + 1) 0 Lib.caseA.size with
  | none => exact .inl rfl
  | some i =>
    obtain ⟨hil, hlo, hhi⟩ := Lib.lookupIdx_some Lib.caseA r _ _ _ i hi
    have hm : Lib.caseA.getD i (0, 0, 0, 0, 0) ∈ Lib.caseT := by
      unfold Lib.caseA at hil ⊢
      simp only [List.size_toArray] at hil
      simp [Array.getD, hil]
    have hf := List.all_eq_true.1 lowFits_all _ hm
    right
    simp only [Option.map_some]
    generalize Lib.caseA.getD i (0, 0, 0, 0, 0) = x at hlo hhi hf
    unfold Lib.convertR
    unfold lowFits at hf
    by_cases hd : x.delta 1 > 1114111
    · rw [if_pos hd] at hf
      rw [if_pos hd] at hf
      rw [if_pos hd]
      simp [Lib.validRune] at hf ⊢
      omega
    · rw [if_neg hd] at hf
      rw [if_neg hd] at hf
      rw [if_neg hd]
      simp [Lib.validRune] at hf ⊢
      omega
theorem lower_valid (r : Int) (h : Lib.validRune r = true) : Lib.validRune (Lib.toLowerU r) = true := by
  unfold Lib.toLowerU
  split
  · split
    · simp [Lib.validRune] at h ⊢; omega
    · exact h
  · rcases toR_fits r with e | e
    · rw [e]; exact h
    · exact e.1
theorem lower_fffd (r : Int) (h : r ≠ 65533) : Lib.toLowerU r ≠ 65533 := by
  unfold Lib.toLowerU
  split
  · split <;> omega
  · rcases toR_fits r with e | e
    · rw [e]; exact h
    · exact e.2

/-! ### runes that stand among others -/
theorem isSub_cons (c x : Int) (cs xs : List Int) : isSub (c :: cs) (x :: xs) = if c = x then isSub cs xs else isSub (c :: cs) xs := by
  by_cases h : c = x
  · rw [if_pos h, isSub, dropTo, if_pos h]
  · rw [if_neg h, isSub, dropTo, if_neg h, isSub]
theorem isSub_nil (c : Int) (cs : List Int) : isSub (c :: cs) [] = false := rfl
theorem isSub_tail : ∀ (l cs : List Int) (c : Int), isSub (c :: cs) l = true → isSub cs l = true
  | [], cs, c, h => by cases h
  | y :: l, [], c, h => by rw [isSub]
  | y :: l, d :: cs, c, h => by
    rw [isSub_cons] at h ⊢
    by_cases hc : c = y
    · rw [if_pos hc] at h
      split
      · exact isSub_tail l cs d h
      · exact h
    · rw [if_neg hc] at h
      have h2 := isSub_tail l (d :: cs) c h
      split
      · exact isSub_tail l cs d h2
      · exact h2
theorem isSub_more (l cs : List Int) (x : Int) (h : isSub cs l = true) : isSub cs (x :: l) = true := by
  match cs, h with
  | [], _ => rw [isSub]
  | c :: cs, h =>
    rw [isSub_cons]
    split
    · exact isSub_tail l cs c h
    · exact h
theorem isSub_self : ∀ l : List Int, isSub l l = true
  | [] => rfl
  | x :: l => by rw [isSub_cons, if_pos rfl]; exact isSub_self l
/-- What stands among others weighs no more. -/
theorem isSub_sum (f : Int → Nat) : ∀ (l cs : List Int), isSub cs l = true → (cs.map f).sum ≤ (l.map f).sum
  | _, [], _ => by simp
  | [], c :: cs, h => by cases h
  | x :: l, c :: cs, h => by
    rw [isSub_cons] at h
    split at h
    · have := isSub_sum f l cs h
      rename_i e
      subst e
      simp only [List.map_cons, List.sum_cons]
      omega
    · have := isSub_sum f l (c :: cs) h
      simp only [List.map_cons, List.sum_cons] at this ⊢
      omega
theorem isSub_length (l cs : List Int) (h : isSub cs l = true) : cs.length ≤ l.length := by
  have := isSub_sum (fun _ => 1) l cs h
  rwa [List.map_const', List.map_const', List.sum_replicate_nat, List.sum_replicate_nat, Nat.mul_one, Nat.mul_one] at this
theorem text_size (s : ByteArray) (h : ∀ x ∈ strRunes s, x ≠ 65533) : s.size = ((strRunes s).map fun r => (Lib.encodeRune r).length).sum := by
  have h1 := bytes_of_runes s s.size 0 (by omega) h
  rw [List.drop_zero] at h1
  have h2 := congrArg List.length h1
  rw [List.length_flatMap] at h2
  rw [Array.length_toList] at h2
  exact h2
theorem isSub_size {s t : ByteArray} (hs : ∀ x ∈ strRunes s, x ≠ 65533) (ht : ∀ x ∈ strRunes t, x ≠ 65533) (h : isSub (strRunes s) (strRunes t) = true) : s.size ≤ t.size := by
  rw [text_size s hs, text_size t ht]
  exact isSub_sum _ _ _ h
end Go.Proofs.YtfkemfkleceeiaaDoor
