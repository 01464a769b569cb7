/- The edit distance of two lists, and what it obeys: nothing of the program. -/
import Derived.Test.YtfkemfkleceeiaaDoorTexts
namespace Go.Proofs.YtfkemfkleceeiaaDoor

/-- The fewest changes. -/
def lev : List Int → List Int → Nat
  | [], b => b.length
  | x :: a, [] => a.length + 1
  | x :: a, y :: b => min (min (lev a (y :: b) + 1) (lev (x :: a) b + 1)) (lev a b + if x = y then 0 else 1)
  termination_by a b => a.length + b.length

theorem lev_nil_left (b : List Int) : lev [] b = b.length := by unfold lev; rfl
theorem lev_nil_right : ∀ a : List Int, lev a [] = a.length
  | [] => by unfold lev; rfl
  | _ :: _ => by unfold lev; rfl
theorem lev_cons (x y : Int) (a b : List Int) : lev (x :: a) (y :: b) = min (min (lev a (y :: b) + 1) (lev (x :: a) b + 1)) (lev a b + if x = y then 0 else 1) := by rw [lev]

theorem lev_step_left (x : Int) (a : List Int) : ∀ b, lev (x :: a) b ≤ lev a b + 1
  | [] => by rw [lev_nil_right, lev_nil_right]; simp
  | y :: b => by rw [lev_cons]; omega
theorem lev_step_right (y : Int) (b : List Int) : ∀ a, lev a (y :: b) ≤ lev a b + 1
  | [] => by rw [lev_nil_left, lev_nil_left]; simp
  | x :: a => by rw [lev_cons]; omega
theorem lev_turn (x y : Int) (a b : List Int) : lev (x :: a) (y :: b) ≤ lev a b + if x = y then 0 else 1 := by rw [lev_cons]; exact Nat.min_le_right _ _
/-- One of three changes comes first. -/
theorem lev_cases (x y : Int) (a b : List Int) : lev (x :: a) (y :: b) = lev a (y :: b) + 1 ∨ lev (x :: a) (y :: b) = lev (x :: a) b + 1 ∨ lev (x :: a) (y :: b) = lev a b + if x = y then 0 else 1 := by
  rw [lev_cons]
  rcases Nat.le_total (min (lev a (y :: b) + 1) (lev (x :: a) b + 1)) (lev a b + if x = y then 0 else 1) with h4 | h4
  · rw [Nat.min_eq_left h4]
    rcases Nat.le_total (lev a (y :: b) + 1) (lev (x :: a) b + 1) with h5 | h5
    · exact .inl (Nat.min_eq_left h5)
    · exact .inr (.inl (Nat.min_eq_right h5))
  · rw [Nat.min_eq_right h4]
    exact .inr (.inr rfl)
theorem lev_symm_upto (N : Nat) : ∀ a b : List Int, a.length + b.length ≤ N → lev a b = lev b a := by
  induction N with
  | zero =>
    intro a b h
    obtain rfl : a = [] := List.eq_nil_of_length_eq_zero (by omega)
    obtain rfl : b = [] := List.eq_nil_of_length_eq_zero (by omega)
    rfl
  | succ N ih =>
    intro a b h
    match a, b, h with
    | [], b, _ => rw [lev_nil_left, lev_nil_right]
    | x :: a, [], _ => rw [lev_nil_left, lev_nil_right]
    | x :: a, y :: b, h =>
      simp only [List.length_cons] at h
      rw [lev_cons, lev_cons, ih a (y :: b) (by simp only [List.length_cons]; omega), ih (x :: a) b (by simp only [List.length_cons]; omega), ih a b (by omega), Nat.min_comm (lev (y :: b) a + 1)]
      congr 2
      by_cases e : x = y
      · rw [if_pos e, if_pos e.symm]
      · rw [if_neg e, if_neg (fun h => e h.symm)]
theorem lev_symm (a b : List Int) : lev a b = lev b a := lev_symm_upto _ a b (Nat.le_refl _)
theorem lev_le : ∀ a b : List Int, lev a b ≤ a.length + b.length
  | [], b => by rw [lev_nil_left]; simp
  | x :: a, b => by have h1 := lev_step_left x a b; have h2 := lev_le a b; simp only [List.length_cons]; omega
theorem lev_length_upto (N : Nat) : ∀ a b : List Int, a.length + b.length ≤ N → b.length ≤ a.length + lev a b := by
  induction N with
  | zero =>
    intro a b h
    omega
  | succ N ih =>
    intro a b h
    match a, b, h with
    | [], b, _ => rw [lev_nil_left]; simp
    | x :: a, [], _ => simp
    | x :: a, y :: b, h =>
      simp only [List.length_cons] at h
      have h1 := ih a (y :: b) (by simp only [List.length_cons]; omega)
      have h2 := ih (x :: a) b (by simp only [List.length_cons]; omega)
      have h3 := ih a b (by omega)
      simp only [List.length_cons] at h1 h2 ⊢
      rcases lev_cases x y a b with e | e | e <;> omega
theorem lev_length (a b : List Int) : b.length ≤ a.length + lev a b := lev_length_upto _ a b (Nat.le_refl _)
theorem cost_triangle (x y z : Int) : (if x = z then 0 else 1) ≤ (if x = y then 0 else 1) + (if y = z then 0 else 1) := by
  by_cases h1 : x = y
  · subst h1; split <;> simp
  · rw [if_neg h1]; split <;> omega
theorem lev_triangle_upto (N : Nat) : ∀ a b c : List Int, a.length + b.length + c.length ≤ N → lev a c ≤ lev a b + lev b c := by
  induction N with
  | zero =>
    intro a b c h
    obtain rfl : a = [] := List.eq_nil_of_length_eq_zero (by omega)
    obtain rfl : c = [] := List.eq_nil_of_length_eq_zero (by omega)
    rw [lev_nil_left]; simp
  | succ N ih =>
    intro a b c h
    match a, b, c, h with
    | [], b, c, _ => have := lev_length b c; rw [lev_nil_left, lev_nil_left]; omega
    | x :: a, [], c, _ => have := lev_le (x :: a) c; rw [lev_nil_right, lev_nil_left]; omega
    | x :: a, y :: b, [], _ => have h1 := lev_length (y :: b) (x :: a); rw [lev_symm] at h1; rw [lev_nil_right, lev_nil_right]; omega
    | x :: a, y :: b, z :: c, h =>
      simp only [List.length_cons] at h
      have i1 := ih (x :: a) (y :: b) c (by simp only [List.length_cons]; omega)
      have i2 := ih a (y :: b) (z :: c) (by simp only [List.length_cons]; omega)
      have i3 := ih (x :: a) b (z :: c) (by simp only [List.length_cons]; omega)
      have i4 := ih (x :: a) b c (by simp only [List.length_cons]; omega)
      have i5 := ih a b (z :: c) (by simp only [List.length_cons]; omega)
      have i6 := ih a b c (by omega)
      have s1 := lev_step_right z c (x :: a)
      have s2 := lev_step_left x a (z :: c)
      have s3 := lev_turn x z a c
      have s4 := cost_triangle x y z
      rcases lev_cases y z b c with e2 | e2 | e2
      · rcases lev_cases x y a b with e1 | e1 | e1 <;> omega
      · omega
      · rcases lev_cases x y a b with e1 | e1 | e1
        · omega
        · omega
        · omega
theorem lev_triangle (a b c : List Int) : lev a c ≤ lev a b + lev b c := lev_triangle_upto _ a b c (Nat.le_refl _)
theorem lev_same : ∀ a : List Int, lev a a = 0
  | [] => by rw [lev_nil_left]; rfl
  | x :: a => by have h := lev_turn x x a a; rw [if_pos rfl, lev_same a] at h; omega
theorem lev_eq : ∀ a b : List Int, lev a b = 0 → a = b
  | [], [], _ => rfl
  | [], y :: b, h => by rw [lev_nil_left] at h; simp at h
  | x :: a, [], h => by rw [lev_nil_right] at h; simp at h
  | x :: a, y :: b, h => by
    rcases lev_cases x y a b with e | e | e
    · omega
    · omega
    · by_cases c : x = y
      · rw [if_pos c] at e
        rw [c, lev_eq a b (by omega)]
      · rw [if_neg c] at e; omega
theorem lev_zero (a b : List Int) : lev a b = 0 ↔ a = b := ⟨lev_eq a b, fun h => by rw [h]; exact lev_same b⟩

/-- The distance of the first i runes of one and the first j of the other. -/
def dist (a b : List Int) (i j : Nat) : Nat := lev (a.take i).reverse (b.take j).reverse
theorem dist_zero_left (a b : List Int) (j : Nat) (hj : j ≤ b.length) : dist a b 0 j = j := by
  unfold dist; rw [List.take_zero, List.reverse_nil, lev_nil_left, List.length_reverse, List.length_take]; omega
theorem dist_zero_right (a b : List Int) (i : Nat) (hi : i ≤ a.length) : dist a b i 0 = i := by
  unfold dist; rw [List.take_zero, List.reverse_nil, lev_nil_right, List.length_reverse, List.length_take]; omega
theorem take_rev (a : List Int) (i : Nat) (hi : i < a.length) : (a.take (i + 1)).reverse = a[i] :: (a.take i).reverse := by
  rw [List.take_succ_eq_append_getElem hi, List.reverse_append]; rfl
theorem dist_step (a b : List Int) (i j : Nat) (hi : i < a.length) (hj : j < b.length) :
    dist a b (i + 1) (j + 1) = min (min (dist a b i (j + 1) + 1) (dist a b (i + 1) j + 1)) (dist a b i j + if a[i] = b[j] then 0 else 1) := by
  unfold dist
  rw [take_rev a i hi, take_rev b j hj, lev_cons]
theorem dist_all (a b : List Int) : dist a b a.length b.length = lev a.reverse b.reverse := by
  unfold dist; rw [List.take_length, List.take_length]
theorem dist_le (a b : List Int) (i j : Nat) : dist a b i j ≤ a.length + b.length := by
  have := lev_le (a.take i).reverse (b.take j).reverse
  simp at this
  unfold dist
  omega
end Go.Proofs.YtfkemfkleceeiaaDoor
