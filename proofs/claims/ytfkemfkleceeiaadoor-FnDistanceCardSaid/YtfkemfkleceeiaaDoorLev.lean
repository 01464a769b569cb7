/- The edit distance of two lists, and what it obeys: nothing of the program. -/
import Derived.Test.YtfkemfkleceeiaaDoorTexts
namespace Go.Proofs.YtfkemfkleceeiaaDoor

/-- The fewest changes. -/
def lev : List Int → List Int → Nat
  | [], b => b.length
  | x :: a, [] => a.length + 1
  | x :: a, y :: b => min (min (lev a (y :: b) + 1) (lev (x :: a) b + 1)) (lev a b + if x = y then 0 else 1)
termination_by a b => a.length + b.length

theorem lev_nil_left (b : List Int) : lev [] b = b.length := by unfold lev; rfl
theorem lev_nil_right : ∀ a : List Int, lev a [] = a.length
  | [] => by unfold lev; rfl
  | _ :: _ => by unfold lev; rfl
theorem lev_cons (x y : Int) (a b : List Int) : lev (x :: a) (y :: b) = min (min (lev a (y :: b) + 1) (lev (x :: a) b + 1)) (lev a b + if x = y then 0 else 1) := by rw [lev]

/-- n changes make one list the other one. -/
inductive Ed : Nat → List Int → List Int → Prop
  | nil : Ed 0 [] []
  | keep (x : Int) {n : Nat} {a b : List Int} (h : Ed n a b) : Ed n (x :: a) (x :: b)
  | turn (x y : Int) {n : Nat} {a b : List Int} (h : Ed n a b) : Ed (n + 1) (x :: a) (y :: b)
  | drop (x : Int) {n : Nat} {a b : List Int} (h : Ed n a b) : Ed (n + 1) (x :: a) b
  | add (y : Int) {n : Nat} {a b : List Int} (h : Ed n a b) : Ed (n + 1) a (y :: b)

theorem Ed.adds : ∀ b : List Int, Ed b.length [] b
  | [] => .nil
  | y :: b => .add y (Ed.adds b)
theorem Ed.drops : ∀ a : List Int, Ed a.length a []
  | [] => .nil
  | x :: a => .drop x (Ed.drops a)
theorem Ed.lev (a b : List Int) : Ed (lev a b) a b := by
  induction h : a.length + b.length using Nat.strongRecOn generalizing a b with
  | _ n ih =>
  match a, b with
  | [], b => rw [lev_nil_left]; exact Ed.adds b
  | x :: a, [] => rw [lev_nil_right]; exact Ed.drops _
  | x :: a, y :: b =>
    simp only [List.length_cons] at h
    rw [lev_cons]
    have h1 := ih _ (by simp only [List.length_cons]; omega) a (y :: b) rfl
    have h2 := ih _ (by simp only [List.length_cons]; omega) (x :: a) b rfl
    have h3 := ih _ (by omega) a b rfl
    rcases Nat.le_total (min (Proofs.YtfkemfkleceeiaaDoor.lev a (y :: b) + 1) (Proofs.YtfkemfkleceeiaaDoor.lev (x :: a) b + 1)) (Proofs.YtfkemfkleceeiaaDoor.lev a b + if x = y then 0 else 1) with h4 | h4
    · rw [Nat.min_eq_left h4]
      rcases Nat.le_total (Proofs.YtfkemfkleceeiaaDoor.lev a (y :: b) + 1) (Proofs.YtfkemfkleceeiaaDoor.lev (x :: a) b + 1) with h5 | h5
      · rw [Nat.min_eq_left h5]; exact .drop x h1
      · rw [Nat.min_eq_right h5]; exact .add y h2
    · rw [Nat.min_eq_right h4]
      by_cases e : x = y
      · subst e; rw [if_pos rfl]; exact .keep x h3
      · rw [if_neg e]; exact .turn x y h3
theorem lev_step_left (x : Int) (a : List Int) : ∀ b, lev (x :: a) b ≤ lev a b + 1
  | [] => by rw [lev_nil_right, lev_nil_right]; simp
  | y :: b => by rw [lev_cons]; omega
theorem lev_step_right (y : Int) (b : List Int) : ∀ a, lev a (y :: b) ≤ lev a b + 1
  | [] => by rw [lev_nil_left, lev_nil_left]; simp
  | x :: a => by rw [lev_cons]; omega
theorem lev_least {n : Nat} {a b : List Int} (h : Ed n a b) : lev a b ≤ n := by
  induction h with
  | nil => rw [lev_nil_left]; simp
  | keep x _ ih => rw [lev_cons, if_pos rfl]; omega
  | turn x y _ ih => rw [lev_cons]; split <;> omega
  | drop x _ ih => exact Nat.le_trans (lev_step_left x _ _) (Nat.add_le_add_right ih 1)
  | add y _ ih => exact Nat.le_trans (lev_step_right y _ _) (Nat.add_le_add_right ih 1)
theorem Ed.symm {n : Nat} {a b : List Int} (h : Ed n a b) : Ed n b a := by
  induction h with
  | nil => exact .nil
  | keep x _ ih => exact .keep x ih
  | turn x y _ ih => exact .turn y x ih
  | drop x _ ih => exact .add x ih
  | add y _ ih => exact .drop y ih
theorem lev_symm (a b : List Int) : lev a b = lev b a := Nat.le_antisymm (lev_least (Ed.lev b a).symm) (lev_least (Ed.lev a b).symm)
theorem Ed.trans (N : Nat) : ∀ {a b c : List Int} {n m : Nat}, a.length + b.length + c.length ≤ N → Ed n a b → Ed m b c → ∃ k, k ≤ n + m ∧ Ed k a c := by
  induction N with
  | zero =>
    intro a b c n m hl h1 h2
    obtain rfl : a = [] := List.eq_nil_of_length_eq_zero (by omega)
    obtain rfl : c = [] := List.eq_nil_of_length_eq_zero (by omega)
    exact ⟨0, by omega, .nil⟩
  | succ N ih =>
    intro a b c n m hl h1 h2
    cases h2 with
    | nil => exact ⟨n, by omega, h1⟩
    | add y h2 =>
      obtain ⟨k, hk, h⟩ := ih (by simp at hl; omega) h1 h2
      exact ⟨k + 1, by omega, .add y h⟩
    | keep x h2 =>
      cases h1 with
      | keep _ h1 => obtain ⟨k, hk, h⟩ := ih (by simp at hl; omega) h1 h2; exact ⟨k, by omega, .keep x h⟩
      | turn z _ h1 => obtain ⟨k, hk, h⟩ := ih (by simp at hl; omega) h1 h2; exact ⟨k + 1, by omega, .turn z x h⟩
      | drop z h1 => obtain ⟨k, hk, h⟩ := ih (by simp at hl ⊢; omega) h1 (.keep x h2); exact ⟨k + 1, by omega, .drop z h⟩
      | add _ h1 => obtain ⟨k, hk, h⟩ := ih (by simp at hl; omega) h1 h2; exact ⟨k + 1, by omega, .add x h⟩
    | turn x y h2 =>
      cases h1 with
      | keep _ h1 => obtain ⟨k, hk, h⟩ := ih (by simp at hl; omega) h1 h2; exact ⟨k + 1, by omega, .turn x y h⟩
      | turn z _ h1 => obtain ⟨k, hk, h⟩ := ih (by simp at hl; omega) h1 h2; exact ⟨k + 1, by omega, .turn z y h⟩
      | drop z h1 => obtain ⟨k, hk, h⟩ := ih (by simp at hl ⊢; omega) h1 (.turn x y h2); exact ⟨k + 1, by omega, .drop z h⟩
      | add _ h1 => obtain ⟨k, hk, h⟩ := ih (by simp at hl; omega) h1 h2; exact ⟨k + 1, by omega, .add y h⟩
    | drop x h2 =>
      cases h1 with
      | keep _ h1 => obtain ⟨k, hk, h⟩ := ih (by simp at hl; omega) h1 h2; exact ⟨k + 1, by omega, .drop x h⟩
      | turn z _ h1 => obtain ⟨k, hk, h⟩ := ih (by simp at hl; omega) h1 h2; exact ⟨k + 1, by omega, .drop z h⟩
      | drop z h1 => obtain ⟨k, hk, h⟩ := ih (by simp at hl ⊢; omega) h1 (.drop x h2); exact ⟨k + 1, by omega, .drop z h⟩
      | add _ h1 => obtain ⟨k, hk, h⟩ := ih (by simp at hl; omega) h1 h2; exact ⟨k, by omega, h⟩
theorem lev_triangle (a b c : List Int) : lev a c ≤ lev a b + lev b c := by
  obtain ⟨k, hk, h⟩ := Ed.trans _ (Nat.le_refl _) (Ed.lev a b) (Ed.lev b c)
  exact Nat.le_trans (lev_least h) hk
theorem Ed.zero {a b : List Int} {n : Nat} (h : Ed n a b) : n = 0 → a = b := by
  induction h with
  | nil => intro _; rfl
  | keep x _ ih => intro hn; rw [ih hn]
  | turn => intro hn; omega
  | drop => intro hn; omega
  | add => intro hn; omega
theorem Ed.refl : ∀ a : List Int, Ed 0 a a
  | [] => .nil
  | x :: a => .keep x (Ed.refl a)
theorem lev_zero (a b : List Int) : lev a b = 0 ↔ a = b := by
  constructor
  · intro h; exact (Ed.lev a b).zero h
  · rintro rfl; exact Nat.le_zero.1 (lev_least (Ed.refl a))
theorem lev_le (a b : List Int) : lev a b ≤ a.length + b.length := by
  obtain ⟨k, hk, h⟩ := Ed.trans _ (Nat.le_refl _) (Ed.drops a) (Ed.adds b)
  exact Nat.le_trans (lev_least h) hk

/-- The distance of the first i runes of one and the first j of the other. -/
def dist (a b : List Int) (i j : Nat) : Nat := lev (a.take i).reverse (b.take j).reverse
theorem dist_zero_left (a b : List Int) (j : Nat) (hj : j ≤ b.length) : dist a b 0 j = j := by
  unfold dist; rw [List.take_zero, List.reverse_nil, lev_nil_left, List.length_reverse, List.length_take]; omega
theorem dist_zero_right (a b : List Int) (i : Nat) (hi : i ≤ a.length) : dist a b i 0 = i := by
  unfold dist; rw [List.take_zero, List.reverse_nil, lev_nil_right, List.length_reverse, List.length_take]; omega
theorem take_rev (a : List Int) (i : Nat) (hi : i < a.length) : (a.take (i + 1)).reverse = a[i] :: (a.take i).reverse := by
  rw [List.take_succ_eq_append_getElem hi, List.reverse_append]; rfl
theorem dist_step (a b : List Int) (i j : Nat) (hi : i < a.length) (hj : j < b.length) :
    dist a b (i + 1) (j + 1) = min (min (dist a b i (j + 1) + 1) (dist a b (i + 1) j + 1)) (dist a b i j + if a[i] = b[j] then 0 else 1) := by
  unfold dist
  rw [take_rev a i hi, take_rev b j hj, lev_cons]
theorem dist_all (a b : List Int) : dist a b a.length b.length = lev a.reverse b.reverse := by
  unfold dist; rw [List.take_length, List.take_length]
theorem dist_le (a b : List Int) (i j : Nat) : dist a b i j ≤ a.length + b.length := by
  have := lev_le (a.take i).reverse (b.take j).reverse
  simp at this
  unfold dist
  omega
end Go.Proofs.YtfkemfkleceeiaaDoor
