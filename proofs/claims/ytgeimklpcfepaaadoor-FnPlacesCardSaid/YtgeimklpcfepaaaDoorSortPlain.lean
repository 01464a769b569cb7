/- The insertion sort over an array, as an insertion from the right into a list; nothing of the program. -/
import Derived.Sort.Defs
import Derived.Sort.WalkB12
import Derived.Sort.WalkA
import Derived.Test.YtgeimklpcfepaaaDoorBase
namespace Go.Proofs.YtgeimklpcfepaaaDoor
open Go.Sort Go.Proofs
set_option linter.unusedVariables false
set_option linter.unusedSimpArgs false
set_option linter.unusedSectionVars false
section
variable {α : Type} [Inhabited α] (lt : α → α → Bool)
/-- x put into a row that is told from its end on. -/
def insRev (x : α) : List α → List α
  | [] => [x]
  | p :: ps => if lt x p = true then p :: insRev x ps else x :: p :: ps
theorem insRev_length (x : α) : ∀ l, (insRev lt x l).length = l.length + 1
  | [] => rfl
  | p :: ps => by unfold insRev; split <;> simp [insRev_length x ps]
/-- The stable order. -/
def isort (l : List α) : List α := (l.foldl (fun R x => insRev lt x R) []).reverse

theorem get_mid (d : Array α) (P S : List α) (x : α) (h : d.toList = P ++ x :: S) : d[P.length]! = x := by
  have h1 : d[P.length]? = some x := by
    rw [← Array.getElem?_toList, h]; simp
  simp [Array.getElem!_eq_getD, Array.getD_eq_getD_getElem?, h1]
theorem set_mid (P S : List α) (x y : α) : (P ++ x :: S).set P.length y = P ++ y :: S := by simp
theorem set_mid1 (P S : List α) (p x y : α) : (P ++ p :: x :: S).set (P.length + 1) y = P ++ p :: y :: S := by
  rw [List.set_append_right _ _ (by omega)]; simp
theorem insInner_list : ∀ (j : Nat) (d : Array α) (P S : List α) (x : α), d.toList = P ++ x :: S → P.length = j → (insInner lt 0 j d).toList = (insRev lt x P.reverse).reverse ++ S
  | 0, d, P, S, x, h, hj => by
    obtain rfl := List.length_eq_zero_iff.1 hj
    rw [insInner, h]
    simp [insRev]
  | j + 1, d, P, S, x, h, hj => by
    have hP : P ≠ [] := by intro e; subst e; simp at hj
    obtain ⟨P', p, rfl⟩ : ∃ P' p, P = P' ++ [p] := ⟨P.dropLast, P.getLast hP, (List.dropLast_concat_getLast hP).symm⟩
    have hj' : P'.length = j := by simpa using hj
    have h2 : d.toList = P' ++ p :: x :: S := by rw [h]; simp
    have g1 : d[j + 1]! = x := by have := get_mid d (P' ++ [p]) S x h; rwa [hj] at this
    have g0 : d[j]! = p := by have := get_mid d P' (x :: S) p h2; rwa [hj'] at this
    rw [insInner, g1, g0, List.reverse_append, List.reverse_cons, List.reverse_nil, List.nil_append, List.singleton_append, insRev]
    by_cases hl : lt x p = true
    · rw [if_pos (by simp [hl]), if_pos hl]
      have h3 : (swp d (j + 1) j).toList = P' ++ x :: p :: S := by
        unfold swp
        rw [Array.toList_setIfInBounds, Array.toList_setIfInBounds, g1, g0, h2, ← hj', set_mid1, set_mid]
      rw [insInner_list j _ P' (p :: S) x h3 hj', List.reverse_cons]
      simp
    · rw [if_neg (by simp [hl]), if_neg hl, h2]
      simp
theorem insOuter_list (b : Nat) : ∀ (S : List α) (i : Nat) (d : Array α) (R : List α), d.toList = R.reverse ++ S → R.length = i → i + S.length = b → (insOuter lt 0 b i d).toList = (S.foldl (fun R x => insRev lt x R) R).reverse
  | [], i, d, R, h, hi, hb => by
    rw [insOuter_stop _ _ _ _ _ (by simp at hb; omega), h]; simp
  | x :: S, i, d, R, h, hi, hb => by
    rw [insOuter_go _ _ _ _ _ (by simp at hb; omega)]
    have h1 := insInner_list lt i d R.reverse S x h (by simpa using hi)
    rw [List.reverse_reverse] at h1
    have h2 := insOuter_list b S (i + 1) (insInner lt 0 i d) (insRev lt x R) h1 (by rw [insRev_length, hi]) (by simp at hb; omega)
    rw [h2, List.foldl_cons]
theorem sort_list (l : List α) : (insertionSort lt l.toArray 0 l.length).toList = isort lt l := by
  unfold insertionSort isort
  cases l with
  | nil => rw [insOuter_stop _ _ _ _ _ (by simp)]; rfl
  | cons x l => exact insOuter_list lt (l.length + 1) l 1 (x :: l).toArray [x] rfl rfl (by omega)
theorem foldl_length : ∀ (l R : List α), (l.foldl (fun R x => insRev lt x R) R).length = R.length + l.length
  | [], R => by simp
  | x :: l, R => by rw [List.foldl_cons, foldl_length l, insRev_length, List.length_cons]; omega
theorem isort_length (l : List α) : (isort lt l).length = l.length := by unfold isort; rw [List.length_reverse, foldl_length]; simp
theorem isort_concat (l : List α) (x : α) : isort lt (l ++ [x]) = (insRev lt x (isort lt l).reverse).reverse := by
  unfold isort; rw [List.foldl_append, List.foldl_cons, List.foldl_nil, List.reverse_reverse]
end
theorem insRev_map {α β : Type} (lt : α → α → Bool) (lt' : β → β → Bool) (f : α → β) (h : ∀ x y, lt' (f x) (f y) = lt x y) (x : α) : ∀ l, (insRev lt x l).map f = insRev lt' (f x) (l.map f)
  | [] => rfl
  | p :: ps => by
    rw [insRev, List.map_cons, insRev, h]
    split
    · rw [List.map_cons, insRev_map lt lt' f h x ps]
    · simp
theorem foldl_map {α β : Type} (lt : α → α → Bool) (lt' : β → β → Bool) (f : α → β) (h : ∀ x y, lt' (f x) (f y) = lt x y) : ∀ (l R : List α), (l.foldl (fun R x => insRev lt x R) R).map f = (l.map f).foldl (fun R x => insRev lt' x R) (R.map f)
  | [], R => rfl
  | x :: l, R => by rw [List.foldl_cons, foldl_map lt lt' f h l, insRev_map lt lt' f h]; rfl
theorem isort_map {α β : Type} [Inhabited α] [Inhabited β] (lt : α → α → Bool) (lt' : β → β → Bool) (f : α → β) (h : ∀ x y, lt' (f x) (f y) = lt x y) (l : List α) : (isort lt l).map f = isort lt' (l.map f) := by
  unfold isort; rw [List.map_reverse, foldl_map lt lt' f h]; rfl
/-- What stands at the end and is greater is passed; what is not greater stops it. -/
theorem insRev_parts {α : Type} (lt : α → α → Bool) (x : α) (A : List α) : ∀ B : List α, (∀ p ∈ B, lt x p = true) → (∀ p ∈ A, lt x p = false) → insRev lt x (B ++ A) = B ++ x :: A
  | [], _, hA => by
    cases A with
    | nil => rfl
    | cons a A => rw [List.nil_append, insRev, hA a (by simp), if_neg (by decide)]; rfl
  | p :: B, hB, hA => by
    rw [List.cons_append, insRev, hB p (by simp), if_pos rfl, insRev_parts lt x A B (fun q hq => hB q (by simp [hq])) hA]; rfl

/-- Buckets. -/
def buckets {α : Type} (key : α → Int) (l : List α) : Nat → Nat → List α
  | _, 0 => []
  | q, n + 1 => l.filter (fun x => decide (key x = (q : Int))) ++ buckets key l (q + 1) n
theorem buckets_mem {α : Type} (key : α → Int) (l : List α) : ∀ (n q : Nat) (p : α), p ∈ buckets key l q n → (q : Int) ≤ key p ∧ key p < ((q + n : Nat) : Int)
  | 0, q, p, h => by simp [buckets] at h
  | n + 1, q, p, h => by
    rw [buckets, List.mem_append] at h
    rcases h with h | h
    · have := (List.mem_filter.1 h).2
      rw [decide_eq_true_eq] at this
      omega
    · have := buckets_mem key l n (q + 1) p h
      omega
theorem buckets_append {α : Type} (key : α → Int) (l : List α) : ∀ (n m q : Nat), buckets key l q (n + m) = buckets key l q n ++ buckets key l (q + n) m
  | 0, m, q => by simp [buckets]
  | n + 1, m, q => by
    rw [show n + 1 + m = (n + m) + 1 by omega, buckets, buckets, buckets_append key l n m (q + 1), List.append_assoc, show q + 1 + n = q + (n + 1) by omega]
theorem buckets_other {α : Type} (key : α → Int) (l : List α) (x : α) : ∀ (n q : Nat), (key x < (q : Int) ∨ ((q + n : Nat) : Int) ≤ key x) → buckets key (l ++ [x]) q n = buckets key l q n
  | 0, q, h => rfl
  | n + 1, q, h => by
    rw [buckets, buckets, buckets_other key l x n (q + 1) (by omega), List.filter_append, List.filter_cons, if_neg (by rw [decide_eq_true_eq]; omega), List.filter_nil, List.append_nil]
/-- Sorted by a key from 0 to N: the buckets. -/
theorem isort_buckets_rev {α : Type} [Inhabited α] (key : α → Int) (N : Nat) (r : List α) (h : ∀ x ∈ r, 0 ≤ key x ∧ key x < (N : Int)) : isort (fun x y => decide (key x < key y)) r.reverse = buckets key r.reverse 0 N := by
  induction r with
  | nil =>
    have e : ∀ (n q : Nat), buckets key ([] : List α) q n = [] := by
      intro n
      induction n with
      | zero => intro q; rfl
      | succ n ih => intro q; rw [buckets, ih]; rfl
    rw [List.reverse_nil, e]; rfl
  | cons x r ih0 =>
    obtain ⟨h0, h1⟩ := h x (by simp)
    have ih := ih0 (fun y hy => h y (by simp [hy]))
    clear ih0
    rw [List.reverse_cons]
    generalize r.reverse = l at ih ⊢
    obtain ⟨k, hk⟩ : ∃ k : Nat, key x = (k : Int) := ⟨(key x).toNat, by omega⟩
    have hN : N = k + (1 + (N - k - 1)) := by omega
    rw [isort_concat, ih]
    rw [hN, buckets_append, buckets_append, ← List.append_assoc, ← buckets_append, buckets_append key (l ++ [x]) k (1 + (N - k - 1)), buckets_append key (l ++ [x]) 1 (N - k - 1)]
    rw [List.reverse_append, insRev_parts]
    · rw [List.reverse_append, List.reverse_cons, List.reverse_reverse, List.reverse_reverse]
      rw [buckets_other key l x k 0 (by omega), buckets_other key l x (N - k - 1) _ (by omega), buckets_append key l k 1]
      simp only [buckets, List.append_nil, List.append_assoc, Nat.zero_add]
      rw [List.filter_append, List.filter_cons, if_pos (by rw [decide_eq_true_eq]; omega), List.filter_nil, List.append_assoc]
    · intro p hp
      have := buckets_mem key l _ _ p (List.mem_reverse.1 hp)
      rw [decide_eq_true_eq]; omega
    · intro p hp
      have := buckets_mem key l _ _ p (List.mem_reverse.1 hp)
      rw [decide_eq_false_iff_not]; omega
theorem isort_buckets {α : Type} [Inhabited α] (key : α → Int) (N : Nat) (l : List α) (h : ∀ x ∈ l, 0 ≤ key x ∧ key x < (N : Int)) : isort (fun x y => decide (key x < key y)) l = buckets key l 0 N := by
  have := isort_buckets_rev key N l.reverse (fun x hx => h x (by simpa using hx))
  rwa [List.reverse_reverse] at this
end Go.Proofs.YtgeimklpcfepaaaDoor
