/- The insertion sort over an array, as an insertion from the right into a list; nothing of the program. -/
import Derived.Sort.Defs
import Derived.Sort.WalkB12
import Derived.Sort.WalkA
import Derived.Test.YtgeimklpcfepaaaDoorBase
import Derived.Test.YtgeimklpcfepaaaDoorP0
import Derived.Shelf.GgSortFunc.RowK
import Derived.Shelf.GgSortMore.Iface
import Derived.RegionTactic
import Derived.Deep.QuietTactic
import Derived.Test.YtgeimklpcfepaaaDoorFindFrom
namespace Go.Proofs.YtgeimklpcfepaaaDoor
open Go.Sort Go.Proofs
set_option linter.unusedVariables false
set_option linter.unusedSimpArgs false
set_option linter.unusedSectionVars false
section
variable {α : Type} [Inhabited α] (lt : α → α → Bool)
/-- x put into a row that is told from its end on. -/
def insRev (x : α) : List α → List α
 | [] => [x]
 | p :: ps => if lt x p = true then p :: insRev x ps else x :: p :: ps
theorem insRev_length (x : α) : ∀ l, (insRev lt x l).length = l.length + 1
 | [] => rfl
 | p :: ps => by unfold insRev; split <;> simp [insRev_length x ps]
/-- The stable order. -/
def isort (l : List α) : List α := (l.foldl (fun R x => insRev lt x R) []).reverse

theorem get_mid (d : Array α) (P S : List α) (x : α) (h : d.toList = P ++ x :: S) : d[P.length]! = x := by
 have h1 : d[P.length]? = some x := by
  rw [← Array.getElem?_toList, h]; simp
 simp [Array.getElem!_eq_getD, Array.getD_eq_getD_getElem?, h1]
theorem set_mid (P S : List α) (x y : α) : (P ++ x :: S).set P.length y = P ++ y :: S := by simp
theorem set_mid1 (P S : List α) (p x y : α) : (P ++ p :: x :: S).set (P.length + 1) y = P ++ p :: y :: S := by
 rw [List.set_append_right _ _ (by omega)]; simp
theorem insInner_list : ∀ (j : Nat) (d : Array α) (P S : List α) (x : α), d.toList = P ++ x :: S → P.length = j → (insInner lt 0 j d).toList = (insRev lt x P.reverse).reverse ++ S
 | 0, d, P, S, x, h, hj => by
  obtain rfl := List.length_eq_zero_iff.1 hj
  rw [insInner, h]
  simp [insRev]
 | j + 1, d, P, S, x, h, hj => by
  have hP : P ≠ [] := by intro e; subst e; simp at hj
  obtain ⟨P', p, rfl⟩ : ∃ P' p, P = P' ++ [p] := ⟨P.dropLast, P.getLast hP, (List.dropLast_concat_getLast hP).symm⟩
  have hj' : P'.length = j := by simpa using hj
  have h2 : d.toList = P' ++ p :: x :: S := by rw [h]; simp
  have g1 : d[j + 1]! = x := by have := get_mid d (P' ++ [p]) S x h; rwa [hj] at this
  have g0 : d[j]! = p := by have := get_mid d P' (x :: S) p h2; rwa [hj'] at this
  rw [insInner, g1, g0, List.reverse_append, List.reverse_cons, List.reverse_nil, List.nil_append, List.singleton_append, insRev]
  by_cases hl : lt x p = true
  · rw [if_pos (by simp [hl]), if_pos hl]
    have h3 : (swp d (j + 1) j).toList = P' ++ x :: p :: S := by
     unfold swp
     rw [Array.toList_setIfInBounds, Array.toList_setIfInBounds, g1, g0, h2, ← hj', set_mid1, set_mid]
    rw [insInner_list j _ P' (p :: S) x h3 hj', List.reverse_cons]
    simp
  · rw [if_neg (by simp [hl]), if_neg hl, h2]
    simp
theorem insOuter_list (b : Nat) : ∀ (S : List α) (i : Nat) (d : Array α) (R : List α), d.toList = R.reverse ++ S → R.length = i → i + S.length = b → (insOuter lt 0 b i d).toList = (S.foldl (fun R x => insRev lt x R) R).reverse
 | [], i, d, R, h, hi, hb => by
  rw [insOuter_stop _ _ _ _ _ (by simp at hb; omega), h]; simp
 | x :: S, i, d, R, h, hi, hb => by
  rw [insOuter_go _ _ _ _ _ (by simp at hb; omega)]
  have h1 := insInner_list lt i d R.reverse S x h (by simpa using hi)
  rw [List.reverse_reverse] at h1
  have h2 := insOuter_list b S (i + 1) (insInner lt 0 i d) (insRev lt x R) h1 (by rw [insRev_length, hi]) (by simp at hb; omega)
  rw [h2, List.foldl_cons]
theorem sort_list (l : List α) : (insertionSort lt l.toArray 0 l.length).toList = isort lt l := by
 unfold insertionSort isort
 cases l with
 | nil => rw [insOuter_stop _ _ _ _ _ (by simp)]; rfl
 | cons x l => exact insOuter_list lt (l.length + 1) l 1 (x :: l).toArray [x] rfl rfl (by omega)
theorem foldl_length : ∀ (l R : List α), (l.foldl (fun R x => insRev lt x R) R).length = R.length + l.length
 | [], R => by simp
 | x :: l, R => by rw [List.foldl_cons, foldl_length l, insRev_length, List.length_cons]; omega
theorem isort_length (l : List α) : (isort lt l).length = l.length := by unfold isort; rw [List.length_reverse, foldl_length]; simp
theorem isort_concat (l : List α) (x : α) : isort lt (l ++ [x]) = (insRev lt x (isort lt l).reverse).reverse := by
 unfold isort; rw [List.foldl_append, List.foldl_cons, List.foldl_nil, List.reverse_reverse]
end
theorem insRev_map {α β : Type} (lt : α → α → Bool) (lt' : β → β → Bool) (f : α → β) (h : ∀ x y, lt' (f x) (f y) = lt x y) (x : α) : ∀ l, (insRev lt x l).map f = insRev lt' (f x) (l.map f)
 | [] => rfl
 | p :: ps => by
  rw [insRev, List.map_cons, insRev, h]
  split
  · rw [List.map_cons, insRev_map lt lt' f h x ps]
  · simp
theorem foldl_map {α β : Type} (lt : α → α → Bool) (lt' : β → β → Bool) (f : α → β) (h : ∀ x y, lt' (f x) (f y) = lt x y) : ∀ (l R : List α), (l.foldl (fun R x => insRev lt x R) R).map f = (l.map f).foldl (fun R x => insRev lt' x R) (R.map f)
 | [], R => rfl
 | x :: l, R => by rw [List.foldl_cons, foldl_map lt lt' f h l, insRev_map lt lt' f h]; rfl
theorem isort_map {α β : Type} [Inhabited α] [Inhabited β] (lt : α → α → Bool) (lt' : β → β → Bool) (f : α → β) (h : ∀ x y, lt' (f x) (f y) = lt x y) (l : List α) : (isort lt l).map f = isort lt' (l.map f) := by
 unfold isort; rw [List.map_reverse, foldl_map lt lt' f h]; rfl
/-- What stands at the end and is greater is passed; what is not greater stops it. -/
theorem insRev_parts {α : Type} (lt : α → α → Bool) (x : α) (A : List α) : ∀ B : List α, (∀ p ∈ B, lt x p = true) → (∀ p ∈ A, lt x p = false) → insRev lt x (B ++ A) = B ++ x :: A
 | [], _, hA => by
  cases A with
  | nil => rfl
  | cons a A => rw [List.nil_append, insRev, hA a (by simp), if_neg (by decide)]; rfl
 | p :: B, hB, hA => by
  rw [List.cons_append, insRev, hB p (by simp), if_pos rfl, insRev_parts lt x A B (fun q hq => hB q (by simp [hq])) hA]; rfl

/-- Buckets. -/
def buckets {α : Type} (key : α → Int) (l : List α) : Nat → Nat → List α
 | _, 0 => []
 | q, n + 1 => l.filter (fun x => decide (key x = (q : Int))) ++ buckets key l (q + 1) n
theorem buckets_mem {α : Type} (key : α → Int) (l : List α) : ∀ (n q : Nat) (p : α), p ∈ buckets key l q n → (q : Int) ≤ key p ∧ key p < ((q + n : Nat) : Int)
 | 0, q, p, h => by simp [buckets] at h
 | n + 1, q, p, h => by
  rw [buckets, List.mem_append] at h
  rcases h with h | h
  · have := (List.mem_filter.1 h).2
    rw [decide_eq_true_eq] at this
    omega
  · have := buckets_mem key l n (q + 1) p h
    omega
theorem buckets_append {α : Type} (key : α → Int) (l : List α) : ∀ (n m q : Nat), buckets key l q (n + m) = buckets key l q n ++ buckets key l (q + n) m
 | 0, m, q => by simp [buckets]
 | n + 1, m, q => by
  rw [show n + 1 + m = (n + m) + 1 by omega, buckets, buckets, buckets_append key l n m (q + 1), List.append_assoc, show q + 1 + n = q + (n + 1) by omega]
theorem buckets_other {α : Type} (key : α → Int) (l : List α) (x : α) : ∀ (n q : Nat), (key x < (q : Int) ∨ ((q + n : Nat) : Int) ≤ key x) → buckets key (l ++ [x]) q n = buckets key l q n
 | 0, q, h => rfl
 | n + 1, q, h => by
  rw [buckets, buckets, buckets_other key l x n (q + 1) (by omega), List.filter_append, List.filter_cons, if_neg (by rw [decide_eq_true_eq]; omega), List.filter_nil, List.append_nil]
/-- Sorted by a key from 0 to N: the buckets. -/
theorem isort_buckets_rev {α : Type} [Inhabited α] (key : α → Int) (N : Nat) (r : List α) (h : ∀ x ∈ r, 0 ≤ key x ∧ key x < (N : Int)) : isort (fun x y => decide (key x < key y)) r.reverse = buckets key r.reverse 0 N := by
 induction r with
 | nil =>
  have e : ∀ (n q : Nat), buckets key ([] : List α) q n = [] := by
   intro n
   induction n with
   | zero => intro q; rfl
   | succ n ih => intro q; rw [buckets, ih]; rfl
  rw [List.reverse_nil, e]; rfl
 | cons x r ih0 =>
  obtain ⟨h0, h1⟩ := h x (by simp)
  have ih := ih0 (fun y hy => h y (by simp [hy]))
  clear ih0
  rw [List.reverse_cons]
  generalize r.reverse = l at ih ⊢
  obtain ⟨k, hk⟩ : ∃ k : Nat, key x = (k : Int) := ⟨(key x).toNat, by omega⟩
  have hN : N = k + (1 + (N - k - 1)) := by omega
  rw [isort_concat, ih]
  rw [hN, buckets_append, buckets_append, ← List.append_assoc, ← buckets_append, buckets_append key (l ++ [x]) k (1 + (N - k - 1)), buckets_append key (l ++ [x]) 1 (N - k - 1)]
  rw [List.reverse_append, insRev_parts]
  · rw [List.reverse_append, List.reverse_cons, List.reverse_reverse, List.reverse_reverse]
    rw [buckets_other key l x k 0 (by omega), buckets_other key l x (N - k - 1) _ (by omega), buckets_append key l k 1]
    simp only [buckets, List.append_nil, List.append_assoc, Nat.zero_add]
    rw [List.filter_append, List.filter_cons, if_pos (by rw [decide_eq_true_eq]; omega), List.filter_nil, List.append_assoc]
  · intro p hp
    have := buckets_mem key l _ _ p (List.mem_reverse.1 hp)
    rw [decide_eq_true_eq]; omega
  · intro p hp
    have := buckets_mem key l _ _ p (List.mem_reverse.1 hp)
    rw [decide_eq_false_iff_not]; omega
theorem isort_buckets {α : Type} [Inhabited α] (key : α → Int) (N : Nat) (l : List α) (h : ∀ x ∈ l, 0 ≤ key x ∧ key x < (N : Int)) : isort (fun x y => decide (key x < key y)) l = buckets key l 0 N := by
 have := isort_buckets_rev key N l.reverse (fun x hx => h x (by simpa using hx))
 rwa [List.reverse_reverse] at this
end Go.Proofs.YtgeimklpcfepaaaDoor
namespace Go.Proofs.YtgeimklpcfepaaaDoor
open Go.RowKit Go.Lib Go.Sort Go.Proofs.YtgeimklpcfepaaaDoorW.PrintWords
set_option linter.unusedVariables false
set_option linter.unusedSimpArgs false

theorem drewN_ahead (w : World) (q : Nat) : w.drewN q = Sort.ahead w q := rfl
theorem mlen_reached (p : Option Addr) (n c : Nat) : Reaches Tryd.prog 40 (.slice p n c) "Len" 69 := ⟨fun _ => by kernel_rfl, enters_of Tryd.func69 (by kernel_rfl) rfl⟩
theorem less_reached (p : Option Addr) (n c : Nat) : Reaches Tryd.prog 40 (.slice p n c) "Less" 70 := ⟨fun _ => by kernel_rfl, enters_of Tryd.func70 (by kernel_rfl) rfl⟩
theorem swap_reached (p : Option Addr) (n c : Nat) : Reaches Tryd.prog 40 (.slice p n c) "Swap" 71 := ⟨fun _ => by kernel_rfl, enters_of Tryd.func71 (by kernel_rfl) rfl⟩

set_option maxHeartbeats 2000000 in
theorem r_Len (p : Option Addr) (n c : Nat) (W : World) : Calls Tryd.prog 69 #[.slice p n c] W fun e w' => e = .returned (.int .i64 n) ∧ ∃ q, w' = W.drewN q := by
 go_enter Tryd.func69, Tryd.ntmps69
 go_wp2
 go_ret
 exact ⟨rfl, 0, rfl⟩

set_option maxHeartbeats 2000000 in
theorem r_Less (blk off c size : Nat) (W : World) (G : Nat → Int) (hc : ∀ t, t < size → W.cell? ⟨blk, off + t * 4 + 3, none⟩ = some (.int .i64 (G t))) (i j : Nat) (hi : i < size) (hj : j < size) (_hsz : size < 4611686018427387904) :
 Calls Tryd.prog 70 #[.slice (some ⟨blk, off, none⟩) size c, .int .i64 i, .int .i64 j] W fun e w' => e = .returned (.bool (decide (G i > G j))) ∧ ∃ q, w' = W.drewN q := by
 have ci := hc i hi
 have cj := hc j hj
 go_enter Tryd.func70, Tryd.ntmps70
 go_wp2
 go_quiet (fail)
 go_wp2
 go_ret
 exact ⟨rfl, nq, rfl⟩

theorem some_set {w : World} {p q : Addr} {x : Value} (h : ∃ v, w.cell? q = some v) : ∃ v, (w.setCell p x).cell? q = some v := by
 obtain ⟨v, h⟩ := h
 exact cell?_setCell_some h
set_option maxHeartbeats 4000000 in
theorem r_Swap (blk off c size : Nat) (W : World) (X0 Y0 : ByteArray) (X1 X3 Y1 Y3 : Int) (XA YA : Option Addr) (Xn Xc Yn Yc : Nat) (i j : Nat) (hi : i < size) (hj : j < size) (_hsz : size < 4611686018427387904)
 (x0 : W.cell? ⟨blk, off + i * 4, none⟩ = some (.string X0)) (x1 : W.cell? ⟨blk, off + i * 4 + 1, none⟩ = some (.int .i64 X1)) (x2 : W.cell? ⟨blk, off + i * 4 + 2, none⟩ = some (.slice XA Xn Xc)) (x3 : W.cell? ⟨blk, off + i * 4 + 3, none⟩ = some (.int .i64 X3))
 (y0 : W.cell? ⟨blk, off + j * 4, none⟩ = some (.string Y0)) (y1 : W.cell? ⟨blk, off + j * 4 + 1, none⟩ = some (.int .i64 Y1)) (y2 : W.cell? ⟨blk, off + j * 4 + 2, none⟩ = some (.slice YA Yn Yc)) (y3 : W.cell? ⟨blk, off + j * 4 + 3, none⟩ = some (.int .i64 Y3))
 (hfr : ∀ t, W.frozen? ⟨blk, t, none⟩ = false) :
 Calls Tryd.prog 71 #[.slice (some ⟨blk, off, none⟩) size c, .int .i64 i, .int .i64 j] W fun e w' => e = .returned (.tuple #[]) ∧ ∃ q, w' = ((W.setCells blk (off + i * 4) [.string Y0, .int .i64 Y1, .slice YA Yn Yc, .int .i64 Y3]).setCells blk (off + j * 4) [.string X0, .int .i64 X1, .slice XA Xn Xc, .int .i64 X3]).drewN q := by
 have fi0 : W.frozen? ⟨blk, off + i * 4, none⟩ = false := hfr _
 have fi1 : W.frozen? ⟨blk, off + i * 4 + 1, none⟩ = false := hfr _
 have fi2 : W.frozen? ⟨blk, off + i * 4 + 2, none⟩ = false := hfr _
 have fi3 : W.frozen? ⟨blk, off + i * 4 + 3, none⟩ = false := hfr _
 have fj0 : W.frozen? ⟨blk, off + j * 4, none⟩ = false := hfr _
 have fj1 : W.frozen? ⟨blk, off + j * 4 + 1, none⟩ = false := hfr _
 have fj2 : W.frozen? ⟨blk, off + j * 4 + 2, none⟩ = false := hfr _
 have fj3 : W.frozen? ⟨blk, off + j * 4 + 3, none⟩ = false := hfr _
 obtain ⟨m0, hm0⟩ : ∃ v, ((((W.setCell ⟨blk, off + i * 4, none⟩ (.string Y0)).setCell ⟨blk, off + i * 4 + 1, none⟩ (.int .i64 Y1)).setCell ⟨blk, off + i * 4 + 2, none⟩ (.slice YA Yn Yc)).setCell ⟨blk, off + i * 4 + 3, none⟩ (.int .i64 Y3)).cell? ⟨blk, off + j * 4, none⟩ = some v := some_set (some_set (some_set (some_set ⟨_, y0⟩)))
 obtain ⟨m1, hm1⟩ : ∃ v, ((((W.setCell ⟨blk, off + i * 4, none⟩ (.string Y0)).setCell ⟨blk, off + i * 4 + 1, none⟩ (.int .i64 Y1)).setCell ⟨blk, off + i * 4 + 2, none⟩ (.slice YA Yn Yc)).setCell ⟨blk, off + i * 4 + 3, none⟩ (.int .i64 Y3)).cell? ⟨blk, off + j * 4 + 1, none⟩ = some v := some_set (some_set (some_set (some_set ⟨_, y1⟩)))
 obtain ⟨m2, hm2⟩ : ∃ v, ((((W.setCell ⟨blk, off + i * 4, none⟩ (.string Y0)).setCell ⟨blk, off + i * 4 + 1, none⟩ (.int .i64 Y1)).setCell ⟨blk, off + i * 4 + 2, none⟩ (.slice YA Yn Yc)).setCell ⟨blk, off + i * 4 + 3, none⟩ (.int .i64 Y3)).cell? ⟨blk, off + j * 4 + 2, none⟩ = some v := some_set (some_set (some_set (some_set ⟨_, y2⟩)))
 obtain ⟨m3, hm3⟩ : ∃ v, ((((W.setCell ⟨blk, off + i * 4, none⟩ (.string Y0)).setCell ⟨blk, off + i * 4 + 1, none⟩ (.int .i64 Y1)).setCell ⟨blk, off + i * 4 + 2, none⟩ (.slice YA Yn Yc)).setCell ⟨blk, off + i * 4 + 3, none⟩ (.int .i64 Y3)).cell? ⟨blk, off + j * 4 + 3, none⟩ = some v := some_set (some_set (some_set (some_set ⟨_, y3⟩)))
 clear hfr
 go_enter Tryd.func71, Tryd.ntmps71
 go_wp2
 go_region
 all_goals (try go_wp2)
 all_goals go_end0
 all_goals exact ⟨rfl, 1, rfl⟩

section
variable {α : Type} [Inhabited α]
def LessK (gl : Nat) (rv : Value) (enc : α → List Value) (lt : α → α → Bool) (blk off size : Nat) (w : World) : Prop :=
 ∀ (m : Nat) (dk : Array α), dk.size = size → ∀ i j : Nat, i < size → j < size →
  Calls Tryd.prog gl #[rv, .int .i64 i, .int .i64 j] (putRowK enc 4 (Sort.ahead w m) blk off dk) fun e w' => e = .returned (.bool (lt dk[i]! dk[j]!)) ∧ ∃ q, w' = (putRowK enc 4 (Sort.ahead w m) blk off dk).drewN q
def SwapK (gs : Nat) (rv : Value) (enc : α → List Value) (blk off size : Nat) (w : World) : Prop :=
 ∀ (m : Nat) (dk : Array α), dk.size = size → ∀ i j : Nat, i < size → j < size →
  Calls Tryd.prog gs #[rv, .int .i64 i, .int .i64 j] (putRowK enc 4 (Sort.ahead w m) blk off dk) fun e w' => e = .returned (.tuple #[]) ∧ ∃ q, w' = (((putRowK enc 4 (Sort.ahead w m) blk off dk).setCells blk (off + i * 4) (enc dk[j]!)).setCells blk (off + j * 4) (enc dk[i]!)).drewN q

set_option maxHeartbeats 4000000 in
set_option maxRecDepth 100000 in
theorem ins_sort (rv : Value) (gl gs T : Nat) (rL : Reaches Tryd.prog T rv "Less" gl) (rS : Reaches Tryd.prog T rv "Swap" gs) (enc : α → List Value) (hk : ∀ x, (enc x).length = 4) (lt : α → α → Bool) (blk off a b : Nat) (d : Array α) (w : World)
 (hless : LessK gl rv enc lt blk off d.size w) (hswap : SwapK gs rv enc blk off d.size w)
 (hH : HoldsK enc 4 w blk off d) (hab : a ≤ b) (hb : b ≤ d.size) (hsz : d.size < 4611686018427387904) :
 Calls Tryd.prog 49 #[.iface T rv, .int .i64 a, .int .i64 b] w fun e w' =>
  e = .returned (.tuple #[]) ∧ ∃ n, w' = putRowK enc 4 (Sort.ahead w n) blk off (Sort.insertionSort lt d a b) := by
 have mL : ∀ w, Sem.run Tryd.prog (method 222 T rv "Less") w = .ok (gl, rv) w := rL.finds
 have mS : ∀ w, Sem.run Tryd.prog (method 222 T rv "Swap") w = .ok (gs, rv) w := rS.finds
 have eL := rL.enters
 have eS := rS.enters
 go_enter Tryd.func49, Tryd.ntmps49
 go_wp2
 go_loopw [6] (fun vi wr => ∃ (i n : Nat) (dk : Array α), vi = .int .i64 i ∧ a < i ∧ i ≤ b + 1 ∧ dk.size = d.size ∧ wr = putRowK enc 4 (Sort.ahead w n) blk off dk ∧
  insOuter lt a b i dk = insOuter lt a b (a + 1) d) (fun vi _ => b + 1 - (intOf vi).toNat)
 case atStart => exact ⟨a + 1, 0, d, by go_num, by omega, by omega, rfl, (putRowK_self _ _ _ _ _ _ hH).symm, rfl⟩
 case round =>
  obtain ⟨i, n, dk, rfl, hai, hib, hsk, hwr, hO⟩ := hrel
  have HO : Hid (insOuter lt a b i dk = insOuter lt a b (a + 1) d) := hO
  clear hO
  go_wp2
  · -- i < b: the inner loop
    go_loopw [7] (fun vj wr2 => ∃ (j m : Nat) (dj : Array α), vj = .int .i64 j ∧ a ≤ j ∧ j ≤ i ∧ dj.size = d.size ∧ wr2 = putRowK enc 4 (Sort.ahead w m) blk off dj ∧
     insInner lt a j dj = insInner lt a i dk) (fun vj _ => (intOf vj).toNat)
    case atStart => exact ⟨i, n, dk, rfl, by omega, Nat.le_refl _, hsk, rfl, rfl⟩
    case round =>
     obtain ⟨j, m, dj, rfl, haj, hji, hsj, hw2, hI⟩ := hrel
     have hlt : i < b := by assumption
     have HW : Hid (wr = putRowK enc 4 (Sort.ahead w m) blk off dj) := hw2
     have HI : Hid (insInner lt a j dj = insInner lt a i dk) := hI
     clear hw2 hI hH
     have out : (j ≤ a ∨ lt dj[j]! dj[j - 1]! = false) → ∀ q, ∃ i' n' dk', Value.int .i64 ((i : Int) + 1) = .int .i64 (i' : Nat) ∧ a < i' ∧ i' ≤ b + 1 ∧ dk'.size = d.size ∧
      wr.drewN q = putRowK enc 4 (Sort.ahead w n') blk off dk' ∧ insOuter lt a b i' dk' = insOuter lt a b (a + 1) d := fun hs q =>
      ⟨i + 1, m + q, dj, by go_num, by omega, by omega, hsj, by rw [HW.out]; exact putRowK_drewN _ _ _ _ _ _ _ _,
       by rw [← HO.out, insOuter_go _ _ _ _ _ hlt, ← HI.out, insInner_stop _ _ _ _ hs]⟩
     have OUT : Hid _ := out
     clear out
     by_cases hja : a < j
     · have hl := hless m dj hsj j (j - 1) (by omega) (by omega)
       rw [← HW.out] at hl
       rw [show (((j - 1 : Nat) : Int)) = (j : Int) - 1 by omega] at hl
       have hsw : ∀ q, Calls Tryd.prog gs #[rv, .int .i64 j, .int .i64 ((j : Int) - 1)] (wr.drewN q) fun e w' => e = .returned (.tuple #[]) ∧ ∃ q2, w' = putRowK enc 4 (Sort.ahead w (m + q + q2)) blk off (swp dj j (j - 1)) := fun q => by
        have h1 := hswap (m + q) dj hsj j (j - 1) (by omega) (by omega)
        rw [HW.out, putRowK_drewN]
        rw [show (((j - 1 : Nat) : Int)) = (j : Int) - 1 by omega] at h1
        refine h1.mono ?_
        rintro e w' ⟨rfl, q2, rfl⟩
        refine ⟨rfl, q2, ?_⟩
        have h2 := swap_worldK enc 4 hk w (m + q) 0 blk off dj j (j - 1) (by omega) (by omega)
        have h3 : ∀ W : World, W.drewN 0 = W := fun _ => rfl
        rw [h3] at h2
        rw [h2, putRowK_drewN]
        rfl
       have HSW : Hid _ := hsw
       clear hsw
       cases hlv : lt dj[j]! dj[j - 1]! with
       | true =>
        rw [hlv] at hl
        go_wp2_with (first
         | (go_at_fn gl; refine hl.mono ?_; rintro e w' ⟨rfl, q, rfl⟩)
         | (go_at_fn gs; refine (HSW.out _).mono ?_; rintro e w' ⟨rfl, q2, rfl⟩))
        go_roundw
        case rel =>
         (repeat apply Exists.intro)
         refine ⟨⟨j - 1, m + q + q2, swp dj j (j - 1), by congr 1 <;> omega, by omega, by omega, by rw [size_swp]; exact hsj, rfl, ?_⟩, by rw [decide_eq_true hlt, show ((j - 1 : Nat) : Int) = (j : Int) - 1 by omega]⟩
         rw [← HI.out, insInner_go lt a j dj hja hlv]
        case measure => simp [intOf]; omega
       | false =>
        rw [hlv] at hl
        go_wp2_with (go_at_fn gl; refine hl.mono ?_; rintro e w' ⟨rfl, q, rfl⟩)
        go_roundw
        case rel => exact OUT.out (Or.inr hlv) q
        case measure => simp [intOf]; omega
     · go_wp2
       go_roundw
       case rel => exact OUT.out (Or.inl (by omega)) 0
       case measure => simp [intOf]; omega
  · -- the outer loop is at its end
    have hge : ¬ i < b := by assumption
    go_end0
    exact ⟨rfl, n, by unfold Sort.insertionSort; rw [← HO.out, insOuter_stop _ _ _ _ _ hge]⟩
end

section
variable {α : Type} [Inhabited α]
theorem insertionSort_done (lt : α → α → Bool) (d : Array α) (a b : Nat) (h : b ≤ a + 1) : Sort.insertionSort lt d a b = d := by
 unfold Sort.insertionSort; rw [insOuter_stop _ _ _ _ _ (by omega)]
set_option maxHeartbeats 4000000 in
set_option maxRecDepth 100000 in
theorem ins_none (rv : Value) (T a b : Nat) (h : b ≤ a + 1) (hb : b < 4611686018427387904) (ha : a < 4611686018427387904) (w : World) :
 Calls Tryd.prog 49 #[.iface T rv, .int .i64 a, .int .i64 b] w fun e w' => e = .returned (.tuple #[]) ∧ w' = w := by
 go_enter Tryd.func49, Tryd.ntmps49
 go_wp2
 refine wp_loop_rounds 1 ?_
 rw [rounds_succ]
 go_wp2
 all_goals first | (exfalso; omega) | (go_end0; exact ⟨rfl, rfl⟩)

set_option maxHeartbeats 4000000 in
set_option maxRecDepth 100000 in
theorem stable_under20 (rv : Value) (gl gs T : Nat) (rL : Reaches Tryd.prog T rv "Less" gl) (rS : Reaches Tryd.prog T rv "Swap" gs) (enc : α → List Value) (hk : ∀ x, (enc x).length = 4) (lt : α → α → Bool) (blk off : Nat) (d : Array α) (w : World)
 (hless : LessK gl rv enc lt blk off d.size w) (hswap : SwapK gs rv enc blk off d.size w)
 (hH : HoldsK enc 4 w blk off d) (h20 : d.size < 20) :
 Calls Tryd.prog 46 #[.iface T rv, .int .i64 d.size] w fun e w' => e = .returned (.tuple #[]) ∧ ∃ n, w' = putRowK enc 4 (Sort.ahead w n) blk off (Sort.insertionSort lt d 0 d.size) := by
 have hc := ins_sort rv gl gs T rL rS enc hk lt blk off 0 d.size d w hless hswap hH (Nat.zero_le _) (Nat.le_refl _) (by omega)
 clear hless hswap hH
 go_enter Tryd.func46, Tryd.ntmps46
 go_wp2
 refine wp_loop_rounds 1 ?_
 rw [rounds_succ]
 go_wp2_with (go_at_call 49; refine hc.mono ?_; rintro e w1 ⟨rfl, n, rfl⟩)
 refine wp_loop_rounds 1 ?_
 rw [rounds_succ]
 go_wp2
 all_goals first | (exfalso; omega) | (go_end0; exact ⟨rfl, n, rfl⟩)
set_option maxHeartbeats 4000000 in
set_option maxRecDepth 100000 in
theorem stable_at20 (rv : Value) (gl gs T : Nat) (rL : Reaches Tryd.prog T rv "Less" gl) (rS : Reaches Tryd.prog T rv "Swap" gs) (enc : α → List Value) (hk : ∀ x, (enc x).length = 4) (lt : α → α → Bool) (blk off : Nat) (d : Array α) (w : World)
 (hless : LessK gl rv enc lt blk off d.size w) (hswap : SwapK gs rv enc blk off d.size w)
 (hH : HoldsK enc 4 w blk off d) (h20 : d.size = 20) :
 Calls Tryd.prog 46 #[.iface T rv, .int .i64 d.size] w fun e w' => e = .returned (.tuple #[]) ∧ ∃ n, w' = putRowK enc 4 (Sort.ahead w n) blk off (Sort.insertionSort lt d 0 d.size) := by
 have hc := ins_sort rv gl gs T rL rS enc hk lt blk off 0 d.size d w hless hswap hH (Nat.zero_le _) (Nat.le_refl _) (by omega)
 have hn : ∀ w1, Calls Tryd.prog 49 #[.iface T rv, .int .i64 (20 : Nat), .int .i64 (20 : Nat)] w1 fun e w' => e = .returned (.tuple #[]) ∧ w' = w1 := fun w1 => ins_none rv T 20 20 (by omega) (by omega) (by omega) w1
 rw [h20] at hc ⊢
 have hc2 : Calls Tryd.prog 49 #[.iface T rv, .int .i64 0, .int .i64 20] w fun e w' => e = .returned (.tuple #[]) ∧ ∃ n, w' = putRowK enc 4 (Sort.ahead w n) blk off (Sort.insertionSort lt d 0 20) := hc
 have hn2 : ∀ w1, Calls Tryd.prog 49 #[.iface T rv, .int .i64 20, .int .i64 20] w1 fun e w' => e = .returned (.tuple #[]) ∧ w' = w1 := hn
 clear hless hswap hH hc
 go_enter Tryd.func46, Tryd.ntmps46
 go_wp2
 refine wp_loop_rounds 2 ?_
 rw [rounds_succ]
 go_wp2_with (go_at_call 49; refine hc2.mono ?_; rintro e w1 ⟨rfl, n, rfl⟩)
 rw [rounds_succ]
 go_wp2_with (go_at_call 49; refine (hn _).mono ?_; rintro e w2 ⟨rfl, rfl⟩)
 refine wp_loop_rounds 1 ?_
 rw [rounds_succ]
 go_wp2
 go_end0
 exact ⟨rfl, n, rfl⟩
set_option maxHeartbeats 4000000 in
set_option maxRecDepth 100000 in
/-- sort.Stable of at most twenty: the insertion sort. -/
theorem sort_stable (rv : Value) (gn gl gs T : Nat) (rN : Reaches Tryd.prog T rv "Len" gn) (rL : Reaches Tryd.prog T rv "Less" gl) (rS : Reaches Tryd.prog T rv "Swap" gs) (enc : α → List Value) (hk : ∀ x, (enc x).length = 4) (lt : α → α → Bool) (blk off : Nat) (d : Array α) (w : World)
 (hlen : Calls Tryd.prog gn #[rv] w fun e w' => e = .returned (.int .i64 d.size) ∧ ∃ q, w' = w.drewN q)
 (hless : ∀ q, LessK gl rv enc lt blk off d.size (w.drewN q)) (hswap : ∀ q, SwapK gs rv enc blk off d.size (w.drewN q))
 (hH : HoldsK enc 4 w blk off d) (h20 : d.size ≤ 20) :
 Calls Tryd.prog 43 #[.iface T rv] w fun e w' => e = .returned (.tuple #[]) ∧ ∃ n, w' = putRowK enc 4 (Sort.ahead w n) blk off (Sort.insertionSort lt d 0 d.size) := by
 have hc : ∀ q, Calls Tryd.prog 46 #[.iface T rv, .int .i64 d.size] (w.drewN q) fun e w' => e = .returned (.tuple #[]) ∧ ∃ n, w' = putRowK enc 4 (Sort.ahead w n) blk off (Sort.insertionSort lt d 0 d.size) := fun q => by
  have h1 : Calls Tryd.prog 46 #[.iface T rv, .int .i64 d.size] (w.drewN q) fun e w' => e = .returned (.tuple #[]) ∧ ∃ n, w' = putRowK enc 4 (Sort.ahead (w.drewN q) n) blk off (Sort.insertionSort lt d 0 d.size) := by
   rcases Nat.lt_or_ge d.size 20 with h | h
   · exact stable_under20 rv gl gs T rL rS enc hk lt blk off d _ (hless q) (hswap q) hH h
   · exact stable_at20 rv gl gs T rL rS enc hk lt blk off d _ (hless q) (hswap q) hH (by omega)
  refine h1.mono ?_
  rintro e w' ⟨rfl, n, rfl⟩
  refine ⟨rfl, q + n, ?_⟩
  rw [drewN_ahead, ahead_ahead]
 have HC : Hid _ := hc
 clear hc hless hswap hH
 have mN : ∀ w, Sem.run Tryd.prog (method 222 T rv "Len") w = .ok (gn, rv) w := rN.finds
 have eN := rN.enters
 go_enter Tryd.func43, Tryd.ntmps43
 go_wp2_with (first
  | (go_at_fn gn; refine hlen.mono ?_; rintro e w' ⟨rfl, q, rfl⟩)
  | (go_at_call 46; refine (HC.out _).mono ?_; rintro e w' ⟨rfl, n, rfl⟩))
 go_end0
 exact ⟨rfl, n, rfl⟩
end
end Go.Proofs.YtgeimklpcfepaaaDoor
namespace Go.Proofs.YtgeimklpcfepaaaDoor
open Go.RowKit Go.Lib Go.Sort Go.Proofs.YtgeimklpcfepaaaDoorW.PrintWords Go.Proofs.YtgeimklpcfepaaaDoorW.PrintMore
open P
set_option linter.unusedVariables false
set_option linter.unusedSimpArgs false

instance : Inhabited S49 := ⟨z49⟩
/-- A match, with the slice that stands in its cells. -/
abbrev M49 : Type := S49 × (Option Addr × Nat × Nat)
instance : Inhabited M49 := ⟨(z49, none, 0, 0)⟩
def encM (x : M49) : List Value := [.string x.1.f0, .int .i64 x.1.f1, .slice x.2.1 x.2.2.1 x.2.2.2, .int .i64 x.1.f3]
def ltM (x y : M49) : Bool := decide (x.1.f3 > y.1.f3)
def lt49 (x y : S49) : Bool := decide (x.f3 > y.f3)
theorem encM_length (x : M49) : (encM x).length = 4 := rfl
theorem take4 {l : List Value} {s : Nat} {a b c d : Value} (h0 : l[s]? = some a) (h1 : l[s + 1]? = some b) (h2 : l[s + 2]? = some c) (h3 : l[s + 3]? = some d) : (l.drop s).take 4 = [a, b, c, d] := by
 apply List.ext_getElem?
 intro i
 match i with
 | 0 => rw [List.getElem?_take_of_lt (by omega), List.getElem?_drop]; exact h0
 | 1 => rw [List.getElem?_take_of_lt (by omega), List.getElem?_drop]; exact h1
 | 2 => rw [List.getElem?_take_of_lt (by omega), List.getElem?_drop]; exact h2
 | 3 => rw [List.getElem?_take_of_lt (by omega), List.getElem?_drop]; exact h3
 | i + 4 => rw [List.getElem?_eq_none (by simp; omega), List.getElem?_eq_none (by simp)]
theorem of_take4 {l e : List Value} {s : Nat} (h : (l.drop s).take 4 = e) (i : Nat) (hi : i < 4) : l[s + i]? = e[i]? := by
 rw [← h, List.getElem?_take_of_lt hi, List.getElem?_drop]
theorem list_of {α : Type} (p : Nat → α → Prop) : ∀ n : Nat, (∀ j, j < n → ∃ x, p j x) → ∃ E : List α, E.length = n ∧ ∀ j x, E[j]? = some x → p j x
 | 0, _ => ⟨[], rfl, fun j x h => by simp at h⟩
 | n + 1, h => by
  obtain ⟨E, h1, h2⟩ := list_of p n (fun j hj => h j (by omega))
  obtain ⟨x, hx⟩ := h n (by omega)
  refine ⟨E ++ [x], by simp [h1], fun j y hy => ?_⟩
  by_cases hj : j < E.length
  · rw [List.getElem?_append_left hj] at hy
    exact h2 j y hy
  · rw [List.getElem?_append_right (by omega)] at hy
    by_cases he : j - E.length = 0
    · rw [he] at hy
      have : x = y := by simpa using hy
      subst this
      rw [show j = n by omega]
      exact hx
    · rw [List.getElem?_eq_none (by simp; omega)] at hy
      cases hy
theorem insRev_mem {α : Type} (lt : α → α → Bool) (x y : α) : ∀ l : List α, y ∈ insRev lt x l → y = x ∨ y ∈ l
 | [], h => by simpa [insRev] using h
 | a :: l, h => by
  rw [insRev] at h
  split at h
  · rcases List.mem_cons.1 h with h | h
    · exact Or.inr (by simp [h])
    · rcases insRev_mem lt x y l h with h | h
      · exact Or.inl h
      · exact Or.inr (by simp [h])
  · rcases List.mem_cons.1 h with h | h
    · exact Or.inl h
    · exact Or.inr h
theorem foldl_mem {α : Type} (lt : α → α → Bool) (y : α) : ∀ (l R : List α), y ∈ l.foldl (fun R x => insRev lt x R) R → y ∈ R ∨ y ∈ l
 | [], R, h => Or.inl h
 | x :: l, R, h => by
  rcases foldl_mem lt y l _ h with h | h
  · rcases insRev_mem lt x y R h with h | h
    · exact Or.inr (by simp [h])
    · exact Or.inl h
  · exact Or.inr (by simp [h])
theorem isort_mem {α : Type} [Inhabited α] (lt : α → α → Bool) (l : List α) (y : α) (h : y ∈ isort lt l) : y ∈ l := by
 unfold isort at h
 rw [List.mem_reverse] at h
 rcases foldl_mem lt y l [] h with h | h
 · exact absurd h (by simp)
 · exact h
theorem cellsM {w : World} {blk off : Nat} {d : Array M49} (h : HoldsK encM 4 w blk off d) (i : Nat) (hi : i < d.size) :
 w.cell? ⟨blk, off + i * 4, none⟩ = some (.string d[i]!.1.f0) ∧ w.cell? ⟨blk, off + i * 4 + 1, none⟩ = some (.int .i64 d[i]!.1.f1) ∧ w.cell? ⟨blk, off + i * 4 + 2, none⟩ = some (.slice d[i]!.2.1 d[i]!.2.2.1 d[i]!.2.2.2) ∧ w.cell? ⟨blk, off + i * 4 + 3, none⟩ = some (.int .i64 d[i]!.1.f3) :=
 ⟨(h.cell hi (c := 0) (by omega)).1, (h.cell hi (c := 1) (by omega)).1, (h.cell hi (c := 2) (by omega)).1, (h.cell hi (c := 3) (by omega)).1⟩
theorem lessM {w : World} {g c : Nat} {d : Array M49} (h : HoldsK encM 4 w g 0 d) (hz : d.size ≤ 20) : LessK 70 (.slice (some ⟨g, 0, none⟩) d.size c) encM ltM g 0 d.size w := fun m dk hs i j hi hj => by
 have h1 := holdsK_putRowK encM 4 _ g 0 d dk (holdsK_ahead encM 4 w m g 0 d h) hs
 exact r_Less g 0 c d.size _ (fun t => dk[t]!.1.f3) (fun t ht => (cellsM h1 t (by omega)).2.2.2) i j hi hj (by omega)
theorem swapM {w : World} {g c : Nat} {cs : Array Value} {d : Array M49} (hb : w.heap[g]? = some (.cells cs 49 (0, 0))) (h : HoldsK encM 4 w g 0 d) (hz : d.size ≤ 20) : SwapK 71 (.slice (some ⟨g, 0, none⟩) d.size c) encM g 0 d.size w := fun m dk hs i j hi hj => by
 have h1 := holdsK_putRowK encM 4 _ g 0 d dk (holdsK_ahead encM 4 w m g 0 d h) hs
 obtain ⟨x0, x1, x2, x3⟩ := cellsM h1 i (by omega)
 obtain ⟨y0, y1, y2, y3⟩ := cellsM h1 j (by omega)
 exact r_Swap g 0 c d.size _ _ _ _ _ _ _ _ _ _ _ _ _ i j hi hj (by omega) x0 x1 x2 x3 y0 y1 y2 y3 (fun t => by
  unfold putRowK; rw [frozen?_putRow, frozen?_ahead]; exact blk_frozen hb _)
theorem below_putRow {B : Nat} {w : World} {g n : Nat} {d : Array M49} (hg : B ≤ g) : Below B w (putRowK encM 4 (Sort.ahead w n) g 0 d) := by
 refine ⟨rfl, rfl, rfl, ?_, fun k hk => ?_⟩
 · unfold putRowK; rw [size_putRow]; exact Nat.le_refl _
 · show (w.heap.modify g _)[k]? = _
   rw [Array.getElem?_modify, if_neg (by omega)]
theorem putRow_block {w : World} {g n : Nat} {cur : Array Value} {d : Array M49} (hb : w.heap[g]? = some (.cells cur 49 (0, 0))) : (putRowK encM 4 (Sort.ahead w n) g 0 d).heap[g]? = some (.cells (putCells id 0 (flatK encM 4 d) cur) 49 (0, 0)) := by
 show (w.heap.modify g _)[g]? = _
 rw [Array.getElem?_modify, if_pos rfl, hb]
 rfl
theorem putRow_far {w : World} {g n : Nat} {d : Array M49} (k : Nat) (hk : k ≠ g) : (putRowK encM 4 (Sort.ahead w n) g 0 d).heap[k]? = w.heap[k]? := by
 show (w.heap.modify g _)[k]? = _
 rw [Array.getElem?_modify, if_neg (fun e => hk e.symm)]
/-- The matches' order; they stand in the same row. -/
theorem sorted_49 {w : World} {base : Nat} {ok : Nat → Prop} {v : Value} {L : List S49} (h : Kd.R k49 49 w base ok v L) (h20 : L.length ≤ 20) :
 Calls Tryd.prog 43 #[.iface 40 v] w fun e w' => e = .returned (.tuple #[]) ∧ Kd.R k49 49 w' base ok v (isort lt49 L) ∧ Below base w w' := by
 obtain ⟨h0, inner, ho, hr⟩ := h
 rcases ho.2 with ⟨rfl, hn⟩ | ⟨g, cap, cur, rfl, hg, hb, hnc, hcm, hcs, htk⟩
 · obtain rfl := List.length_eq_zero_iff.1 hn
   have hH : HoldsK encM 4 w base 0 (#[] : Array M49) := fun t ht => by simp at ht
   refine (sort_stable (.slice none 0 0) 69 70 71 40 (mlen_reached _ _ _) (less_reached _ _ _) (swap_reached _ _ _) encM encM_length ltM base 0 #[] w (r_Len _ _ _ _) (fun q m dk hs i j hi hj => absurd hi (by simp)) (fun q m dk hs i j hi hj => absurd hi (by simp)) hH (by simp)).mono ?_
   rintro e w' ⟨rfl, n, rfl⟩
   exact ⟨rfl, Kd.R_nil _ _ _ _ _, below_putRow (Nat.le_refl _)⟩
 · have hcs4 : cur.size = cap * 4 := hcs
   have htk4 : cur.toList.take (L.length * 4) = inner := htk
   clear hcs htk ho
   generalize hn : L.length = n at *
   obtain ⟨E, hE, hE2⟩ := list_of (fun (j : Nat) (x : M49) => L[j]? = some x.1 ∧ (inner.drop (j * 4)).take 4 = encM x ∧ (Kd.int .i64).R 3 w base (fun k => ok k ∧ some k ≠ (Value.slice (some ⟨g, 0, none⟩) n cap).ownBlock) (.slice x.2.1 x.2.2.1 x.2.2.2) x.1.f2) n (fun j hj => by
    have hg := List.getElem?_eq_getElem (show j < L.length by omega)
    obtain ⟨v2, e, hR⟩ := k49_openM (hr.2 j _ hg)
    obtain ⟨A, c, rfl⟩ := Kd.R_slice hR
    exact ⟨(L[j], A, _, c), hg, e, hR⟩)
   have hmap : E.map (·.1) = L := by
    apply List.ext_getElem?
    intro j
    rw [List.getElem?_map]
    by_cases hj : j < E.length
    · have := hE2 j _ (List.getElem?_eq_getElem hj)
      rw [List.getElem?_eq_getElem hj, this.1]; rfl
    · rw [List.getElem?_eq_none (by omega), List.getElem?_eq_none (by omega)]; rfl
   have hEa : ∀ j, j < E.length → ∃ x, E[j]? = some x ∧ E.toArray[j]! = x := fun j hj => ⟨E[j], List.getElem?_eq_getElem hj, by simp [Array.getElem!_eq_getD, Array.getD_eq_getD_getElem?, hj]⟩
   have hH : HoldsK encM 4 w g 0 E.toArray := by
    intro t ht
    rw [size_flatK] at ht
    have ht2 : t < E.length * 4 := by simpa using ht
    refine ⟨?_, blk_frozen hb _⟩
    rw [get_flatK _ _ _ _ ht, Nat.zero_add, blk_cell hb]
    obtain ⟨x, hx1, hx2⟩ := hEa (t / 4) (by omega)
    have h4 := of_take4 (hE2 _ _ hx1).2.1 (t % 4) (Nat.mod_lt _ (by omega))
    rw [show t / 4 * 4 + t % 4 = t by omega, ← htk4, List.getElem?_take_of_lt (by omega), Array.getElem?_toList] at h4
    rw [hx2, h4]
    have hm : t % 4 < 4 := Nat.mod_lt _ (by omega)
    generalize t % 4 = p at hm ⊢
    match p, hm with
    | 0, _ => rfl
    | 1, _ => rfl
    | 2, _ => rfl
    | 3, _ => rfl
   have hz : E.toArray.size ≤ 20 := by simp; omega
   have hs : (insertionSort ltM E.toArray 0 E.length).toList = isort ltM E := sort_list ltM E
   have hs2 : (insertionSort ltM E.toArray 0 E.length).size = E.length := by
    rw [← Array.length_toList, hs, isort_length]
   have hsz : E.toArray.size = n := by simp [hE]
   have hE3 : E.toArray.size = E.length := by simp
   subst hsz
   refine (sort_stable (.slice (some ⟨g, 0, none⟩) E.toArray.size cap) 69 70 71 40 (mlen_reached _ _ _) (less_reached _ _ _) (swap_reached _ _ _) encM encM_length ltM g 0 E.toArray w (r_Len _ _ _ _)
    (fun q => lessM (w := w.drewN q) hH hz) (fun q => swapM (w := w.drewN q) hb hH hz) hH hz).mono ?_
   rintro e w' ⟨rfl, m, rfl⟩
   refine ⟨rfl, ?_, below_putRow hg⟩
   have hDe : insertionSort ltM E.toArray 0 E.toArray.size = insertionSort ltM E.toArray 0 E.length := by rw [hE3]
   rw [hDe]
   generalize hD : insertionSort ltM E.toArray 0 E.length = D at hs hs2
   have hH2 : HoldsK encM 4 (putRowK encM 4 (Sort.ahead w m) g 0 D) g 0 D := holdsK_putRowK encM 4 _ g 0 E.toArray D (holdsK_ahead encM 4 w m g 0 E.toArray hH) (by rw [hs2, hE3])
   have hb2 := putRow_block (n := m) (d := D) hb
   have hL2 : isort lt49 L = (isort ltM E).map (·.1) := by
    rw [← hmap]
    exact (isort_map ltM lt49 (·.1) (fun x y => rfl) E).symm
   have hl2 : (isort lt49 L).length = E.toArray.size := by rw [isort_length, hn]
   have hfar : ∀ k, (ok k ∧ some k ≠ (Value.slice (some ⟨g, 0, none⟩) E.toArray.size cap).ownBlock) → (putRowK encM 4 (Sort.ahead w m) g 0 D).heap[k]? = w.heap[k]? := fun k hk => putRow_far k (fun e => hk.2 (by rw [e]; rfl))
   generalize hW' : putRowK encM 4 (Sort.ahead w m) g 0 D = w' at hH2 hb2 hfar ⊢
   have hcz : (putCells id 0 (flatK encM 4 D) cur).size = cap * 4 := by unfold putCells; rw [Array.size_mapIdx]; exact hcs4
   generalize putCells id 0 (flatK encM 4 D) cur = cur2 at hb2 hcz
   have hzl : (cur2.toList.take (E.toArray.size * 4)).length = E.toArray.size * 4 := by
    rw [List.length_take, Array.length_toList, hcz]
    have := Nat.mul_le_mul_right 4 hnc
    omega
   refine ⟨h0, cur2.toList.take (E.toArray.size * 4), ⟨?_, Or.inr ⟨g, cap, cur2, ?_, hg, hb2, ?_, hcm, hcz, ?_⟩⟩, ?_, fun j p hj => ?_⟩
   · rw [hl2]; exact hzl
   · rw [hl2]
   · rw [hl2]; exact hnc
   · rw [hl2]; rfl
   · rw [hl2]; exact hzl
   · rw [hL2, List.getElem?_map] at hj
     obtain ⟨x, hx, rfl⟩ := Option.map_eq_some_iff.1 hj
     have hjl : j < E.length := by
      have := (List.getElem?_eq_some_iff.1 hx).1
      rw [isort_length] at this
      exact this
     have hDj : D[j]! = x := by
      rw [← hs, Array.getElem?_toList] at hx
      simp [Array.getElem!_eq_getD, Array.getD_eq_getD_getElem?, hx]
     obtain ⟨c0, c1, c2, c3⟩ := cellsM hH2 j (by omega)
     rw [blk_cell hb2, Nat.zero_add, hDj] at c0 c1 c2 c3
     have get : ∀ (t : Nat) (u : Value), t < E.toArray.size * 4 → cur2[t]? = some u → (cur2.toList.take (E.toArray.size * 4))[t]? = some u := fun t u ht hu => by
      rw [List.getElem?_take_of_lt ht, Array.getElem?_toList]; exact hu
     have e4 := take4 (get (j * 4) _ (by omega) c0) (get (j * 4 + 1) _ (by omega) c1) (get (j * 4 + 2) _ (by omega) c2) (get (j * 4 + 3) _ (by omega) c3)
     have hxE : x ∈ E := isort_mem ltM E x (List.mem_of_getElem? hx)
     obtain ⟨i, hi, rfl⟩ := List.getElem_of_mem hxE
     have hRx := (hE2 i _ (List.getElem?_eq_getElem hi)).2.2
     show k49.M w' base _ _ ((List.drop (j * 4) (cur2.toList.take (E.toArray.size * 4))).take 4)
     rw [e4]
     exact k49_mkM _ _ _ _ (Kd.R_move hRx hfar)
namespace P
def sahilm_Find.f (a0 : ByteArray) (l1 : List ByteArray) : Option (List S49) := if okTexts a0 l1 = true ∧ l1.length ≤ 20 then some (isort lt49 (findAll a0 l1)) else none
end P
theorem findAll_len (a0 : ByteArray) (l : List ByteArray) : (findAll a0 l).length ≤ l.length := by
 have : ∀ (W : List Int) (l : List ByteArray) (i : Nat), (findS W l i).length ≤ l.length := by
  intro W l
  induction l with
  | nil => intro i; exact Nat.le_refl _
  | cons s r ih =>
   intro i
   have := ih (i + 1)
   rw [findS]
   split <;> simp <;> omega
 unfold findAll
 split
 · simp
 · exact this _ _ _
set_option maxHeartbeats 4000000 in
set_option maxRecDepth 100000 in
theorem findFrom_calls (a0 : ByteArray) (A : Option Addr) (c : Nat) (l : List ByteArray) (w : World) (hC : Kd.C Kd.string w A l.length l) (hA : Amb w) (h : okTexts a0 l = true) (h20 : l.length ≤ 20) :
 Calls Tryd.prog 31 #[.string a0, .iface 51 (.slice A l.length c)] w fun e w' => ∃ v0_ : Value, e = .returned (v0_) ∧ Kd.R k49 49 w' w.heap.size (fun _ => True) v0_ (isort lt49 (findAll a0 l)) ∧ Below w.heap.size w w' := by
 have HF := Aside0.mk (from_calls a0 A c l w hC hA h)
 have HL := Aside0.mk (Nat.le_trans (findAll_len a0 l) h20)
 clear hC hA h h20
 generalize findAll a0 l = R at HF HL ⊢
 have HS := Aside0.mk (fun (w1 : World) (v : Value) (hR : Kd.R k49 49 w1 w.heap.size (fun _ => True) v R) => sorted_49 hR HL.out)
 clear HL
 go_enter Tryd.func31, Tryd.ntmps31
 go_wp2_with (go_at_call 27; (with_reducible refine HF.out.mono ?_); rintro e w1 ⟨v, rfl, hR, hb⟩; have HR := Aside0.mk hR; have HB := Aside0.mk hb; clear hR hb)
 go_wp2_with (go_at_call 43; (with_reducible refine (HS.out _ _ HR.out).mono ?_); rintro e w2 ⟨rfl, hR2, hb2⟩; have HR2 := Aside0.mk hR2; have HB2 := Aside0.mk hb2; clear hR2 hb2)
 go_ret
 exact ⟨_, rfl, HR2.out, Below.trans HB.out HB2.out⟩
set_option maxHeartbeats 2000000 in
theorem P.sahilm_Find.calls (a0 : ByteArray) (A1 : Option Addr) (c1 : Nat) (l1 : List ByteArray) (r : List S49) (w : World) (hr1 : Kd.C Kd.string w A1 l1.length l1) (hc1 : l1.length ≤ c1) (hA_ : Amb w) (h : sahilm_Find.f a0 l1 = some r) :
 Calls Tryd.prog 26 #[.string a0, .slice A1 l1.length c1] w fun e w' => ∃ v0_ : Value, e = .returned (v0_) ∧ Kd.R k49 49 w' w.heap.size (fun _ => True) v0_ r ∧ Below w.heap.size w w' := by
 unfold sahilm_Find.f at h
 split at h
 case isFalse => cases h
 rename_i hok
 obtain rfl := Option.some.inj h
 have HF := Aside0.mk (findFrom_calls a0 A1 c1 l1 w hr1 hA_ hok.1 hok.2)
 clear h hr1 hc1 hA_ hok
 generalize isort lt49 (findAll a0 l1) = R at HF ⊢
 go_enter Tryd.func26, Tryd.ntmps26
 go_wp2_with (go_at_call 31; (with_reducible refine HF.out.mono ?_); rintro e w1 ⟨v, rfl, hR, hb⟩; have HR := Aside0.mk hR; have HB := Aside0.mk hb; clear hR hb)
 go_ret
 exact ⟨_, rfl, HR.out, HB.out⟩
end Go.Proofs.YtgeimklpcfepaaaDoor
