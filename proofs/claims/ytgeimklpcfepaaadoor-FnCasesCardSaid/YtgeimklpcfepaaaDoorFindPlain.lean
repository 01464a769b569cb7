/- What FindFromNoSort does with a text, as a plain function: nothing of the program's memory. -/
import Derived.Test.YtgeimklpcfepaaaDoorOrbit
import Derived.Test.YtgeimklpcfepaaaDoorExtLetters
import Derived.Test.YtgeimklpcfepaaaDoorExtFold
import Derived.Test.YtgeimklpcfepaaaDoorPureAlike
import Derived.Lib.MapLaws
namespace Go.Proofs.YtgeimklpcfepaaaDoor
open Go.RowKit Go.Lib Go.Proofs.YtgeimklpcfepaaaDoorW.PrintWords Go.Proofs.YtgeimklpcfepaaaDoorW.PrintMore
open P
set_option linter.unusedVariables false
set_option linter.unusedSimpArgs false

/-- The loop's state over a text's letters: the pattern's next letter; the best sum of its candidates so far, and where; the sum of bonuses; what is taken; the score; the last letter, and where it stands. -/
structure St where
  pi : Nat
  best : Int
  midx : Int
  curr : Int
  M : List Int
  sc : Int
  last : Int
  lastI : Int
def St0 : St := ⟨0, -1, -1, 0, [], 0, 0, 0⟩
def baseS (j last r : Int) : Int := (if j = 0 then 10 else 0) + ((if (isLowerU last && isUpperU r) = true then 20 else 0) + (if j ≠ 0 ∧ sepR last = true then 20 else 0))
def bonusS (M : List Int) (lastI curr : Int) : Int := if M.getLastD 0 = lastI then wrap64 (wrap64 (curr * 2) + 5) else 0
def scoreS (j r : Int) (st : St) : Int := if st.M = [] then baseS j st.last r else wrap64 (baseS j st.last r + bonusS st.M st.lastI st.curr)
def currS (st : St) : Int := if st.M = [] then st.curr else wrap64 (st.curr + bonusS st.M st.lastI st.curr)
/-- A letter, as a candidate. -/
def candS (W : List Int) (j r : Int) (st : St) : St :=
  if alikeB r (W.getD st.pi 0) = true then
    (if scoreS j r st > st.best then { st with best := scoreS j r st, midx := j, curr := currS st } else { st with curr := currS st })
  else st
/-- The best candidate, taken, where the next letter is the pattern's next one, or there is none. -/
def nextP (W : List Int) (pi : Nat) : Int := if pi + 1 < W.length then W.getD (pi + 1) 0 else 0
def bestS (st : St) : Int := if st.M = [] then wrap64 (st.best + (if wrap64 (st.midx * -5) > -15 then wrap64 (st.midx * -5) else -15)) else st.best
def takeS (W : List Int) (nc : Int) (st : St) : St :=
  if (alikeB (nextP W st.pi) nc || nc == 0) = true then
    (if st.midx > -1 then { st with sc := wrap64 (st.sc + bestS st), M := st.M ++ [st.midx], best := -1, pi := st.pi + 1 } else st)
  else st
def headR (l : List S45) : Int := match l with | [] => 0 | x :: _ => x.f0
def stepS (W : List Int) (x : S45) (rest : List S45) (st : St) : St := { takeS W (headR rest) (candS W x.f1 x.f0 st) with last := x.f0, lastI := x.f1 }
def loopS (W : List Int) : List S45 → St → St
  | [], st => st
  | x :: rest, st => loopS W rest (stepS W x rest st)
/-- What is found of a text: its places and its score, if all letters are. -/
def oneS (W : List Int) (s : ByteArray) : St := loopS W (letters s) St0
def scoreOf (W : List Int) (s : ByteArray) : Int := wrap64 ((oneS W s).sc + wrap64 (((oneS W s).M.length : Int) - (s.size : Int)))
def findS (W : List Int) : List ByteArray → Nat → List S49
  | [], _ => []
  | s :: r, i => if (oneS W s).M.length = W.length then (⟨s, (i : Int), (oneS W s).M, scoreOf W s⟩ : S49) :: findS W r (i + 1) else findS W r (i + 1)
/-- A text without NUL. -/
def noNul (s : ByteArray) : Bool := s.data.toList.all (fun b => b != 0)

/-- What holds of the state ahead of a letter. -/
structure Inv (W : List Int) (rest : List S45) (st : St) : Prop where
  pm : st.pi = st.M.length
  room : rest ≠ [] → st.pi < W.length
  le : st.pi ≤ W.length
  b : -1 ≤ st.best
  lr : okR st.last
theorem headR_ok {l : List S45} (h : ∀ x ∈ l, okR x.f0) : okR (headR l) := by
  cases l with
  | nil => exact ⟨by decide, by decide⟩
  | cons x l => exact h x (by simp)
theorem nextP_ok (W : List Int) (pi : Nat) (h : ∀ x ∈ W, okR x) : okR (nextP W pi) := by
  unfold nextP
  split
  · rename_i hl
    rw [List.getD_eq_getElem?_getD, List.getElem?_eq_getElem hl]
    exact h _ (List.getElem_mem hl)
  · exact ⟨by decide, by decide⟩
theorem sfold_zero : sfold 0 = 0 := by kernel_rfl
theorem alike_zero (c : Int) : alikeB 0 c = (0 == c) := by
  unfold alikeB
  rw [sfold_zero, sfold_zero, sfold_zero]
  cases (0 == c : Bool) <;> rfl
theorem candS_keeps (W : List Int) (j r : Int) (st : St) : (candS W j r st).pi = st.pi ∧ (candS W j r st).M = st.M ∧ (candS W j r st).sc = st.sc ∧ (candS W j r st).last = st.last ∧ (candS W j r st).lastI = st.lastI := by
  unfold candS
  split
  · split <;> exact ⟨rfl, rfl, rfl, rfl, rfl⟩
  · exact ⟨rfl, rfl, rfl, rfl, rfl⟩
theorem candS_best (W : List Int) (j r : Int) (st : St) (h : -1 ≤ st.best) : -1 ≤ (candS W j r st).best := by
  unfold candS
  split
  · split
    · rename_i h2; show -1 ≤ scoreS j r st; omega
    · exact h
  · exact h
theorem inv_step (W : List Int) (x : S45) (rest : List S45) (st : St) (h : Inv W (x :: rest) st) (hr : ∀ y ∈ rest, okR y.f0 ∧ y.f0 ≠ 0) (hx : okR x.f0) : Inv W rest (stepS W x rest st) := by
  obtain ⟨k1, k2, k3, k4, k5⟩ := candS_keeps W x.f1 x.f0 st
  have kb := candS_best W x.f1 x.f0 st h.b
  have hpl := h.room (by simp)
  have hpm := h.pm
  unfold stepS takeS
  split
  · rename_i hc
    split
    · refine ⟨?_, fun hne => ?_, ?_, ?_, hx⟩
      · simp only [List.length_append, List.length_cons, List.length_nil, k1, k2]; omega
      · simp only [k1] at hc ⊢
        by_cases hl : st.pi + 1 < W.length
        · exact hl
        · exfalso
          unfold nextP at hc
          rw [if_neg hl, alike_zero] at hc
          cases rest with
          | nil => exact hne rfl
          | cons y rest =>
            have := (hr y (by simp)).2
            simp [headR] at hc
            rcases hc with hc | hc
            · exact this hc.symm
            · exact this hc
      · simp only [k1]; omega
      · simp
    · exact ⟨by simp only [k1, k2]; exact hpm, fun _ => by simp only [k1]; exact hpl, by simp only [k1]; omega, kb, hx⟩
  · exact ⟨by simp only [k1, k2]; exact hpm, fun _ => by simp only [k1]; exact hpl, by simp only [k1]; omega, kb, hx⟩
theorem inv_start (W : List Int) (l : List S45) (h : 0 < W.length) : Inv W l St0 := ⟨rfl, fun _ => h, Nat.zero_le _, by decide, ⟨by decide, by decide⟩⟩
end Go.Proofs.YtgeimklpcfepaaaDoor
