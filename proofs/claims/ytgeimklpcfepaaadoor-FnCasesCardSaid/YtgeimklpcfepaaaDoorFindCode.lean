/- What FindFromNoSort does with a text, as a plain function: nothing of the program's memory. -/
import Derived.Test.YtgeimklpcfepaaaDoorOrbit
import Derived.Test.YtgeimklpcfepaaaDoorExtLetters
import Derived.Test.YtgeimklpcfepaaaDoorExtFold
import Derived.Test.YtgeimklpcfepaaaDoorPureAlike
import Derived.Lib.MapLaws
import Derived.Test.YtgeimklpcfepaaaDoorShelf
import Derived.Shelf.GgSortMore.Iface
import Derived.Deep.QuietTactic
import Derived.RegionTactic
import Derived.Test.YtgeimklpcfepaaaDoorTexts
import Derived.Deep.DeepCutAuto
import Derived.Deep.CutBlock
import Derived.Deep.CutRange
namespace Go.Proofs.YtgeimklpcfepaaaDoor
open Go.RowKit Go.Lib Go.Proofs.YtgeimklpcfepaaaDoorW.PrintWords Go.Proofs.YtgeimklpcfepaaaDoorW.PrintMore
open P
set_option linter.unusedVariables false
set_option linter.unusedSimpArgs false

/-- The loop's state over a text's letters: the pattern's next letter; the best sum of its candidates so far, and where; the sum of bonuses; what is taken; the score; the last letter, and where it stands. -/
structure St where
  pi : Nat
  best : Int
  midx : Int
  curr : Int
  M : List Int
  sc : Int
  last : Int
  lastI : Int
def St0 : St := ⟨0, -1, -1, 0, [], 0, 0, 0⟩
def baseS (j last r : Int) : Int := (if j = 0 then 10 else 0) + ((if (isLowerU last && isUpperU r) = true then 20 else 0) + (if j ≠ 0 ∧ sepR last = true then 20 else 0))
def bonusS (M : List Int) (lastI curr : Int) : Int := if M.getLastD 0 = lastI then wrap64 (wrap64 (curr * 2) + 5) else 0
def scoreS (j r : Int) (st : St) : Int := if st.M = [] then baseS j st.last r else wrap64 (baseS j st.last r + bonusS st.M st.lastI st.curr)
def currS (st : St) : Int := if st.M = [] then st.curr else wrap64 (st.curr + bonusS st.M st.lastI st.curr)
/-- A letter, as a candidate. -/
def candS (W : List Int) (j r : Int) (st : St) : St :=
  if alikeB r (W.getD st.pi 0) = true then
    (if scoreS j r st > st.best then { st with best := scoreS j r st, midx := j, curr := currS st } else { st with curr := currS st })
  else st
/-- The best candidate, taken, where the next letter is the pattern's next one, or there is none. -/
def nextP (W : List Int) (pi : Nat) : Int := if pi + 1 < W.length then W.getD (pi + 1) 0 else 0
def bestS (st : St) : Int := if st.M = [] then wrap64 (st.best + (if wrap64 (st.midx * -5) > -15 then wrap64 (st.midx * -5) else -15)) else st.best
def takeS (W : List Int) (nc : Int) (st : St) : St :=
  if (alikeB (nextP W st.pi) nc || nc == 0) = true then
    (if st.midx > -1 then { st with sc := wrap64 (st.sc + bestS st), M := st.M ++ [st.midx], best := -1, pi := st.pi + 1 } else st)
  else st
def headR (l : List S45) : Int := match l with | [] => 0 | x :: _ => x.f0
def stepS (W : List Int) (x : S45) (rest : List S45) (st : St) : St := { takeS W (headR rest) (candS W x.f1 x.f0 st) with last := x.f0, lastI := x.f1 }
def loopS (W : List Int) : List S45 → St → St
  | [], st => st
  | x :: rest, st => loopS W rest (stepS W x rest st)
/-- What is found of a text: its places and its score, if all letters are. -/
def oneS (W : List Int) (s : ByteArray) : St := loopS W (letters s) St0
def scoreOf (W : List Int) (s : ByteArray) : Int := wrap64 ((oneS W s).sc + wrap64 (((oneS W s).M.length : Int) - (s.size : Int)))
def findS (W : List Int) : List ByteArray → Nat → List S49
  | [], _ => []
  | s :: r, i => if (oneS W s).M.length = W.length then (⟨s, (i : Int), (oneS W s).M, scoreOf W s⟩ : S49) :: findS W r (i + 1) else findS W r (i + 1)
/-- A text without NUL. -/
def noNul (s : ByteArray) : Bool := s.data.toList.all (fun b => b != 0)

/-- What holds of the state ahead of a letter. -/
structure Inv (W : List Int) (rest : List S45) (st : St) : Prop where
  pm : st.pi = st.M.length
  room : rest ≠ [] → st.pi < W.length
  le : st.pi ≤ W.length
  b : -1 ≤ st.best
  lr : okR st.last
theorem headR_ok {l : List S45} (h : ∀ x ∈ l, okR x.f0) : okR (headR l) := by
  cases l with
  | nil => exact ⟨by decide, by decide⟩
  | cons x l => exact h x (by simp)
theorem nextP_ok (W : List Int) (pi : Nat) (h : ∀ x ∈ W, okR x) : okR (nextP W pi) := by
  unfold nextP
  split
  · rename_i hl
    rw [List.getD_eq_getElem?_getD, List.getElem?_eq_getElem hl]
    exact h _ (List.getElem_mem hl)
  · exact ⟨by decide, by decide⟩
theorem sfold_zero : sfold 0 = 0 := by kernel_rfl
theorem alike_zero (c : Int) : alikeB 0 c = (0 == c) := by
  unfold alikeB
  rw [sfold_zero, sfold_zero, sfold_zero]
  cases (0 == c : Bool) <;> rfl
theorem candS_keeps (W : List Int) (j r : Int) (st : St) : (candS W j r st).pi = st.pi ∧ (candS W j r st).M = st.M ∧ (candS W j r st).sc = st.sc ∧ (candS W j r st).last = st.last ∧ (candS W j r st).lastI = st.lastI := by
  unfold candS
  split
  · split <;> exact ⟨rfl, rfl, rfl, rfl, rfl⟩
  · exact ⟨rfl, rfl, rfl, rfl, rfl⟩
theorem candS_best (W : List Int) (j r : Int) (st : St) (h : -1 ≤ st.best) : -1 ≤ (candS W j r st).best := by
  unfold candS
  split
  · split
    · rename_i h2; show -1 ≤ scoreS j r st; omega
    · exact h
  · exact h
theorem inv_step (W : List Int) (x : S45) (rest : List S45) (st : St) (h : Inv W (x :: rest) st) (hr : ∀ y ∈ rest, okR y.f0 ∧ y.f0 ≠ 0) (hx : okR x.f0) : Inv W rest (stepS W x rest st) := by
  obtain ⟨k1, k2, k3, k4, k5⟩ := candS_keeps W x.f1 x.f0 st
  have kb := candS_best W x.f1 x.f0 st h.b
  have hpl := h.room (by simp)
  have hpm := h.pm
  unfold stepS takeS
  split
  · rename_i hc
    split
    · refine ⟨?_, fun hne => ?_, ?_, ?_, hx⟩
      · simp only [List.length_append, List.length_cons, List.length_nil, k1, k2]; omega
      · simp only [k1] at hc ⊢
        by_cases hl : st.pi + 1 < W.length
        · exact hl
        · exfalso
          unfold nextP at hc
          rw [if_neg hl, alike_zero] at hc
          cases rest with
          | nil => exact hne rfl
          | cons y rest =>
            have := (hr y (by simp)).2
            simp [headR] at hc
            rcases hc with hc | hc
            · exact this hc.symm
            · exact this hc
      · simp only [k1]; omega
      · simp
    · exact ⟨by simp only [k1, k2]; exact hpm, fun _ => by simp only [k1]; exact hpl, by simp only [k1]; omega, kb, hx⟩
  · exact ⟨by simp only [k1, k2]; exact hpm, fun _ => by simp only [k1]; exact hpl, by simp only [k1]; omega, kb, hx⟩
theorem inv_start (W : List Int) (l : List S45) (h : 0 < W.length) : Inv W l St0 := ⟨rfl, fun _ => h, Nat.zero_le _, by decide, ⟨by decide, by decide⟩⟩
end Go.Proofs.YtgeimklpcfepaaaDoor
namespace Go.Proofs.YtgeimklpcfepaaaDoor
open Go.RowKit Go.Lib Go.Proofs.YtgeimklpcfepaaaDoorW.PrintWords Go.Proofs.YtgeimklpcfepaaaDoorW.PrintMore
open P
set_option linter.unusedVariables false
set_option linter.unusedSimpArgs false

def Box (s : ByteArray) (idx sc : Int) (vM : Value) : Obj := .cells #[.string s, .int .i64 idx, vM, .int .i64 sc] 49 (0, 0)
structure Mem (w0 wx : World) (B : Nat) (s : ByteArray) (idx sc : Int) (vM : Value) (M : List Int) (v6 : Value) (L : List S49) (vR : Value) (W : List Int) : Prop where
 box : wx.heap[B]? = some (Box s idx sc vM)
 row : (Kd.int .i64).R 3 wx w0.heap.size (fun _ => True) vM M
 out : Kd.R k49 49 wx w0.heap.size (fun k => k ≠ B ∧ some k ≠ vM.ownBlock) v6 L
 pat : (Kd.int .i32).R 21 wx w0.heap.size (fun _ => True) vR W
 below : Below w0.heap.size w0 wx
 base : w0.heap.size ≤ B
section
variable {w0 wx wy : World} {B : Nat} {s : ByteArray} {idx sc : Int} {vM : Value} {M : List Int} {v6 : Value} {L : List S49} {vR : Value} {W : List Int}
theorem Mem.move (h : Mem w0 wx B s idx sc vM M v6 L vR W) (hb : Below wx.heap.size wx wy) : Mem w0 wy B s idx sc vM M v6 L vR W :=
 ⟨(hb.block B (blk_lt h.box)).trans h.box, Kd.R_below h.row hb, Kd.R_below h.out hb, Kd.R_below h.pat hb, below_step h.below hb, h.base⟩
theorem Mem.cells (h : Mem w0 wx B s idx sc vM M v6 L vR W) : wx.cell? ⟨B, 0, none⟩ = some (.string s) ∧ wx.cell? ⟨B, 1, none⟩ = some (.int .i64 idx) ∧ wx.cell? ⟨B, 2, none⟩ = some vM ∧ wx.cell? ⟨B, 3, none⟩ = some (.int .i64 sc) := by
 have hb : wx.heap[B]? = some (.cells #[.string s, .int .i64 idx, vM, .int .i64 sc] 49 (0, 0)) := h.box
 exact ⟨blk_cell hb 0, blk_cell hb 1, blk_cell hb 2, blk_cell hb 3⟩
theorem Mem.free (h : Mem w0 wx B s idx sc vM M v6 L vR W) (i : Nat) : wx.frozen? ⟨B, i, none⟩ = false := by
 have hb : wx.heap[B]? = some (.cells #[.string s, .int .i64 idx, vM, .int .i64 sc] 49 (0, 0)) := h.box
 exact blk_frozen hb i
theorem Mem.vM_ne (h : Mem w0 wx B s idx sc vM M v6 L vR W) : some B ≠ vM.ownBlock := by
 have hb : wx.heap[B]? = some (.cells #[.string s, .int .i64 idx, vM, .int .i64 sc] 49 (0, 0)) := h.box
 exact Kd.R_ne h.row hb (by decide)
theorem Mem.store3 (h : Mem w0 wx B s idx sc vM M v6 L vR W) (sc' : Int) : Mem w0 (wx.setCell ⟨B, 3, none⟩ (.int .i64 sc')) B s idx sc' vM M v6 L vR W := by
 have hb : wx.heap[B]? = some (.cells #[.string s, .int .i64 idx, vM, .int .i64 sc] 49 (0, 0)) := h.box
 have hB := h.base
 refine ⟨blk_set hb 3 _, Kd.R_set h.row hb (by decide) 3 _, Kd.R_far h.out (fun k hk => hk.1) _, Kd.R_set h.pat hb (by decide) 3 _, h.below.setCell (p := ⟨B, 3, none⟩) hB _, hB⟩
/-- Behind an append to what is taken, and its store into the box. -/
theorem Mem.append (h : Mem w0 wx B s idx sc vM M v6 L vR W) {w1 : World} {v1 : Value} {m : Int} (ho : (Kd.int .i64).R 3 w1 w0.heap.size (fun _ => True) v1 (M ++ [m])) (hb : Below w0.heap.size w0 w1) (hg : wx.grownBy w1 vM.ownBlock)
 (hat : v1.ownBlock = vM.ownBlock ∨ ∃ b, v1.ownBlock = some b ∧ wx.heap.size ≤ b) :
 w1.heap[B]? = some (Box s idx sc vM) ∧ Mem w0 (w1.setCell ⟨B, 2, none⟩ v1) B s idx sc v1 (M ++ [m]) v6 L vR W := by
 have hbx : wx.heap[B]? = some (.cells #[.string s, .int .i64 idx, vM, .int .i64 sc] 49 (0, 0)) := h.box
 have hb1 : w1.heap[B]? = some (.cells #[.string s, .int .i64 idx, vM, .int .i64 sc] 49 (0, 0)) := blk_grown hbx hg h.vM_ne
 have hB := h.base
 have hout : Kd.R k49 49 w1 w0.heap.size (fun k => k ≠ B ∧ some k ≠ v1.ownBlock) v6 L := by
  refine Kd.R_mono (Kd.R_grown (Kd.R_bound h.out) hg (fun k hk => hk.1.2)) (fun k hk => ⟨hk.1.1, ?_⟩)
  rcases hat with hat | ⟨b, hb2, hle⟩
  · rw [hat]; exact hk.1.2
  · rw [hb2]; intro he; injection he with he; have := hk.2.2.1; omega
 have hpat : (Kd.int .i32).R 21 w1 w0.heap.size (fun _ => True) vR W := by
  obtain ⟨inner, ho2⟩ := Kd.R_own h.row
  refine Kd.R_mono (Kd.R_grown (Kd.R_bound h.pat) hg (fun k hk => ?_)) (fun k _ => trivial)
  intro he
  obtain ⟨cells, hc⟩ := own_typed ho2 k he.symm
  obtain ⟨_, _, _, q, hq, cells2, hc2⟩ := hk
  rw [hc] at hc2
  injection hc2 with hc2
  injection hc2 with _ hc2
  subst hc2
  exact absurd hq (by decide)
 refine ⟨hb1, blk_set hb1 2 _, Kd.R_set ho hb1 (by decide) 2 _, Kd.R_far hout (fun k hk => hk.1) _, Kd.R_set hpat hb1 (by decide) 2 _, hb.setCell (p := ⟨B, 2, none⟩) hB _, hB⟩
end

section
variable {w0 wx wr : World} {B : Nat} {s : ByteArray} {idx sc : Int} {vM : Value} {M : List Int} {v6 : Value} {L : List S49} {vR : Value} {W : List Int} {v7 : Value}
theorem mem_start {w2 : World} (s : ByteArray) (ho : Kd.R k49 49 wr w0.heap.size (fun k => some k ≠ v7.ownBlock) v6 L) (hp : (Kd.int .i32).R 21 wr w0.heap.size (fun _ => True) vR W) (hb0 : Below w0.heap.size w0 wr) (hb : Below wr.heap.size wr w2) :
 Mem w0 (w2.alloc (.cells #[.string s, .int .i64 0, .slice none 0 0, .int .i64 0] 49)) w2.heap.size s 0 0 (.slice none 0 0) [] v6 L vR W ∧ Kd.R k49 49 (w2.alloc (.cells #[.string s, .int .i64 0, .slice none 0 0, .int .i64 0] 49)) w0.heap.size (fun k => k ≠ w2.heap.size ∧ some k ≠ v7.ownBlock) v6 L := by
 have hb2 : Below w0.heap.size w0 w2 := below_step hb0 hb
 have hz : w0.heap.size ≤ w2.heap.size := below_size hb2
 have h1 : Kd.R k49 49 w2 w0.heap.size (fun k => k ≠ w2.heap.size ∧ some k ≠ v7.ownBlock) v6 L := Kd.R_mono (Kd.R_bound (Kd.R_below ho hb)) (fun k hk => ⟨by have := hk.2.2.1; omega, hk.1⟩)
 have h2 := Kd.R_alloc h1 (.cells #[.string s, .int .i64 0, .slice none 0 0, .int .i64 0] 49)
 exact ⟨⟨heap_alloc_new w2 _, Kd.R_nil _ _ _ _ _, Kd.R_mono h2 (fun k hk => ⟨hk.1, by simp [Value.ownBlock]⟩), Kd.R_alloc (Kd.R_below hp hb) _, below_alloc hb2 _, hz⟩, h2⟩
theorem Mem.store1 (h : Mem w0 wx B s idx sc vM M v6 L vR W) (idx' : Int) : Mem w0 (wx.setCell ⟨B, 1, none⟩ (.int .i64 idx')) B s idx' sc vM M v6 L vR W := by
 have hb : wx.heap[B]? = some (.cells #[.string s, .int .i64 idx, vM, .int .i64 sc] 49 (0, 0)) := h.box
 have hB := h.base
 exact ⟨blk_set hb 1 _, Kd.R_set h.row hb (by decide) 1 _, Kd.R_far h.out (fun k hk => hk.1) _, Kd.R_set h.pat hb (by decide) 1 _, h.below.setCell (p := ⟨B, 1, none⟩) hB _, hB⟩
theorem Mem.put (h : Mem w0 wx B s idx sc vM M v6 L vR W) {v : Value} {M2 : List Int} (hr : (Kd.int .i64).R 3 wx w0.heap.size (fun _ => True) v M2) (ho : Kd.R k49 49 wx w0.heap.size (fun k => k ≠ B ∧ some k ≠ v.ownBlock) v6 L) : Mem w0 (wx.setCell ⟨B, 2, none⟩ v) B s idx sc v M2 v6 L vR W := by
 have hb : wx.heap[B]? = some (.cells #[.string s, .int .i64 idx, vM, .int .i64 sc] 49 (0, 0)) := h.box
 have hB := h.base
 exact ⟨blk_set hb 2 _, Kd.R_set hr hb (by decide) 2 _, Kd.R_far ho (fun k hk => hk.1) _, Kd.R_set h.pat hb (by decide) 2 _, h.below.setCell (p := ⟨B, 2, none⟩) hB _, hB⟩
theorem Mem.grown (h : Mem w0 wx B s idx sc vM M v6 L vR W) {w1 : World} (hb : Below w0.heap.size w0 w1) (hg : wx.grownBy w1 none) : Mem w0 w1 B s idx sc vM M v6 L vR W := by
 have hbx : wx.heap[B]? = some (.cells #[.string s, .int .i64 idx, vM, .int .i64 sc] 49 (0, 0)) := h.box
 exact ⟨blk_grown hbx hg (by simp), Kd.R_grown h.row hg (fun _ _ => by simp), Kd.R_grown h.out hg (fun _ _ => by simp), Kd.R_grown h.pat hg (fun _ _ => by simp), hb, h.base⟩
theorem out_fresh2 {v : Value} (h : Kd.R k49 49 wx w0.heap.size (fun k => k ≠ B ∧ some k ≠ v7.ownBlock) v6 L) {w1 : World} (hg : wx.grownBy w1 none) (hv : ∃ b, v.ownBlock = some b ∧ wx.heap.size ≤ b) : Kd.R k49 49 w1 w0.heap.size (fun k => k ≠ B ∧ some k ≠ v.ownBlock) v6 L := by
 obtain ⟨b, e, hle⟩ := hv
 refine Kd.R_mono (Kd.R_grown (Kd.R_bound h) hg (fun _ _ => by simp)) (fun k hk => ⟨hk.1.1, ?_⟩)
 rw [e]; intro he; injection he with he
 have := hk.2.2.1; omega
/-- A fresh row is none of the rows that are told. -/
theorem out_fresh {v : Value} (h : Kd.R k49 49 wx w0.heap.size (fun k => k ≠ B ∧ some k ≠ v7.ownBlock) v6 L) {w1 : World} (hb : Below wx.heap.size wx w1) (hv : ∃ b, v.ownBlock = some b ∧ wx.heap.size ≤ b) : Kd.R k49 49 w1 w0.heap.size (fun k => k ≠ B ∧ some k ≠ v.ownBlock) v6 L := by
 obtain ⟨b, e, hle⟩ := hv
 refine Kd.R_mono (Kd.R_below (Kd.R_bound h) hb) (fun k hk => ⟨hk.1.1, ?_⟩)
 rw [e]; intro he; injection he with he
 have := hk.2.2.1; omega
end
theorem pat_grown {w0 wx w1 : World} {B : Nat} {s : ByteArray} {idx sc : Int} {vM : Value} {M : List Int} {v6 : Value} {L : List S49} {vR : Value} {W : List Int} (h : Mem w0 wx B s idx sc vM M v6 L vR W) (hg : wx.grownBy w1 v6.ownBlock) : (Kd.int .i32).R 21 w1 w0.heap.size (fun _ => True) vR W := by
 obtain ⟨inner, ho⟩ := Kd.R_own h.out
 refine Kd.R_mono (Kd.R_grown (Kd.R_bound h.pat) hg (fun k hk => ?_)) (fun k _ => trivial)
 intro he
 obtain ⟨cells, hc⟩ := own_typed ho k he.symm
 obtain ⟨_, _, _, q, hq, cells2, hc2⟩ := hk
 rw [hc] at hc2
 injection hc2 with hc2
 injection hc2 with _ hc2
 subst hc2
 exact absurd hq (by decide)
/-- 'xs[:0]': the same block, no elements. -/
theorem R_empty {w : World} {base : Nat} {A : Option Addr} {n c : Nat} {xs : List Int} (h : (Kd.int .i64).R 3 w base (fun _ => True) (.slice A n c) xs) : (Kd.int .i64).R 3 w base (fun _ => True) (.slice A 0 c) [] := by
 obtain ⟨inner, ho⟩ := Kd.R_own h
 obtain ⟨h1, h2⟩ := ho
 rcases h2 with ⟨e, hn⟩ | ⟨g, cap, cur, e, hg, hh, h3, h4, h5, h6⟩
 · injection e with e1 e2 e3
   subst e1 e3
   exact Kd.R_nil _ _ _ _ _
 · injection e with e1 e2 e3
   subst e1 e3
   exact ⟨fun k hk => trivial, [], ⟨rfl, Or.inr ⟨g, _, cur, rfl, hg, hh, Nat.zero_le _, h4, h5, by simp⟩⟩, Reps.none _ _⟩
theorem row_apart {w0 wx : World} {B : Nat} {s : ByteArray} {idx sc : Int} {vM : Value} {M : List Int} {v6 : Value} {L : List S49} {vR : Value} {W : List Int} (h : Mem w0 wx B s idx sc vM M v6 L vR W) : (Kd.int .i64).R 3 wx w0.heap.size (fun k => some k ≠ v6.ownBlock) vM M := by
 refine Kd.R_mono (Kd.R_bound h.row) (fun k hk => ?_)
 intro he
 obtain ⟨inner, ho⟩ := Kd.R_own h.out
 obtain ⟨cells, hc⟩ := own_typed ho k he.symm
 obtain ⟨_, _, _, q, hq, cells2, hc2⟩ := hk
 rw [hc] at hc2
 injection hc2 with hc2
 injection hc2 with _ hc2
 subst hc2
 exact absurd hq (by decide)
theorem len_reached (p : Option Addr) (n c : Nat) : Reaches Tryd.prog 51 (.slice p n c) "Len" 72 := ⟨fun _ => by kernel_rfl, enters_of Tryd.func72 (by kernel_rfl) rfl⟩
theorem string_reached (p : Option Addr) (n c : Nat) : Reaches Tryd.prog 51 (.slice p n c) "String" 73 := ⟨fun _ => by kernel_rfl, enters_of Tryd.func73 (by kernel_rfl) rfl⟩
set_option maxHeartbeats 2000000 in
theorem s_Len (p : Option Addr) (n c : Nat) (w : World) : Calls Tryd.prog 72 #[.slice p n c] w fun e w' => e = .returned (.int .i64 n) ∧ Below w.heap.size w w' := by
 have HB := Aside0.mk (Below.refl w.heap.size w)
 go_enter Tryd.func72, Tryd.ntmps72
 go_wp2
 go_ret
 exact ⟨rfl, HB.out⟩
set_option maxHeartbeats 2000000 in
theorem s_String0 (A : Option Addr) (c : Nat) (l : List ByteArray) (x : Int) (w : World) (hC : Kd.C Kd.string w A l.length l) (p0 : 0 ≤ x) (q0 : x < (l.length : Int)) : Calls Tryd.prog 73 #[.slice A l.length c, .int .i64 x] w fun e w' => e = .returned (.string (rdOf ByteArray.empty l x)) ∧ Below w.heap.size w w' := by
 have HB := Aside0.mk (Below.refl w.heap.size w)
 obtain ⟨ad, e, hx⟩ := Kd.at_string hC x p0 q0
 cases e
 replace p0 := eq_true p0
 replace q0 := eq_true q0
 go_enter Tryd.func73, Tryd.ntmps73
 go_wp2
 go_ret
 exact ⟨rfl, HB.out⟩
theorem s_String (A : Option Addr) (c : Nat) (l : List ByteArray) (i : Nat) (w : World) (hC : Kd.C Kd.string w A l.length l) (hi : i < l.length) : Calls Tryd.prog 73 #[.slice A l.length c, .int .i64 i] w fun e w' => e = .returned (.string (l[i])) ∧ Below w.heap.size w w' := by
 have h := s_String0 A c l (i : Int) w hC (by omega) (by omega)
 have hr : rdOf ByteArray.empty l (i : Int) = l[i] := by unfold rdOf; rw [Int.toNat_natCast, List.getD_eq_getElem?_getD, List.getElem?_eq_getElem hi]; rfl
 rwa [hr] at h
theorem decode_width_le (s : ByteArray) (pos : Nat) : (Utf8.decode s pos).2 ≤ 4 := by
 simp only [Utf8.decode]
 repeat' split
 all_goals simp
/-- A byte of ASCII is a letter. -/
theorem decode_byte (s : ByteArray) (pos : Nat) (h : pos < s.size) (hb : bt s (pos : Int) < 128) : bt s (pos : Int) = ((Utf8.decode s pos).1 : Int) ∧ (1 : Int) = ((Utf8.decode s pos).2 : Int) := by
 have h1 : bt s (pos : Int) = ((s.get! pos).toNat : Int) := by
  unfold bt
  rw [dif_pos (by rw [Int.toNat_natCast]; exact h)]
  have hl : pos < s.data.size := h
  show ((s.data[pos]).toNat : Int) = ((s.data[pos]!).toNat : Int)
  rw [getElem!_pos s.data pos hl]
 rw [h1] at hb ⊢
 have h2 : (s.get! pos).toNat < 128 := by omega
 simp [Utf8.decode, h2]
theorem get_nat (s : ByteArray) (pos : Nat) (h : pos < s.size) : bt s (pos : Int) = ((s.get! pos).toNat : Int) := by
 unfold bt
 rw [dif_pos (by rw [Int.toNat_natCast]; exact h)]
 have hl : pos < s.data.size := h
 show ((s.data[pos]).toNat : Int) = ((s.data[pos]!).toNat : Int)
 rw [getElem!_pos s.data pos hl]
theorem noNul_bt (s : ByteArray) (h : noNul s = true) (i : Nat) (hi : i < s.size) : bt s (i : Int) ≠ 0 := by
 unfold noNul at h
 rw [List.all_eq_true] at h
 have hl : i < s.data.size := hi
 have h2 := h (s.data[i]) (by simp)
 unfold bt
 rw [dif_pos (by rw [Int.toNat_natCast]; exact hi)]
 intro e
 have e2 : (s.data[i]).toNat = 0 := by
  have e3 : ((s.data[i]).toNat : Int) = 0 := e
  omega
 simp at h2
 exact h2 (UInt8.toNat_inj.1 e2)
theorem decode_ne_zero (s : ByteArray) (pos : Nat) (h : (s.get! pos).toNat ≠ 0) : (Utf8.decode s pos).1 ≠ 0 := by
 simp only [Utf8.decode, Nat.add_zero]
 repeat' split
 all_goals simp_all [Utf8.runeError]
 all_goals omega
theorem letters_ok (s : ByteArray) (h : noNul s = true) : ∀ (f pos : Nat), ∀ y ∈ lettersFrom s f pos, okR y.f0 ∧ y.f0 ≠ 0
 | 0, _, y, hy => by simp [lettersFrom] at hy
 | f + 1, pos, y, hy => by
  unfold lettersFrom at hy
  split at hy
  · rename_i hp
    rcases List.mem_cons.1 hy with rfl | hy
    · have h1 := noNul_bt s h pos hp
      rw [get_nat s pos hp] at h1
      have h2 := decode_ne_zero s pos (by omega)
      have h3 := decode_fst_lt s pos
      exact ⟨⟨by simp only; omega, by simp only; omega⟩, by simp only; omega⟩
    · exact letters_ok s h f _ y hy
  · simp at hy
theorem eq_calls (a b : Int) (ha : okR a) (hb : okR b) (w : World) (hA : Amb w) : Calls Tryd.prog 34 #[.int .i32 a, .int .i32 b] w fun e w' => e = .returned (.bool (alikeB a b)) ∧ Below w.heap.size w w' := by
 obtain ⟨k, hk⟩ := Ev.rounds (equal_ev a b ha hb)
 exact sahilm_equalFold.calls k a b _ w hA hk
theorem low_calls (a : Int) (ha : okR a) (w : World) (hA : Amb w) : Calls Tryd.prog 35 #[.int .i32 a] w fun e w' => e = .returned (.bool (isLowerU a)) ∧ Below w.heap.size w w' :=
 unicode_IsLower.calls a _ w hA (by unfold unicode_IsLower.f; rw [if_pos (show 0 ≤ a ∧ a ≤ 1114111 from ha)])
theorem up_calls (a : Int) (ha : okR a) (w : World) (hA : Amb w) : Calls Tryd.prog 36 #[.int .i32 a] w fun e w' => e = .returned (.bool (isUpperU a)) ∧ Below w.heap.size w w' :=
 unicode_IsUpper.calls a _ w hA (by unfold unicode_IsUpper.f; rw [if_pos (show 0 ≤ a ∧ a ≤ 1114111 from ha)])
theorem sep_calls (a : Int) (w : World) : Calls Tryd.prog 37 #[.int .i32 a] w fun e w' => e = .returned (.bool (sepR a)) ∧ Below w.heap.size w w' := sahilm_isSeparator.calls a _ w rfl
end Go.Proofs.YtgeimklpcfepaaaDoor
namespace Go.Proofs.YtgeimklpcfepaaaDoor
open Go.RowKit Go.Lib Go.Proofs.YtgeimklpcfepaaaDoorW.PrintWords Go.Proofs.YtgeimklpcfepaaaDoorW.PrintLast Go.Proofs.YtgeimklpcfepaaaDoorW.PrintMore
open P
set_option linter.unusedVariables false
set_option linter.unusedSimpArgs false

def firstLoop : Code → Option Code
  | .loop c => some c
  | .seq a b => match firstLoop a with
    | some c => some c
    | none => firstLoop b
  | .block _ c => firstLoop c
  | .scope c => firstLoop c
  | .cond _ a b => match firstLoop a with
    | some c => some c
    | none => firstLoop b
  | _ => none
def condAt (n : Nat) : Code → Option Code
  | .seq a b => match condAt n a with
    | some c => some c
    | none => condAt n b
  | .block _ c => condAt n c
  | .scope c => condAt n c
  | .cond (.tmp m) a b => if m = n then some (.cond (.tmp m) a b) else match condAt n a with
    | some c => some c
    | none => condAt n b
  | _ => none
noncomputable def outerBody : Code := (Tryd.f27.body.bind firstLoop).getD .skip
noncomputable def innerBody : Code := (firstLoop outerBody).getD .skip
noncomputable def candCode : Code := (condAt 86 innerBody).getD .skip
noncomputable def takeCode : Code := (condAt 177 innerBody).getD .skip
theorem info3 : (Tryd.prog.info? 3).map (fun i => (i.zero, i.size, i.bytes)) = some (some (.int .i64 0), 1, 8) := by kernel_rfl
end Go.Proofs.YtgeimklpcfepaaaDoor
