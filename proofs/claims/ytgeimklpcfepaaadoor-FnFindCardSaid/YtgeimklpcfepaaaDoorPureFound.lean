/- One letter of a pattern: the reference's candidates against the loop over a text's letters. -/
import Derived.Test.YtgeimklpcfepaaaDoorPureScored
import Derived.Test.YtgeimklpcfepaaaDoorFindCode
import Derived.Test.YtgeimklpcfepaaaDoorP8
import Derived.Test.YtgeimklpcfepaaaDoorFindFrom
namespace Go.Proofs.YtgeimklpcfepaaaDoor
open Go.RowKit Go.Lib Go.Proofs.YtgeimklpcfepaaaDoorW.PrintWords Go.Proofs.YtgeimklpcfepaaaDoorW.PrintMore
open P
set_option linter.unusedVariables false
set_option linter.unusedSimpArgs false

/-- What holds of a text's letters. -/
structure Txt (T : List S45) : Prop where
  len : T.length ≤ 1000
  ok : ∀ x ∈ T, okR x.f0
  nz : ∀ x ∈ T, x.f0 ≠ 0
  zero : ∀ h : 0 < T.length, T[0].f1 = 0
  asc : ∀ (i j : Nat) (hij : i < j) (hj : j < T.length), T[i].f1 < T[j].f1
  hi : ∀ x ∈ T, x.f1 ≤ 1000
def Bd : Nat → Nat
  | 0 => 0
  | k + 1 => 3 * Bd k + 5
theorem Bd_mono : ∀ (d k : Nat), Bd k ≤ Bd (k + d)
  | 0, k => Nat.le_refl _
  | d + 1, k => by have := Bd_mono d k; show Bd k ≤ 3 * Bd (k + d) + 5; omega
theorem Bd_38 : Bd 38 ≤ 4000000000000000000 := by decide
theorem Bd_le (k : Nat) (h : k ≤ 38) : Bd k ≤ 4000000000000000000 := by
  have h1 := Bd_mono (38 - k) k
  rw [show k + (38 - k) = 38 by omega] at h1
  exact Nat.le_trans h1 Bd_38
theorem Bd_37 : Bd 37 ≤ 1400000000000000000 := by decide
theorem Bd_le37 (k : Nat) (h : k ≤ 37) : Bd k ≤ 1400000000000000000 := by
  have h1 := Bd_mono (37 - k) k
  rw [show k + (37 - k) = 37 by omega] at h1
  exact Nat.le_trans h1 Bd_37
theorem stopP_spec (T : List S45) (nx : Int) (any : Bool) : ∀ (d i : Nat), i + d = T.length → 0 < d →
    i ≤ stopP T nx any d i ∧ stopP T nx any d i < T.length ∧ (∀ q, i ≤ q → q < stopP T nx any d i → q + 1 ≠ T.length ∧ (any && alikeB ((T.getD (q + 1) z45).f0) nx) = false) ∧
      (stopP T nx any d i + 1 = T.length ∨ (any && alikeB ((T.getD (stopP T nx any d i + 1) z45).f0) nx) = true)
  | 0, i, h, h0 => by omega
  | d + 1, i, h, h0 => by
    rw [stopP]
    by_cases he : i + 1 = T.length
    · rw [if_pos he]
      exact ⟨Nat.le_refl _, by omega, fun q h1 h2 => by omega, Or.inl he⟩
    · rw [if_neg he]
      by_cases hc : (any && alikeB ((T.getD (i + 1) z45).f0) nx) = true
      · rw [if_pos hc]
        exact ⟨Nat.le_refl _, by omega, fun q h1 h2 => by omega, Or.inr hc⟩
      · rw [if_neg hc]
        obtain ⟨s1, s2, s3, s4⟩ := stopP_spec T nx any d (i + 1) (by omega) (by omega)
        refine ⟨by omega, s2, fun q h1 h2 => ?_, s4⟩
        by_cases hq : q = i
        · subst hq; exact ⟨he, by simpa using hc⟩
        · exact s3 q (by omega) h2
theorem firstP_spec (T : List S45) (r : Int) : ∀ (d i : Nat), i + d = T.length →
    i ≤ firstP T r d i ∧ firstP T r d i ≤ T.length ∧ (∀ q, i ≤ q → q < firstP T r d i → alikeB ((T.getD q z45).f0) r = false) ∧ (firstP T r d i < T.length → alikeB ((T.getD (firstP T r d i) z45).f0) r = true)
  | 0, i, h => ⟨Nat.le_refl _, by show i ≤ _; omega, fun q h1 h2 => by have : q < i := h2; omega, fun h1 => by have : i < T.length := h1; omega⟩
  | d + 1, i, h => by
    rw [firstP]
    by_cases hc : alikeB ((T.getD i z45).f0) r = true
    · rw [if_pos hc]
      exact ⟨Nat.le_refl _, by omega, fun q h1 h2 => by omega, fun _ => hc⟩
    · rw [if_neg hc]
      obtain ⟨s1, s2, s3, s4⟩ := firstP_spec T r d (i + 1) (by omega)
      refine ⟨by omega, s2, fun q h1 h2 => ?_, s4⟩
      by_cases hq : q = i
      · subst hq; simpa using hc
      · exact s3 q (by omega) h2
theorem getT (T : List S45) (i : Nat) (h : i < T.length) : T.getD i z45 = T[i] := by rw [List.getD_eq_getElem?_getD, List.getElem?_eq_getElem h]; rfl
/-- The letter ahead of a place, as the loop keeps it. -/
def PrevAt (T : List S45) (q : Nat) (st : St) : Prop := (q = 0 → st.last = 0) ∧ (∀ h : 0 < q ∧ q ≤ T.length, st.last = (T[q - 1]'(by omega)).f0 ∧ st.lastI = (T[q - 1]'(by omega)).f1)
theorem low0 : isLowerU 0 = false := by kernel_rfl
theorem sep0 : sepR 0 = false := by rw [sepR_eq]; rfl
theorem worth_bd (T : List S45) (q : Nat) : 0 ≤ worthP T q ∧ worthP T q ≤ 40 := by
  unfold worthP
  split
  · omega
  · split <;> split <;> omega
theorem base_worth {T : List S45} (hT : Txt T) {q : Nat} (hq : q < T.length) {st : St} (hp : PrevAt T q st) : baseS T[q].f1 st.last T[q].f0 = worthP T q := by
  unfold baseS worthP
  by_cases h0 : q = 0
  · subst h0
    have z := hT.zero hq
    rw [hp.1 rfl, z, if_pos rfl, if_pos rfl, low0, Bool.false_and, if_neg (by decide), if_neg (by simp)]
    rfl
  · have h1 := (hp.2 ⟨by omega, by omega⟩).1
    have h2 : T[q].f1 ≠ 0 := by
      have := hT.asc 0 q (by omega) hq
      have z := hT.zero (by omega)
      omega
    rw [if_neg h0, if_neg h2, getT T q hq, getT T (q - 1) (by omega), h1]
    simp only [Int.zero_add]
    congr 1
    by_cases hs : sepR (T[q - 1]'(by omega)).f0 = true
    · rw [if_pos hs, if_pos ⟨h2, hs⟩]
    · rw [if_neg hs, if_neg (fun h => hs h.2)]
/-- What holds within a letter's candidates: places that are taken, the candidate in hand, the sums. -/
structure Rnd (T : List S45) (kk q b : Nat) (sum taken best : Int) (wh : Nat) (st : St) : Prop where
  k38 : kk ≤ 38
  qb : b ≤ q
  pi : st.pi = kk
  len : st.M.length = kk
  bst : st.best = best
  cur : st.curr = sum
  lst : PrevAt T q st
  s0 : 0 ≤ sum
  s1 : sum ≤ Bd (kk - 1) ∨ (sum ≤ Bd kk ∧ taken + 1 < q)
  mid : (best = -1 ∧ q = b) ∨ (0 ≤ best ∧ wh < q ∧ ∃ h : wh < T.length, st.midx = T[wh].f1)
  prev : (kk = 0 ∧ taken = -2) ∨ (0 < kk ∧ ∃ tk : Nat, taken = (tk : Int) ∧ tk < q ∧ ∃ h : tk < T.length, st.M.getLastD 0 = T[tk].f1)
def nS (T : List S45) (q : Nat) (sum taken : Int) : Int := if (q : Int) = wrap64 (taken + 1) then wrap64 (wrap64 (worthP T q + wrap64 (2 * sum)) + 5) else worthP T q
def sumS (q : Nat) (sum taken : Int) : Int := if (q : Int) = wrap64 (taken + 1) then wrap64 (wrap64 (sum + wrap64 (2 * sum)) + 5) else sum
/-- The loop's candidate is the reference's. -/
theorem Rnd.vals {T : List S45} (hT : Txt T) {kk q b : Nat} {sum taken best : Int} {wh : Nat} {st : St} (h : Rnd T kk q b sum taken best wh st) (hq : q < T.length) :
    scoreS T[q].f1 T[q].f0 st = nS T q sum taken ∧ currS st = sumS q sum taken ∧ 0 ≤ nS T q sum taken ∧ 0 ≤ sumS q sum taken ∧
      (sumS q sum taken ≤ Bd (kk - 1) ∨ (sumS q sum taken ≤ Bd kk ∧ taken + 1 < (q + 1 : Nat))) := by
  have hb := base_worth hT hq h.lst
  have hw := worth_bd T q
  have s0 := h.s0
  have s1 := h.s1
  have cur := h.cur
  have k38 := h.k38
  have hl := hT.len
  have B1 := Bd_le kk k38
  have B2 := Bd_le37 (kk - 1) (by omega)
  have BM : Bd (kk - 1) ≤ Bd kk := by
    have := Bd_mono 1 (kk - 1)
    by_cases h0 : kk = 0
    · subst h0; exact Nat.le_refl _
    · rwa [show kk - 1 + 1 = kk by omega] at this
  unfold scoreS currS nS sumS
  rw [hb, cur]
  rcases h.prev with ⟨k0, tk0⟩ | ⟨k0, tk, tk1, tk2, tk3, tk4⟩
  · have hM : st.M = [] := List.eq_nil_of_length_eq_zero (by rw [h.len, k0])
    have hne : ¬ ((q : Int) = wrap64 (taken + 1)) := by rw [tk0, wrp (by omega) (by omega)]; omega
    rw [if_pos hM, if_pos hM, if_neg hne, if_neg hne]
    refine ⟨rfl, rfl, hw.1, s0, ?_⟩
    rcases s1 with s1 | s1
    · exact Or.inl s1
    · exact Or.inr ⟨s1.1, by omega⟩
  · have hM : st.M ≠ [] := fun e => by have := h.len; rw [e] at this; simp at this; omega
    rw [if_neg hM, if_neg hM]
    have hlast := (h.lst.2 ⟨by omega, by omega⟩).2
    have hwt : wrap64 (taken + 1) = taken + 1 := wrp (by omega) (by omega)
    unfold bonusS
    rw [hlast, tk4, hwt]
    have heq : (T[tk].f1 = (T[q - 1]'(by omega)).f1) ↔ ((q : Int) = taken + 1) := by
      constructor
      · intro e
        by_cases c : tk < q - 1
        · have := hT.asc tk (q - 1) c (by omega); omega
        · omega
      · intro e
        have : q - 1 = tk := by omega
        simp only [this]
    by_cases hc : (q : Int) = taken + 1
    · rw [if_pos (heq.2 hc), if_pos hc, if_pos hc]
      have hs : sum ≤ Bd (kk - 1) := by
        rcases s1 with s1 | s1
        · exact s1
        · omega
      have hB : (Bd kk : Int) = 3 * (Bd (kk - 1) : Int) + 5 := by
        have : Bd kk = 3 * Bd (kk - 1) + 5 := by
          conv => lhs; rw [show kk = (kk - 1) + 1 by omega]
          rfl
        omega
      have e1 : wrap64 (sum * 2) = 2 * sum := by rw [wrp (by omega) (by omega)]; omega
      have e2 : wrap64 (2 * sum) = 2 * sum := wrp (by omega) (by omega)
      have e3 : wrap64 (2 * sum + 5) = 2 * sum + 5 := wrp (by omega) (by omega)
      have e4 : wrap64 (worthP T q + 2 * sum) = worthP T q + 2 * sum := wrp (by omega) (by omega)
      have e5 : wrap64 (sum + 2 * sum) = sum + 2 * sum := wrp (by omega) (by omega)
      rw [e1, e2, e3, e4, e5]
      rw [wrp (x := worthP T q + (2 * sum + 5)) (by omega) (by omega), wrp (x := worthP T q + 2 * sum + 5) (by omega) (by omega), wrp (x := sum + (2 * sum + 5)) (by omega) (by omega), wrp (x := sum + 2 * sum + 5) (by omega) (by omega)]
      exact ⟨by omega, by omega, by omega, by omega, Or.inr ⟨by omega, by omega⟩⟩
    · rw [if_neg (fun e => hc (heq.1 e)), if_neg hc, if_neg hc, Int.add_zero, Int.add_zero]
      rw [wrp (x := worthP T q) (by omega) (by omega)]
      have e6 : wrap64 sum = sum := by
        rcases s1 with s1 | s1 <;> exact wrp (by omega) (by omega)
      rw [e6]
      refine ⟨rfl, rfl, hw.1, s0, ?_⟩
      rcases s1 with s1 | s1
      · exact Or.inl s1
      · exact Or.inr ⟨s1.1, by omega⟩
/-- The best candidate, where it stands, and the sum of bonuses, behind a letter. -/
def bestN (W : List Int) (T : List S45) (kk q : Nat) (sum taken best : Int) : Int := if alikeB (T.getD q z45).f0 (W.getD kk 0) = true then (if nS T q sum taken > best then nS T q sum taken else best) else best
def whN (W : List Int) (T : List S45) (kk q : Nat) (sum taken best : Int) (wh : Nat) : Nat := if alikeB (T.getD q z45).f0 (W.getD kk 0) = true then (if nS T q sum taken > best then q else wh) else wh
def sumN (W : List Int) (T : List S45) (kk q : Nat) (sum taken : Int) : Int := if alikeB (T.getD q z45).f0 (W.getD kk 0) = true then sumS q sum taken else sum
theorem s1_next {kk q : Nat} {sum taken : Int} (h : sum ≤ Bd (kk - 1) ∨ (sum ≤ Bd kk ∧ taken + 1 < q)) : sum ≤ Bd (kk - 1) ∨ (sum ≤ Bd kk ∧ taken + 1 < (q + 1 : Nat)) := by
  rcases h with h | h
  · exact Or.inl h
  · exact Or.inr ⟨h.1, by omega⟩
/-- A letter's round, in the loop: nothing taken yet. -/
theorem Rnd.cand {W : List Int} {T : List S45} (hT : Txt T) {kk q b : Nat} {sum taken best : Int} {wh : Nat} {st : St} (h : Rnd T kk q b sum taken best wh st) (hq : q < T.length)
    (hf : q = b → alikeB (T.getD q z45).f0 (W.getD kk 0) = true) :
    Rnd T kk (q + 1) b (sumN W T kk q sum taken) taken (bestN W T kk q sum taken best) (whN W T kk q sum taken best wh) { candS W T[q].f1 T[q].f0 st with last := T[q].f0, lastI := T[q].f1 } ∧
      0 ≤ bestN W T kk q sum taken best := by
  obtain ⟨v1, v2, v3, v4, v5⟩ := h.vals hT hq
  have hpv : ∀ S : St, S.last = T[q].f0 → S.lastI = T[q].f1 → PrevAt T (q + 1) S := fun S h1 h2 => ⟨fun e => by omega, fun hh => by
    have e : q + 1 - 1 = q := by omega
    simp only [e]
    exact ⟨h1, h2⟩⟩
  have hprev : (kk = 0 ∧ taken = -2) ∨ (0 < kk ∧ ∃ tk : Nat, taken = (tk : Int) ∧ tk < q + 1 ∧ ∃ hh : tk < T.length, st.M.getLastD 0 = T[tk].f1) := by
    rcases h.prev with p | ⟨p0, tk, p1, p2, p3, p4⟩
    · exact Or.inl p
    · exact Or.inr ⟨p0, tk, p1, by omega, p3, p4⟩
  unfold bestN whN sumN candS
  rw [getT T q hq] at hf
  rw [h.pi, getT T q hq]
  by_cases ha : alikeB T[q].f0 (W.getD kk 0) = true
  · rw [if_pos ha, if_pos ha, if_pos ha, if_pos ha, v1, v2, h.bst]
    by_cases hn : nS T q sum taken > best
    · rw [if_pos hn, if_pos hn, if_pos hn]
      exact ⟨⟨h.k38, by have := h.qb; omega, rfl, h.len, rfl, rfl, hpv _ rfl rfl, v4, v5, Or.inr ⟨v3, by omega, hq, rfl⟩, hprev⟩, v3⟩
    · rw [if_neg hn, if_neg hn, if_neg hn]
      have hb0 : 0 ≤ best := by
        rcases h.mid with m | m
        · omega
        · exact m.1
      refine ⟨⟨h.k38, by have := h.qb; omega, rfl, h.len, rfl, rfl, hpv _ rfl rfl, v4, v5, ?_, hprev⟩, hb0⟩
      rcases h.mid with m | ⟨m1, m2, m3, m4⟩
      · omega
      · exact Or.inr ⟨m1, by omega, m3, m4⟩
  · rw [if_neg ha, if_neg ha, if_neg ha, if_neg ha]
    have hqb : q ≠ b := fun e => ha (hf e)
    rcases h.mid with m | ⟨m1, m2, m3, m4⟩
    · exact absurd m.2 hqb
    · exact ⟨⟨h.k38, by have := h.qb; omega, h.pi, h.len, h.bst, h.cur, hpv _ rfl rfl, h.s0, s1_next h.s1, Or.inr ⟨m1, by omega, m3, m4⟩, hprev⟩, m1⟩
/-- Is the best candidate taken behind a letter? -/
def takeC (W : List Int) (T : List S45) (kk q : Nat) : Bool := alikeB (nextP W kk) (headR (T.drop (q + 1))) || headR (T.drop (q + 1)) == 0
theorem takeC_iff {W : List Int} (hW : ∀ x ∈ W, okR x) {T : List S45} (hT : Txt T) (kk q : Nat) (hq : q < T.length) :
    takeC W T kk q = (decide (q + 1 = T.length) || (decide (kk + 1 < W.length) && alikeB (T.getD (q + 1) z45).f0 (nextP W kk))) := by
  unfold takeC
  by_cases he : q + 1 = T.length
  · rw [decide_eq_true he, List.drop_eq_nil_of_le (by omega)]
    simp [headR]
  · have hl : q + 1 < T.length := by omega
    have hd : headR (T.drop (q + 1)) = T[q + 1].f0 := by rw [List.drop_eq_getElem_cons hl]; rfl
    have hnz : (T[q + 1].f0 == 0) = false := beq_eq_false_iff_ne.2 (hT.nz _ (List.getElem_mem hl))
    rw [decide_eq_false he, Bool.false_or, hd, hnz, Bool.or_false, getT T (q + 1) hl]
    by_cases hk : kk + 1 < W.length
    · rw [decide_eq_true hk, Bool.true_and]
      exact alikeB_symm (nextP_ok W kk hW) (hT.ok _ (List.getElem_mem hl))
    · rw [decide_eq_false hk, Bool.false_and]
      unfold nextP
      rw [if_neg hk, alike_zero]
      exact beq_eq_false_iff_ne.2 (fun e => hT.nz _ (List.getElem_mem hl) e.symm)
theorem loop_step (W : List Int) (T : List S45) (q : Nat) (hq : q < T.length) (st : St) : loopS W (T.drop q) st = loopS W (T.drop (q + 1)) (stepS W T[q] (T.drop (q + 1)) st) := by
  conv => lhs; rw [List.drop_eq_getElem_cons hq]
  rfl
end Go.Proofs.YtgeimklpcfepaaaDoor
namespace Go.Proofs.YtgeimklpcfepaaaDoor
open Go.RowKit Go.Lib Go.Proofs.YtgeimklpcfepaaaDoorW.PrintWords Go.Proofs.YtgeimklpcfepaaaDoorW.PrintMore
open P
set_option linter.unusedVariables false
set_option linter.unusedSimpArgs false

/-- What is told at the text's end. -/
def endF (W : List Int) (s : ByteArray) (st : St) : List Int × Int × Bool := if st.M.length = W.length then (st.M, wrap64 (st.sc + wrap64 ((st.M.length : Int) - (s.size : Int))), true) else ([], 0, false)
/-- What holds between two of the pattern's letters. -/
structure Btw (W : List Int) (T : List S45) (kk frm : Nat) (sum : Int) (tk : Nat) (st : St) : Prop where
  k39 : kk ≤ 39
  k0 : 0 < kk
  pi : st.pi = kk
  len : st.M.length = kk
  bst : st.best = -1
  cur : st.curr = sum
  lst : PrevAt T frm st
  s0 : 0 ≤ sum
  s1 : sum ≤ Bd (kk - 1)
  tkf : tk < frm
  tkm : ∃ h : tk < T.length, st.M.getLastD 0 = T[tk].f1
  fle : frm ≤ T.length
  nxt : frm < T.length → kk < W.length ∧ alikeB (T.getD frm z45).f0 (W.getD kk 0) = true
theorem f1_nonneg {T : List S45} (hT : Txt T) (i : Nat) (h : i < T.length) : 0 ≤ T[i].f1 := by
  have z := hT.zero (by omega)
  by_cases h0 : i = 0
  · subst h0; omega
  · have := hT.asc 0 i (by omega) h; omega
theorem rdP_get (P : List S45) (W : List Int) (hP : P.map (·.f0) = W) (i : Nat) (h : i < W.length) : (rd_T45 P (i : Int)).f0 = W.getD i 0 := by
  subst hP
  have h2 : i < P.length := by simpa using h
  rw [rdT_get P i h2, List.getD_eq_getElem?_getD, List.getElem?_map, List.getElem?_eq_getElem h2]
  rfl
/-- One candidate's round of the reference. -/
theorem l1_step (W : List Int) (P T : List S45) (s : ByteArray) (hP : P.map (·.f0) = W) (hT : Txt T) (M : List Int) (sc sum taken : Int) (kk : Nat) (hk : kk < W.length) (e : Nat) (best : Int) (wh q : Nat) (hq : q < T.length) (hqe : q ≤ e)
    (hWl : W.length ≤ 39) (res : List Int × Int × Bool)
    (h : Ev (fun k => spec_Scored.l1 k s T P M sc (sumN W T kk q sum taken) taken (kk : Int) (e : Int) (bestN W T kk q sum taken best) (whN W T kk q sum taken best wh : Int) ((q + 1 : Nat) : Int)) res) :
    Ev (fun k => spec_Scored.l1 k s T P M sc sum taken (kk : Int) (e : Int) best (wh : Int) (q : Int)) res := by
  have hl := hT.len
  have hPl : P.length = W.length := by rw [← hP, List.length_map]
  have hw : wrap64 ((q : Int) + 1) = ((q + 1 : Nat) : Int) := by rw [wrp (by omega) (by omega)]; rfl
  have ho := hT.ok _ (List.getElem_mem hq)
  have hal := alike_ev T[q].f0 (W.getD kk 0) ho
  have key : Ev (fun k => (spec_Alike.f k T[q].f0 (W.getD kk 0)).bind fun t182 => if t182 = true then ((spec_worth.f k T (q : Int)).bind fun t183 => (if (q : Int) = (wrap64 (taken + 1)) then (if (wrap64 ((wrap64 (t183 + (wrap64 (2 * sum)))) + 5)) > best then (spec_Scored.l1 k s T P M sc (wrap64 ((wrap64 (sum + (wrap64 (2 * sum)))) + 5)) taken (kk : Int) (e : Int) (wrap64 ((wrap64 (t183 + (wrap64 (2 * sum)))) + 5)) (q : Int) ((q + 1 : Nat) : Int)) else (spec_Scored.l1 k s T P M sc (wrap64 ((wrap64 (sum + (wrap64 (2 * sum)))) + 5)) taken (kk : Int) (e : Int) best (wh : Int) ((q + 1 : Nat) : Int))) else (if t183 > best then (spec_Scored.l1 k s T P M sc sum taken (kk : Int) (e : Int) t183 (q : Int) ((q + 1 : Nat) : Int)) else (spec_Scored.l1 k s T P M sc sum taken (kk : Int) (e : Int) best (wh : Int) ((q + 1 : Nat) : Int))))) else spec_Scored.l1 k s T P M sc sum taken (kk : Int) (e : Int) best (wh : Int) ((q + 1 : Nat) : Int)) res := by
    refine Ev.bind (f := fun k t182 => if t182 = true then ((spec_worth.f k T (q : Int)).bind fun t183 => (if (q : Int) = (wrap64 (taken + 1)) then (if (wrap64 ((wrap64 (t183 + (wrap64 (2 * sum)))) + 5)) > best then (spec_Scored.l1 k s T P M sc (wrap64 ((wrap64 (sum + (wrap64 (2 * sum)))) + 5)) taken (kk : Int) (e : Int) (wrap64 ((wrap64 (t183 + (wrap64 (2 * sum)))) + 5)) (q : Int) ((q + 1 : Nat) : Int)) else (spec_Scored.l1 k s T P M sc (wrap64 ((wrap64 (sum + (wrap64 (2 * sum)))) + 5)) taken (kk : Int) (e : Int) best (wh : Int) ((q + 1 : Nat) : Int))) else (if t183 > best then (spec_Scored.l1 k s T P M sc sum taken (kk : Int) (e : Int) t183 (q : Int) ((q + 1 : Nat) : Int)) else (spec_Scored.l1 k s T P M sc sum taken (kk : Int) (e : Int) best (wh : Int) ((q + 1 : Nat) : Int))))) else spec_Scored.l1 k s T P M sc sum taken (kk : Int) (e : Int) best (wh : Int) ((q + 1 : Nat) : Int)) hal ?_
    unfold sumN bestN whN sumS nS at h
    rw [getT T q hq] at h
    by_cases ha : alikeB T[q].f0 (W.getD kk 0) = true
    · rw [if_pos ha, if_pos ha, if_pos ha] at h
      refine Ev.congr (fun k => by rw [if_pos ha]) ?_
      refine Ev.bind (f := fun k t183 => (if (q : Int) = (wrap64 (taken + 1)) then (if (wrap64 ((wrap64 (t183 + (wrap64 (2 * sum)))) + 5)) > best then (spec_Scored.l1 k s T P M sc (wrap64 ((wrap64 (sum + (wrap64 (2 * sum)))) + 5)) taken (kk : Int) (e : Int) (wrap64 ((wrap64 (t183 + (wrap64 (2 * sum)))) + 5)) (q : Int) ((q + 1 : Nat) : Int)) else (spec_Scored.l1 k s T P M sc (wrap64 ((wrap64 (sum + (wrap64 (2 * sum)))) + 5)) taken (kk : Int) (e : Int) best (wh : Int) ((q + 1 : Nat) : Int))) else (if t183 > best then (spec_Scored.l1 k s T P M sc sum taken (kk : Int) (e : Int) t183 (q : Int) ((q + 1 : Nat) : Int)) else (spec_Scored.l1 k s T P M sc sum taken (kk : Int) (e : Int) best (wh : Int) ((q + 1 : Nat) : Int))))) (worth_ev T hT.len hT.ok q hq) ?_
      by_cases hc : (q : Int) = wrap64 (taken + 1)
      · rw [if_pos hc, if_pos hc] at h
        refine Ev.congr (fun k => by rw [if_pos hc]) ?_
        by_cases hn : (wrap64 ((wrap64 (worthP T q + (wrap64 (2 * sum)))) + 5)) > best
        · rw [if_pos hn, if_pos hn] at h
          exact Ev.congr (fun k => by rw [if_pos hn]) h
        · rw [if_neg hn, if_neg hn] at h
          exact Ev.congr (fun k => by rw [if_neg hn]) h
      · rw [if_neg hc, if_neg hc] at h
        refine Ev.congr (fun k => by rw [if_neg hc]) ?_
        by_cases hn : worthP T q > best
        · rw [if_pos hn, if_pos hn] at h
          exact Ev.congr (fun k => by rw [if_pos hn]) h
        · rw [if_neg hn, if_neg hn] at h
          exact Ev.congr (fun k => by rw [if_neg hn]) h
    · rw [if_neg ha, if_neg ha, if_neg ha] at h
      exact Ev.congr (fun k => by rw [if_neg ha]) h
  refine Ev.step (fun k => ?_) key
  simp only [spec_Scored.l1]
  rw [if_pos (by omega), if_pos (by omega), if_pos (by omega), if_pos (by omega), if_pos (by omega), rdT_get T q hq, rdP_get P W hP kk hk, hw]
theorem prevNext {T : List S45} {q : Nat} (hq : q < T.length) (S : St) (h1 : S.last = T[q].f0) (h2 : S.lastI = T[q].f1) : PrevAt T (q + 1) S := ⟨fun e => by omega, fun hh => by
  have e : q + 1 - 1 = q := by omega
  simp only [e]
  exact ⟨h1, h2⟩⟩
/-- Behind the last candidate: the best one is taken. -/
theorem l1_exit (P T : List S45) (s : ByteArray) (M : List Int) (sc sum taken : Int) (kk e : Nat) (best : Int) (wh : Nat) (hkk : kk ≤ 38) (he : e < 1000) (hwh : wh < T.length) (hM : M.length = kk) (res : List Int × Int × Bool)
    (h : Ev (fun k => spec_Scored.l0 k s T P (M ++ [T[wh].f1]) (wrap64 (sc + (if kk = 0 then wrap64 (best - mn (wrap64 (5 * T[wh].f1)) 15) else best))) sum ((e + 1 : Nat) : Int) (wh : Int) ((kk + 1 : Nat) : Int)) res) :
    Ev (fun k => spec_Scored.l1 k s T P M sc sum taken (kk : Int) (e : Int) best (wh : Int) ((e + 1 : Nat) : Int)) res := by
  have hw : wrap64 ((e : Int) + 1) = ((e + 1 : Nat) : Int) := by rw [wrp (by omega) (by omega)]; rfl
  have hwk : wrap64 ((kk : Int) + 1) = ((kk + 1 : Nat) : Int) := by rw [wrp (by omega) (by omega)]; rfl
  have hM2 : M.length < 17592186044416 := by omega
  have c1 : ¬ (((e + 1 : Nat) : Int) ≤ (e : Int)) := by omega
  have c2 : (0 : Int) ≤ (wh : Int) := by omega
  have c3 : (wh : Int) < (T.length : Int) := by omega
  by_cases h0 : kk = 0
  · rw [if_pos h0] at h
    have c4 : (kk : Int) = 0 := by omega
    refine Ev.step (fun k => ?_) h
    simp only [spec_Scored.l1]
    rw [if_neg c1, if_pos c4, if_pos c2, if_pos c3, if_pos hM2, rdT_get T wh hwh, hw, hwk]
  · rw [if_neg h0] at h
    have c4 : ¬ ((kk : Int) = 0) := by omega
    refine Ev.step (fun k => ?_) h
    simp only [spec_Scored.l1]
    rw [if_neg c1, if_neg c4, if_pos c2, if_pos c3, if_pos hM2, rdT_get T wh hwh, hw, hwk]
/-- The loop, behind the last candidate. -/
theorem last_btw {W : List Int} (hW : ∀ x ∈ W, okR x) {T : List S45} (hT : Txt T) {kk q b : Nat} (hq : q < T.length) (hyes : takeC W T kk q = true) {sum taken best : Int} {wh : Nat} {st c : St} (hst : candS W T[q].f1 T[q].f0 st = c) (hk39 : kk ≤ 38)
    (hR : Rnd T kk (q + 1) b sum taken best wh { c with last := T[q].f0, lastI := T[q].f1 }) (hb0 : 0 ≤ best) :
    ∃ (st2 : St) (hwh : wh < T.length), stepS W T[q] (T.drop (q + 1)) st = st2 ∧ Btw W T (kk + 1) (q + 1) sum wh st2 ∧ st2.M = c.M ++ [T[wh].f1] ∧ st2.sc = wrap64 (c.sc + (if kk = 0 then wrap64 (best - mn (wrap64 (5 * T[wh].f1)) 15) else best)) ∧ c.M.length = kk := by
  have hmid : wh < q + 1 ∧ ∃ h : wh < T.length, c.midx = T[wh].f1 := by
    rcases hR.mid with m | ⟨m1, m2, m3, m4⟩
    · omega
    · exact ⟨m2, m3, m4⟩
  obtain ⟨w1, w2, w3⟩ := hmid
  have hcb : c.best = best := hR.bst
  have hcp : c.pi = kk := hR.pi
  have hcm : c.M.length = kk := hR.len
  have hcc : c.curr = sum := hR.cur
  have f0 := f1_nonneg hT wh w2
  have hfh := hT.hi _ (List.getElem_mem w2)
  have hs1 := hR.s1
  have hs0 := hR.s0
  have hstep : stepS W T[q] (T.drop (q + 1)) st = { c with sc := wrap64 (c.sc + bestS c), M := c.M ++ [c.midx], best := -1, pi := c.pi + 1, last := T[q].f0, lastI := T[q].f1 } := by
    unfold stepS takeS
    rw [hst, hcp]
    unfold takeC at hyes
    rw [hyes, if_pos rfl, if_pos (by rw [w3]; omega)]
  have BM : Bd (kk - 1) ≤ Bd kk := by
    have := Bd_mono 1 (kk - 1)
    by_cases h0 : kk = 0
    · subst h0; exact Nat.le_refl _
    · rwa [show kk - 1 + 1 = kk by omega] at this
  refine ⟨_, w2, hstep, ?_, by rw [w3], ?_, hcm⟩
  · refine ⟨by omega, by omega, by show c.pi + 1 = kk + 1; rw [hcp], by simp [hcm], rfl, hcc, prevNext hq _ rfl rfl, hs0, ?_, w1, ⟨w2, by simp [w3]⟩, by omega, fun hlt => ?_⟩
    · have e : kk + 1 - 1 = kk := by omega
      rw [e]
      rcases hs1 with s1 | s1
      · omega
      · exact s1.1
    · rw [takeC_iff hW hT kk q hq] at hyes
      rw [decide_eq_false (by omega), Bool.false_or, Bool.and_eq_true, decide_eq_true_eq] at hyes
      refine ⟨hyes.1, ?_⟩
      have h2 := hyes.2
      unfold nextP at h2
      rwa [if_pos hyes.1] at h2
  · show wrap64 (c.sc + bestS c) = _
    congr 2
    by_cases h0 : kk = 0
    · have hMe : c.M = [] := List.eq_nil_of_length_eq_zero (by rw [hcm, h0])
      unfold bestS mn
      rw [if_pos hMe, if_pos h0, hcb, w3, wrp (x := T[wh].f1 * -5) (by omega) (by omega), wrp (x := 5 * T[wh].f1) (by omega) (by omega)]
      congr 1
      split <;> split <;> omega
    · have hMe : c.M ≠ [] := fun e => by rw [e] at hcm; simp at hcm; omega
      unfold bestS
      rw [if_neg hMe, if_neg h0, hcb]
/-- The candidates of a letter, from a place on: the best one is taken behind the last one. -/
theorem l1_ev (W : List Int) (P T : List S45) (s : ByteArray) (hP : P.map (·.f0) = W) (hW : ∀ x ∈ W, okR x) (hT : Txt T) (hWl : W.length ≤ 39) (kk : Nat) (hk : kk < W.length) (b e : Nat) (he : e < T.length)
    (hb : alikeB (T.getD b z45).f0 (W.getD kk 0) = true) (hno : ∀ q, b ≤ q → q < e → takeC W T kk q = false) (hyes : takeC W T kk e = true) (taken : Int)
    (next : ∀ (st : St) (tk : Nat) (sum : Int), Btw W T (kk + 1) (e + 1) sum tk st → Ev (fun k => spec_Scored.l0 k s T P st.M st.sc sum ((e + 1 : Nat) : Int) (tk : Int) ((kk + 1 : Nat) : Int)) (endF W s (loopS W (T.drop (e + 1)) st))) :
    ∀ (d q : Nat) (sum best : Int) (wh : Nat) (st : St), q + d = e → Rnd T kk q b sum taken best wh st → Ev (fun k => spec_Scored.l1 k s T P st.M st.sc sum taken (kk : Int) (e : Int) best (wh : Int) (q : Int)) (endF W s (loopS W (T.drop q) st)) := by
  intro d
  induction d with
  | succ d ih =>
    intro q sum best wh st hq hR
    obtain ⟨hR2, hb0⟩ := hR.cand (W := W) hT (by omega) (fun e => by rw [e]; exact hb)
    have hqT : q < T.length := by omega
    have hstep : stepS W T[q] (T.drop (q + 1)) st = { candS W T[q].f1 T[q].f0 st with last := T[q].f0, lastI := T[q].f1 } := by
      unfold stepS takeS
      obtain ⟨k1, _⟩ := candS_keeps W T[q].f1 T[q].f0 st
      rw [k1, hR.pi]
      have hn := hno q hR.qb (by omega)
      unfold takeC at hn
      rw [hn, if_neg (by decide)]
    rw [loop_step W T q hqT st, hstep]
    obtain ⟨_, k2, k3, _⟩ := candS_keeps W T[q].f1 T[q].f0 st
    have ih2 := ih (q + 1) _ _ _ _ (by omega) hR2
    refine l1_step W P T s hP hT st.M st.sc sum taken kk hk e best wh q hqT (by omega) hWl _ ?_
    have e1 : ({ candS W T[q].f1 T[q].f0 st with last := T[q].f0, lastI := T[q].f1 } : St).M = st.M := k2
    have e2 : ({ candS W T[q].f1 T[q].f0 st with last := T[q].f0, lastI := T[q].f1 } : St).sc = st.sc := k3
    rw [e1, e2] at ih2
    exact ih2
  | zero =>
    intro q sum best wh st hq hR
    have hqe : q = e := by omega
    subst hqe
    obtain ⟨hR2, hb0⟩ := hR.cand (W := W) hT (by omega) (fun e => by rw [e]; exact hb)
    obtain ⟨k1, k2, k3, _⟩ := candS_keeps W T[q].f1 T[q].f0 st
    have hl := hT.len
    have k38 := hR.k38
    refine l1_step W P T s hP hT st.M st.sc sum taken kk hk q best wh q he (by omega) hWl _ ?_
    generalize sumN W T kk q sum taken = sum2 at hR2 ⊢
    generalize bestN W T kk q sum taken best = best2 at hR2 hb0 ⊢
    generalize whN W T kk q sum taken best wh = wh2 at hR2 ⊢
    obtain ⟨st2, w2, hstep, hB, hM2, hsc2, hcm⟩ := last_btw hW hT he hyes rfl k38 hR2 hb0
    rw [loop_step W T q he st, hstep]
    have hN := next st2 wh2 sum2 hB
    rw [hM2, hsc2, k2, k3] at hN
    rw [k2] at hcm
    exact l1_exit P T s st.M st.sc sum2 taken kk q best2 wh2 k38 (by omega) w2 hcm _ hN
/-- A letter whose first candidate stands at b. -/
theorem stage_ev (W : List Int) (P T : List S45) (s : ByteArray) (hP : P.map (·.f0) = W) (hW : ∀ x ∈ W, okR x) (hT : Txt T) (hWl : W.length ≤ 39) (kk : Nat) (hk : kk < W.length) (frm b : Nat) (hf : frm ≤ T.length) (hfb : firstP T (W.getD kk 0) (T.length - frm) frm = b) (hbl : b < T.length) (taken sum : Int) (st : St) (hR : Rnd T kk b b sum taken (-1) 0 st)
    (next : ∀ (e : Nat) (st : St) (tk : Nat) (sum : Int), Btw W T (kk + 1) (e + 1) sum tk st → Ev (fun k => spec_Scored.l0 k s T P st.M st.sc sum ((e + 1 : Nat) : Int) (tk : Int) ((kk + 1 : Nat) : Int)) (endF W s (loopS W (T.drop (e + 1)) st))) :
    Ev (fun k => spec_Scored.l0 k s T P st.M st.sc sum (frm : Int) taken (kk : Int)) (endF W s (loopS W (T.drop b) st)) := by
  have hl := hT.len
  have hPl : P.length = W.length := by rw [← hP, List.length_map]
  have k38 := hR.k38
  have hwk : wrap64 ((kk : Int) + 1) = ((kk + 1 : Nat) : Int) := by rw [wrp (by omega) (by omega)]; rfl
  have h1 := first_ev T (W.getD kk 0) hl hT.ok (T.length - frm) frm (by omega)
  rw [hfb] at h1
  obtain ⟨f1, f2, f3, f4⟩ := firstP_spec T (W.getD kk 0) (T.length - frm) frm (by omega)
  rw [hfb] at f1 f2 f3 f4
  generalize hany : decide (((kk + 1 : Nat) : Int) < (P.length : Int)) = any
  have hany2 : any = decide (kk + 1 < W.length) := by
    rw [← hany, hPl]
    by_cases h : kk + 1 < W.length
    · rw [decide_eq_true h, decide_eq_true (by omega)]
    · rw [decide_eq_false h, decide_eq_false (by omega)]
  obtain ⟨s1, s2, s3, s4⟩ := stopP_spec T (nextP W kk) any (T.length - b) b (by omega) (by omega)
  have h2 := stop_ev T (nextP W kk) any hl hT.ok (T.length - b) b (by omega) (by omega)
  generalize stopP T (nextP W kk) any (T.length - b) b = e at s1 s2 s3 s4 h2
  have hno : ∀ q, b ≤ q → q < e → takeC W T kk q = false := fun q q1 q2 => by
    obtain ⟨a1, a2⟩ := s3 q q1 q2
    rw [takeC_iff hW hT kk q (by omega), decide_eq_false a1, Bool.false_or, ← hany2]
    exact a2
  have hyes : takeC W T kk e = true := by
    rw [takeC_iff hW hT kk e s2, ← hany2]
    rcases s4 with a | a
    · rw [decide_eq_true a, Bool.true_or]
    · rw [a, Bool.or_true]
  have h3 := l1_ev W P T s hP hW hT hWl kk hk b e s2 (f4 hbl) hno hyes taken (next e) (e - b) b sum (-1) 0 st (by omega) hR
  generalize endF W s (loopS W (List.drop b T) st) = res at h3 ⊢
  have hj : Ev (fun k => spec_Scored.j1 k s T P st.M st.sc sum taken (kk : Int) (b : Int) (nextP W kk)) res := by
    refine Ev.step (fun k => ?_) (Ev.bind (f := fun k t170 => spec_Scored.l1 k s T P st.M st.sc sum taken (kk : Int) t170 (-1) 0 (b : Int)) h2 h3)
    simp only [spec_Scored.j1]
    rw [hwk, hany]
    rfl
  refine Ev.step (fun k => ?_) (Ev.bind (f := fun k t168 => if t168 = (T.length : Int) then some (([] : List Int), 0, false) else spec_Scored.j1 k s T P st.M st.sc sum taken (kk : Int) t168 (nextP W kk)) h1 (Ev.congr (fun k => by rw [if_neg (by omega)]) hj))
  simp only [spec_Scored.l0]
  rw [if_pos (by omega), if_pos (by omega), rdP_get P W hP kk hk, hwk]
  unfold nextP spec_first.f
  refine congrArg _ (funext fun t168 => ite_congr rfl (fun _ => rfl) (fun _ => ?_))
  by_cases hk1 : kk + 1 < W.length
  · rw [if_pos hk1, if_pos (by omega), if_pos (by omega), rdP_get P W hP (kk + 1) hk1]
  · rw [if_neg hk1, if_neg (by omega)]
/-- The pattern's other letters. -/
theorem l0_ev (W : List Int) (P T : List S45) (s : ByteArray) (hP : P.map (·.f0) = W) (hW : ∀ x ∈ W, okR x) (hT : Txt T) (hWl : W.length ≤ 39) : ∀ (d kk : Nat), kk + d = W.length → ∀ (frm tk : Nat) (sum : Int) (st : St), Btw W T kk frm sum tk st →
    Ev (fun k => spec_Scored.l0 k s T P st.M st.sc sum (frm : Int) (tk : Int) (kk : Int)) (endF W s (loopS W (T.drop frm) st))
  | 0, kk, hkd, frm, tk, sum, st, hB => by
    have hPl : P.length = W.length := by rw [← hP, List.length_map]
    have hfm : ¬ frm < T.length := fun h => by have := (hB.nxt h).1; omega
    rw [List.drop_eq_nil_of_le (by omega)]
    show Ev _ (endF W s st)
    unfold endF
    rw [if_pos (by rw [hB.len]; omega)]
    have e : wrap64 (wrap64 (st.sc + (st.M.length : Int)) - (s.size : Int)) = wrap64 (st.sc + wrap64 ((st.M.length : Int) - (s.size : Int))) := by unfold wrap64; omega
    refine Ev.step (f := fun _ => some (st.M, wrap64 (st.sc + wrap64 ((st.M.length : Int) - (s.size : Int))), true)) (fun k => ?_) (Ev.now _)
    simp only [spec_Scored.l0]
    rw [if_neg (by omega), e]
  | d + 1, kk, hkd, frm, tk, sum, st, hB => by
    have hPl : P.length = W.length := by rw [← hP, List.length_map]
    have hk : kk < W.length := by omega
    by_cases hfm : frm < T.length
    · have hal := (hB.nxt hfm).2
      have hfb : firstP T (W.getD kk 0) (T.length - frm) frm = frm := by
        rw [show T.length - frm = (T.length - frm - 1) + 1 by omega, firstP, if_pos hal]
      refine stage_ev W P T s hP hW hT hWl kk hk frm frm hB.fle hfb hfm (tk : Int) sum st ?_ (fun e st2 tk2 sum2 hB2 => l0_ev W P T s hP hW hT hWl d (kk + 1) (by omega) (e + 1) tk2 sum2 st2 hB2)
      obtain ⟨t1, t2⟩ := hB.tkm
      exact ⟨by omega, Nat.le_refl _, hB.pi, hB.len, hB.bst, hB.cur, hB.lst, hB.s0, Or.inl hB.s1, Or.inl ⟨rfl, rfl⟩, Or.inr ⟨hB.k0, tk, rfl, hB.tkf, t1, t2⟩⟩
    · have hfe : frm = T.length := by have := hB.fle; omega
      subst hfe
      rw [List.drop_eq_nil_of_le (by omega)]
      show Ev _ (endF W s st)
      unfold endF
      rw [if_neg (by rw [hB.len]; omega)]
      have h1 := first_ev T (W.getD kk 0) hT.len hT.ok 0 T.length (by omega)
      have hwk : wrap64 ((kk : Int) + 1) = ((kk + 1 : Nat) : Int) := by have := hT.len; rw [wrp (by omega) (by omega)]; rfl
      refine Ev.step (fun k => ?_) (Ev.bind (f := fun k t168 => if t168 = (T.length : Int) then some (([] : List Int), 0, false) else spec_Scored.j1 k s T P st.M st.sc sum (tk : Int) (kk : Int) t168 (nextP W kk)) h1 (Ev.congr (f := fun _ => some (([] : List Int), 0, false)) (fun k => if_pos rfl) (Ev.now _)))
      simp only [spec_Scored.l0]
      rw [if_pos (by omega), if_pos (by omega), rdP_get P W hP kk hk, hwk]
      unfold nextP spec_first.f
      refine congrArg _ (funext fun t168 => ite_congr rfl (fun _ => rfl) (fun _ => ?_))
      by_cases hk1 : kk + 1 < W.length
      · rw [if_pos hk1, if_pos (by omega), if_pos (by omega), rdP_get P W hP (kk + 1) hk1]
      · rw [if_neg hk1, if_neg (by omega)]
/-- Ahead of the first candidate nothing changes but the letter behind. -/
theorem head_skip (W : List Int) (T : List S45) (b : Nat) (hb : b ≤ T.length) (hno : ∀ q, q < b → alikeB ((T.getD q z45).f0) (W.getD 0 0) = false) : ∀ (d q : Nat) (st : St), q + d = b → st.pi = 0 → st.M = [] → st.best = -1 → st.midx = -1 → st.curr = 0 → PrevAt T q st →
    ∃ st2 : St, loopS W (T.drop q) st = loopS W (T.drop b) st2 ∧ st2.pi = 0 ∧ st2.M = [] ∧ st2.best = -1 ∧ st2.midx = -1 ∧ st2.curr = 0 ∧ PrevAt T b st2 ∧ st2.sc = st.sc
  | 0, q, st, hq, h1, h2, h3, h4, h5, h6 => by
    have : q = b := by omega
    subst this
    exact ⟨st, rfl, h1, h2, h3, h4, h5, h6, rfl⟩
  | d + 1, q, st, hq, h1, h2, h3, h4, h5, h6 => by
    have hqT : q < T.length := by omega
    have hc : candS W T[q].f1 T[q].f0 st = st := by
      unfold candS
      have := hno q (by omega)
      rw [getT T q hqT] at this
      rw [h1, this, if_neg (by decide)]
    have hstep : stepS W T[q] (T.drop (q + 1)) st = { st with last := T[q].f0, lastI := T[q].f1 } := by
      unfold stepS takeS
      rw [hc]
      split
      · rw [if_neg (by omega)]
      · rfl
    rw [loop_step W T q hqT st, hstep]
    exact head_skip W T b hb hno d (q + 1) _ (by omega) h1 h2 h3 h4 h5 (prevNext hqT _ rfl rfl)
theorem scored_l0 (W : List Int) (P T : List S45) (s : ByteArray) (hP : P.map (·.f0) = W) (hW : ∀ x ∈ W, okR x) (hT : Txt T) (hWl : W.length ≤ 39) (hW0 : 0 < W.length) :
    Ev (fun k => spec_Scored.l0 k s T P [] 0 0 0 (-2) 0) (endF W s (loopS W T St0)) := by
  have hPl : P.length = W.length := by rw [← hP, List.length_map]
  obtain ⟨f1, f2, f3, f4⟩ := firstP_spec T (W.getD 0 0) T.length 0 (by omega)
  have h1 := first_ev T (W.getD 0 0) hT.len hT.ok T.length 0 (by omega)
  generalize hfb : firstP T (W.getD 0 0) T.length 0 = b at f1 f2 f3 f4 h1
  obtain ⟨st2, g1, g2, g3, g4, g5, g6, g7, g8⟩ := head_skip W T b f2 (fun q hq => f3 q (by omega) hq) b 0 St0 (by omega) rfl rfl rfl rfl rfl ⟨fun _ => rfl, fun h => by omega⟩
  rw [List.drop_zero] at g1
  rw [g1]
  by_cases hb : b < T.length
  · have := stage_ev W P T s hP hW hT hWl 0 hW0 0 b (by omega) hfb hb (-2) 0 st2 ⟨by omega, Nat.le_refl _, g2, by rw [g3]; rfl, g4, g6, g7, by omega, Or.inl (by omega), Or.inl ⟨rfl, rfl⟩, Or.inl ⟨rfl, rfl⟩⟩ (fun e st3 tk3 sum3 hB3 => l0_ev W P T s hP hW hT hWl (W.length - 1) 1 (by omega) (e + 1) tk3 sum3 st3 hB3)
    rw [g3, g8] at this
    exact this
  · have hbe : b = T.length := by omega
    rw [List.drop_eq_nil_of_le (by omega)]
    show Ev _ (endF W s st2)
    unfold endF
    rw [if_neg (by rw [g3]; simp; omega)]
    have hwk : wrap64 (0 + 1) = ((1 : Nat) : Int) := by rw [wrp (by omega) (by omega)]; rfl
    refine Ev.step (fun k => ?_) (Ev.bind (f := fun k t168 => if t168 = (T.length : Int) then some (([] : List Int), 0, false) else spec_Scored.j1 k s T P [] 0 0 (-2) 0 t168 (nextP W 0)) h1 (Ev.congr (f := fun _ => some (([] : List Int), 0, false)) (fun k => by rw [if_pos (by omega)]) (Ev.now _)))
    simp only [spec_Scored.l0]
    have r0 := rdP_get P W hP 0 hW0
    rw [if_pos (by omega), if_pos (by omega), hwk]
    unfold nextP spec_first.f
    simp only [Int.natCast_zero, Nat.zero_add] at r0 ⊢
    rw [r0]
    refine congrArg _ (funext fun t168 => ite_congr rfl (fun _ => rfl) (fun _ => ?_))
    by_cases hk1 : 1 < W.length
    · rw [if_pos hk1, if_pos (by omega), if_pos (by omega), rdP_get P W hP 1 hk1]
    · rw [if_neg hk1, if_neg (by omega)]
end Go.Proofs.YtgeimklpcfepaaaDoor
namespace Go.Proofs.YtgeimklpcfepaaaDoor
open Go.RowKit Go.Lib Go.Proofs.YtgeimklpcfepaaaDoorW.PrintWords Go.Proofs.YtgeimklpcfepaaaDoorW.PrintMore
open P
set_option linter.unusedVariables false
set_option linter.unusedSimpArgs false

theorem lettersFrom_f1 (s : ByteArray) : ∀ (f pos i : Nat) (h : i < (lettersFrom s f pos).length), (pos : Int) ≤ (lettersFrom s f pos)[i].f1 ∧ (lettersFrom s f pos)[i].f1 < (s.size : Int)
  | 0, pos, i, h => absurd h (by simp [lettersFrom])
  | f + 1, pos, i, h => by
    by_cases hp : pos < s.size
    · have e : lettersFrom s (f + 1) pos = (⟨((Utf8.decode s pos).1 : Int), (pos : Int)⟩ : S45) :: lettersFrom s f (pos + (Utf8.decode s pos).2) := by rw [lettersFrom, if_pos hp]
      simp only [e] at h ⊢
      cases i with
      | zero => exact ⟨by simp, by simp; exact hp⟩
      | succ i =>
        have := lettersFrom_f1 s f (pos + (Utf8.decode s pos).2) i (by simpa using h)
        simp only [List.getElem_cons_succ]
        omega
    · have e : lettersFrom s (f + 1) pos = [] := by rw [lettersFrom, if_neg hp]
      simp only [e] at h
      exact absurd h (by simp)
theorem lettersFrom_asc (s : ByteArray) : ∀ (f pos i j : Nat) (hij : i < j) (h : j < (lettersFrom s f pos).length), (lettersFrom s f pos)[i].f1 < (lettersFrom s f pos)[j].f1
  | 0, pos, i, j, hij, h => absurd h (by simp [lettersFrom])
  | f + 1, pos, i, j, hij, h => by
    by_cases hp : pos < s.size
    · have e : lettersFrom s (f + 1) pos = (⟨((Utf8.decode s pos).1 : Int), (pos : Int)⟩ : S45) :: lettersFrom s f (pos + (Utf8.decode s pos).2) := by rw [lettersFrom, if_pos hp]
      simp only [e] at h ⊢
      have hw := Lib.decode_width_pos s pos hp
      obtain ⟨j, rfl⟩ : ∃ j', j = j' + 1 := ⟨j - 1, by omega⟩
      cases i with
      | zero =>
        have := (lettersFrom_f1 s f (pos + (Utf8.decode s pos).2) j (by simpa using h)).1
        simp only [List.getElem_cons_succ, List.getElem_cons_zero]
        omega
      | succ i =>
        simp only [List.getElem_cons_succ]
        exact lettersFrom_asc s f _ i j (by omega) (by simpa using h)
    · have e : lettersFrom s (f + 1) pos = [] := by rw [lettersFrom, if_neg hp]
      simp only [e] at h
      exact absurd h (by simp)
theorem txt_letters (s : ByteArray) (hs : s.size ≤ 1000) (hn : noNul s = true) : Txt (letters s) := by
  have hl := letters_length s
  have hok := letters_ok s hn s.size 0
  refine ⟨by omega, fun x hx => (hok x hx).1, fun x hx => (hok x hx).2, fun h => ?_, fun i j hij hj => lettersFrom_asc s s.size 0 i j hij hj, fun x hx => ?_⟩
  · have h0 : 0 < s.size := by omega
    have e := lettersAt_step s 0 h0
    have e2 : letters s = (⟨((Utf8.decode s 0).1 : Int), ((0 : Nat) : Int)⟩ : S45) :: lettersAt s (0 + (Utf8.decode s 0).2) := e
    simp only [e2]
    rfl
  · obtain ⟨i, hi, rfl⟩ := List.getElem_of_mem hx
    have := (lettersFrom_f1 s s.size 0 i hi).2
    show (lettersFrom s s.size 0)[i].f1 ≤ 1000
    omega
theorem shortB_iff {s : ByteArray} (h : shortB s = true) : noNul s = true ∧ s.size ≤ 60 := by
  unfold shortB at h
  rw [Bool.and_eq_true, decide_eq_true_eq] at h
  exact h
theorem pat_ok (a0 : ByteArray) (h : shortB a0 = true) : ∀ x ∈ strRunes a0, okR x := by
  intro x hx
  rw [← letters_runes, List.mem_map] at hx
  obtain ⟨y, hy, rfl⟩ := hx
  exact (letters_ok a0 (shortB_iff h).1 a0.size 0 y hy).1
theorem pat_len (a0 : ByteArray) : (strRunes a0).length = (letters a0).length := by rw [← letters_runes, List.length_map]
theorem pat_pos (a0 : ByteArray) (h : 0 < a0.size) : 0 < (strRunes a0).length := by
  rw [pat_len]
  have e : letters a0 = (⟨((Utf8.decode a0 0).1 : Int), ((0 : Nat) : Int)⟩ : S45) :: lettersAt a0 (0 + (Utf8.decode a0 0).2) := lettersAt_step a0 0 h
  rw [e]; simp
theorem scored_ev (a0 s : ByteArray) (h0 : 0 < a0.size) (ha : shortB a0 = true) (h39 : (letters a0).length ≤ 39) (hs : shortB s = true) :
    Ev (fun k => spec_Scored.f k a0 s) (endF (strRunes a0) s (oneS (strRunes a0) s)) := by
  have h1 := scored_l0 (strRunes a0) (letters a0) (letters s) s (letters_runes a0) (pat_ok a0 ha) (txt_letters s (by have := (shortB_iff hs).2; omega) (shortB_iff hs).1) (by rw [pat_len]; exact h39) (pat_pos a0 h0)
  refine Ev.congr (fun k => ?_) h1
  unfold spec_Scored.f spec_Letters.f
  have e1 := (shortB_iff hs).2
  have e2 := (shortB_iff ha).2
  rw [if_pos (by omega), if_pos (by omega), Option.bind_some, Option.bind_some]
theorem findS_length (W : List Int) : ∀ (l : List ByteArray) (i : Nat), (findS W l i).length ≤ l.length
  | [], _ => Nat.le_refl _
  | s :: r, i => by
    have := findS_length W r (i + 1)
    rw [findS]
    split <;> simp <;> omega
theorem oneS_len (W : List Int) (s : ByteArray) : ∀ x ∈ findS W [s] 0, x.f2.length = W.length := by
  intro x hx
  rw [findS, findS] at hx
  split at hx
  · rename_i h
    simp at hx
    subst hx
    exact h
  · exact absurd hx (by simp)
theorem findS_places (W : List Int) : ∀ (l : List ByteArray) (i : Nat), ∀ x ∈ findS W l i, x.f2.length = W.length
  | [], _, x, hx => absurd hx (by simp [findS])
  | s :: r, i, x, hx => by
    rw [findS] at hx
    split at hx
    · rename_i h
      rcases List.mem_cons.1 hx with rfl | hx
      · exact h
      · exact findS_places W r (i + 1) x hx
    · exact findS_places W r (i + 1) x hx
theorem toList_nil (a0 : ByteArray) : a0.toList = ([] : List UInt8) ↔ a0.size = 0 := by
  rw [Lib.toList_data, ← List.length_eq_zero_iff, ← Lib.size_eq]
theorem found_l0 (a0 : ByteArray) (l : List ByteArray) (h0 : 0 < a0.size) (h : shortAll a0 l = true) : ∀ (d i : Nat) (acc : List S33), i + d = l.length → acc.length ≤ i →
    Ev (fun k => spec_Found.l0 k a0 l acc (i : Int)) (acc ++ (findS (strRunes a0) (l.drop i) i).map to33)
  | 0, i, acc, hi, hac => by
    rw [List.drop_eq_nil_of_le (by omega)]
    refine Ev.step (f := fun _ => some acc) (fun k => ?_) (by simp only [findS, List.map_nil, List.append_nil]; exact Ev.now _)
    simp only [spec_Found.l0]
    rw [if_neg (by omega)]
  | d + 1, i, acc, hi, hac => by
    have hh := h
    unfold shortAll at hh
    simp only [Bool.and_eq_true, decide_eq_true_eq, List.all_eq_true] at hh
    obtain ⟨ha, h39, h20, hall⟩ := hh
    have hlt : i < l.length := by omega
    have hs := hall _ (List.getElem_mem hlt)
    have hsc := scored_ev a0 l[i] h0 ha h39 hs
    have hw : wrap64 ((i : Int) + 1) = ((i + 1 : Nat) : Int) := by rw [wrp (by omega) (by omega)]; rfl
    rw [List.drop_eq_getElem_cons hlt]
    have e1 : ∀ res, Ev (fun k => (if (endF (strRunes a0) l[i] (oneS (strRunes a0) l[i])).2.2 = true then (if acc.length < 2513169434916 then (spec_Found.l0 k a0 l (acc ++ [(⟨l[i], (i : Int), (endF (strRunes a0) l[i] (oneS (strRunes a0) l[i])).1, (endF (strRunes a0) l[i] (oneS (strRunes a0) l[i])).2.1⟩ : S33)]) ((i + 1 : Nat) : Int)) else (none)) else (spec_Found.l0 k a0 l acc ((i + 1 : Nat) : Int)))) res → Ev (fun k => spec_Found.l0 k a0 l acc (i : Int)) res := fun res hr => by
      refine Ev.step (fun k => ?_) (Ev.bind (f := fun k bt188 => (if bt188.2.2 = true then (if acc.length < 2513169434916 then (spec_Found.l0 k a0 l (acc ++ [(⟨l[i], (i : Int), bt188.1, bt188.2.1⟩ : S33)]) ((i + 1 : Nat) : Int)) else (none)) else (spec_Found.l0 k a0 l acc ((i + 1 : Nat) : Int)))) hsc hr)
      simp only [spec_Found.l0]
      rw [if_pos (by omega), if_pos (by omega), rdS_get l i hlt, hw]
    refine e1 _ ?_
    rw [findS]
    by_cases hc : (oneS (strRunes a0) l[i]).M.length = (strRunes a0).length
    · rw [if_pos hc]
      have ef : endF (strRunes a0) l[i] (oneS (strRunes a0) l[i]) = ((oneS (strRunes a0) l[i]).M, scoreOf (strRunes a0) l[i], true) := by unfold endF; rw [if_pos hc]; rfl
      rw [ef]
      have ih := found_l0 a0 l h0 h d (i + 1) (acc ++ [(⟨l[i], (i : Int), (oneS (strRunes a0) l[i]).M, scoreOf (strRunes a0) l[i]⟩ : S33)]) (by omega) (by simp; omega)
      rw [List.append_assoc] at ih
      exact Ev.congr (fun k => by rw [if_pos rfl, if_pos (by omega)]) ih
    · rw [if_neg hc]
      have ef : endF (strRunes a0) l[i] (oneS (strRunes a0) l[i]) = ([], 0, false) := by unfold endF; rw [if_neg hc]
      rw [ef]
      exact Ev.congr (fun k => by rw [if_neg (by decide)]) (found_l0 a0 l h0 h d (i + 1) acc (by omega) (by omega))
theorem found_ev (a0 : ByteArray) (l : List ByteArray) (h : shortAll a0 l = true) : Ev (fun k => spec_Found.f k a0 l) ((findAll a0 l).map to33) := by
  unfold findAll
  by_cases h0 : a0.size = 0
  · rw [if_pos h0]
    refine Ev.congr (f := fun _ => some []) (fun k => ?_) (Ev.now _)
    unfold spec_Found.f
    rw [Option.bind_some, if_pos ((toList_nil a0).2 h0)]
  · rw [if_neg h0]
    have h1 := found_l0 a0 l (by omega) h l.length 0 [] (by omega) (by simp)
    rw [List.drop_zero, List.nil_append] at h1
    refine Ev.congr (fun k => ?_) h1
    unfold spec_Found.f
    rw [Option.bind_some, if_neg (fun e => h0 ((toList_nil a0).1 e))]
    rfl
theorem areShort_l0 (a0 : ByteArray) (l : List ByteArray) (h : shortAll a0 l = true) : ∀ (d i : Nat), i + d = l.length → Ev (fun k => impl_areShort.l0 k a0 l l (l.length : Int) (i : Int)) true
  | 0, i, hi => by
    unfold shortAll at h
    simp only [Bool.and_eq_true, decide_eq_true_eq, List.all_eq_true] at h
    obtain ⟨ha, h39, h20, hall⟩ := h
    have e2 := (shortB_iff ha).2
    refine Ev.step (f := fun _ => some true) (fun k => ?_) (Ev.now _)
    simp only [impl_areShort.l0]
    rw [if_neg (by omega), if_pos (by omega), decide_eq_true (by omega)]
  | d + 1, i, hi => by
    have hh := h
    unfold shortAll at hh
    simp only [Bool.and_eq_true, decide_eq_true_eq, List.all_eq_true] at hh
    obtain ⟨ha, h39, h20, hall⟩ := hh
    have hlt : i < l.length := by omega
    have hs := (shortB_iff (hall _ (List.getElem_mem hlt))).2
    refine Ev.step (fun k => ?_) (areShort_l0 a0 l h d (i + 1) (by omega))
    simp only [impl_areShort.l0]
    rw [if_pos (by omega), if_pos (by omega), if_pos (by omega), rdS_get l i hlt, if_neg (by omega), wrp (by omega) (by omega)]
    rfl
theorem areShort_ev (a0 : ByteArray) (l : List ByteArray) (h : shortAll a0 l = true) : Ev (fun k => impl_areShort.f k a0 l) true := areShort_l0 a0 l h l.length 0 (by omega)
theorem okTexts_short (a0 : ByteArray) (l : List ByteArray) (h : shortAll a0 l = true) : okTexts a0 l = true := by
  unfold shortAll at h
  simp only [Bool.and_eq_true, decide_eq_true_eq, List.all_eq_true] at h
  obtain ⟨ha, h39, h20, hall⟩ := h
  have e2 := (shortB_iff ha).2
  unfold okTexts
  simp only [Bool.and_eq_true, decide_eq_true_eq, List.all_eq_true]
  refine ⟨by omega, by omega, fun s hs => ?_⟩
  have := shortB_iff (hall s hs)
  exact ⟨by omega, this.1⟩
theorem findAll_le (a0 : ByteArray) (l : List ByteArray) (h : shortAll a0 l = true) : (findAll a0 l).length ≤ 20 ∧ ∀ x ∈ findAll a0 l, x.f2.length ≤ 39 := by
  unfold shortAll at h
  simp only [Bool.and_eq_true, decide_eq_true_eq, List.all_eq_true] at h
  obtain ⟨ha, h39, h20, hall⟩ := h
  unfold findAll
  split
  · exact ⟨by simp, fun x hx => absurd hx (by simp)⟩
  · refine ⟨by have := findS_length (strRunes a0) l 0; omega, fun x hx => ?_⟩
    rw [findS_places _ _ _ x hx, pat_len]
    exact h39
theorem zzFits_l0 (l : List ByteArray) (hl : l.length ≤ 2147483647) : ∀ (d i : Nat), i + d = l.length → ∃ r, Ev (fun k => laws_zzFits1.l0 k l (l.length : Int) (i : Int)) r ∧ (r = true → ∀ s ∈ l.drop i, s.size ≤ 2147483647)
  | 0, i, hi => ⟨true, Ev.step (f := fun _ => some true) (fun k => by simp only [laws_zzFits1.l0]; rw [if_neg (by omega)]) (Ev.now _), fun _ s hs => by rw [List.drop_eq_nil_of_le (by omega)] at hs; exact absurd hs (by simp)⟩
  | d + 1, i, hi => by
    have hlt : i < l.length := by omega
    by_cases hb : ((rdOf ByteArray.empty l (i : Int)).size : Int) > 2147483647
    · exact ⟨false, Ev.step (f := fun _ => some false) (fun k => by simp only [laws_zzFits1.l0]; rw [if_pos (by omega), if_pos (by omega), if_pos (by omega), if_pos hb]) (Ev.now _), fun h => by cases h⟩
    · obtain ⟨r, hr, hz⟩ := zzFits_l0 l hl d (i + 1) (by omega)
      refine ⟨r, Ev.step (fun k => by simp only [laws_zzFits1.l0]; rw [if_pos (by omega), if_pos (by omega), if_pos (by omega), if_neg hb, wrp (by omega) (by omega)]; rfl) hr, fun h s hs => ?_⟩
      rw [List.drop_eq_getElem_cons hlt] at hs
      rcases List.mem_cons.1 hs with rfl | hs
      · rw [rdS_get l i hlt] at hb; omega
      · exact hz h s hs
theorem zzFits_ev (l : List ByteArray) : ∃ r, Ev (fun k => laws_zzFits1.f k l) r ∧ (r = true → ∀ s ∈ l, s.size ≤ 2147483647) := by
  by_cases hl : (l.length : Int) > 2147483647
  · exact ⟨false, Ev.congr (fun k => by unfold laws_zzFits1.f; rw [if_pos hl]) (Ev.now _), fun h => by cases h⟩
  · obtain ⟨r, hr, hz⟩ := zzFits_l0 l (by omega) l.length 0 (by omega)
    rw [List.drop_zero] at hz
    exact ⟨r, Ev.congr (fun k => by unfold laws_zzFits1.f; rw [if_neg hl]; rfl) hr, hz⟩
theorem to33_le {L : List S49} (h : ∀ x ∈ L, x.f2.length ≤ 39) : ∀ x ∈ L.map to33, x.f2.length ≤ 1000 := by
  intro x hx
  obtain ⟨y, hy, rfl⟩ := List.mem_map.1 hx
  have := h y hy
  show y.f2.length ≤ 1000
  omega
theorem btw_rnd {W : List Int} {T : List S45} {kk frm tk : Nat} {sum : Int} {st : St} (hB : Btw W T kk frm sum tk st) (hk : kk ≤ 38) : Rnd T kk frm frm sum (tk : Int) (-1) 0 st := by
  obtain ⟨t1, t2⟩ := hB.tkm
  exact ⟨hk, Nat.le_refl _, hB.pi, hB.len, hB.bst, hB.cur, hB.lst, hB.s0, Or.inl hB.s1, Or.inl ⟨rfl, rfl⟩, Or.inr ⟨hB.k0, tk, rfl, hB.tkf, t1, t2⟩⟩
end Go.Proofs.YtgeimklpcfepaaaDoor
