/- What the reference's Scored comes to: its parts, evaluated. -/
import Derived.Test.YtgeimklpcfepaaaDoorFindCode
import Derived.Test.YtgeimklpcfepaaaDoorP7
import Derived.Test.YtgeimklpcfepaaaDoorP3
namespace Go.Proofs.YtgeimklpcfepaaaDoor
open Go.RowKit Go.Lib Go.Proofs.YtgeimklpcfepaaaDoorW.PrintWords Go.Proofs.YtgeimklpcfepaaaDoorW.PrintMore
open P
set_option linter.unusedVariables false
set_option linter.unusedSimpArgs false

theorem lettersFrom_runes (s : ByteArray) : ∀ f pos, (lettersFrom s f pos).map (·.f0) = runesFrom s f pos
  | 0, _ => rfl
  | f + 1, pos => by
    unfold lettersFrom runesFrom
    split
    · rw [List.map_cons, lettersFrom_runes s f]
    · rfl
theorem letters_runes (s : ByteArray) : (letters s).map (·.f0) = strRunes s := lettersFrom_runes s _ _
theorem rdT_get (T : List S45) (i : Nat) (h : i < T.length) : rd_T45 T (i : Int) = T[i] := by
  unfold rd_T45
  rw [Int.toNat_natCast, List.getD_eq_getElem?_getD, List.getElem?_eq_getElem h]; rfl
theorem wrp {x : Int} (h0 : -9223372036854775808 ≤ x) (h1 : x ≤ 9223372036854775807) : wrap64 x = x := by unfold wrap64; omega
/-- The first letter like r, from a place on. -/
def firstP (T : List S45) (r : Int) : Nat → Nat → Nat
  | 0, i => i
  | d + 1, i => if alikeB ((T.getD i z45).f0) r = true then i else firstP T r d (i + 1)
theorem first_ev (T : List S45) (r : Int) (hl : T.length ≤ 1000) (hT : ∀ x ∈ T, okR x.f0) : ∀ (d i : Nat), i + d = T.length → Ev (fun k => spec_first.l0 k T (i : Int) r) (firstP T r d i : Int)
  | 0, i, h => by
    refine Ev.step (f := fun _ => some (i : Int)) (fun k => ?_) (Ev.now _)
    simp only [spec_first.l0]
    rw [if_neg (by omega)]
  | d + 1, i, h => by
    have hi : i < T.length := by omega
    have hg : T.getD i z45 = T[i] := by rw [List.getD_eq_getElem?_getD, List.getElem?_eq_getElem hi]; rfl
    have hok := hT _ (List.getElem_mem hi)
    have hw : wrap64 ((i : Int) + 1) = ((i + 1 : Nat) : Int) := by rw [wrp (by omega) (by omega)]; rfl
    rw [firstP, hg]
    have e1 : ∀ res, Ev (fun k => if alikeB T[i].f0 r = true then some (i : Int) else spec_first.l0 k T ((i + 1 : Nat) : Int) r) res → Ev (fun k => spec_first.l0 k T (i : Int) r) res := fun res hr => by
      refine Ev.step (fun k => ?_) (Ev.bind (f := fun k t => if t = true then some (i : Int) else spec_first.l0 k T ((i + 1 : Nat) : Int) r) (alike_ev T[i].f0 r hok) hr)
      simp only [spec_first.l0]
      rw [if_pos (by omega), if_pos (by omega), rdT_get T i hi, hw]
    refine e1 _ ?_
    by_cases ha : alikeB T[i].f0 r = true
    · rw [if_pos ha]
      exact Ev.congr (fun k => by rw [if_pos ha]) (Ev.now _)
    · rw [if_neg ha]
      exact Ev.congr (fun k => by rw [if_neg ha]) (first_ev T r hl hT d (i + 1) (by omega))
/-- The last place before the pattern's next letter, from a place on. -/
def stopP (T : List S45) (nx : Int) (any : Bool) : Nat → Nat → Nat
  | 0, i => T.length - 1
  | d + 1, i => if i + 1 = T.length then i else if (any && alikeB ((T.getD (i + 1) z45).f0) nx) = true then i else stopP T nx any d (i + 1)
theorem stop_ev (T : List S45) (nx : Int) (any : Bool) (hl : T.length ≤ 1000) (hT : ∀ x ∈ T, okR x.f0) : ∀ (d i : Nat), i + d = T.length → 0 < d → Ev (fun k => spec_stop.l0 k T nx any (i : Int)) (stopP T nx any d i : Int)
  | 0, i, h, h0 => by omega
  | d + 1, i, h, h0 => by
    have hw : wrap64 ((i : Int) + 1) = ((i + 1 : Nat) : Int) := by rw [wrp (by omega) (by omega)]; rfl
    rw [stopP]
    by_cases he : i + 1 = T.length
    · rw [if_pos he]
      refine Ev.step (f := fun _ => some (i : Int)) (fun k => ?_) (Ev.now _)
      simp only [spec_stop.l0]
      rw [if_pos (by omega), hw, if_pos (by omega)]
    · rw [if_neg he]
      have hi : i + 1 < T.length := by omega
      have hg : T.getD (i + 1) z45 = T[i + 1] := by rw [List.getD_eq_getElem?_getD, List.getElem?_eq_getElem hi]; rfl
      have hok := hT _ (List.getElem_mem hi)
      cases any with
      | false =>
        rw [Bool.false_and, if_neg (by decide)]
        refine Ev.step (fun k => ?_) (stop_ev T nx false hl hT d (i + 1) (by omega) (by omega))
        simp only [spec_stop.l0]
        rw [if_pos (by omega), hw, if_neg (by omega), if_neg (by decide)]
      | true =>
        rw [Bool.true_and, hg]
        have e1 : ∀ res, Ev (fun k => if alikeB T[i + 1].f0 nx = true then some (i : Int) else spec_stop.l0 k T nx true ((i + 1 : Nat) : Int)) res → Ev (fun k => spec_stop.l0 k T nx true (i : Int)) res := fun res hr => by
          refine Ev.step (fun k => ?_) (Ev.bind (f := fun k t => if t = true then some (i : Int) else spec_stop.l0 k T nx true ((i + 1 : Nat) : Int)) (alike_ev T[i + 1].f0 nx hok) hr)
          simp only [spec_stop.l0, if_true]
          rw [if_pos (by omega), hw, if_neg (by omega), if_pos (by omega), if_pos (by omega), rdT_get T (i + 1) hi]
        refine e1 _ ?_
        by_cases ha : alikeB T[i + 1].f0 nx = true
        · rw [if_pos ha]
          exact Ev.congr (fun k => by rw [if_pos ha]) (Ev.now _)
        · rw [if_neg ha]
          exact Ev.congr (fun k => by rw [if_neg ha]) (stop_ev T nx true hl hT d (i + 1) (by omega) (by omega))
/-- What a letter is worth at its place. -/
def worthP (T : List S45) (i : Nat) : Int := if i = 0 then 10 else (if (isLowerU (T.getD (i - 1) z45).f0 && isUpperU (T.getD i z45).f0) = true then 20 else 0) + (if sepR (T.getD (i - 1) z45).f0 = true then 20 else 0)
theorem sepR_eq (r : Int) : sepR r = (r == 47 || (r == 45 || (r == 95 || (r == 32 || (r == 46 || r == 92))))) := by
  unfold sepR
  rw [sepS_runes]
  simp [List.any_cons]
theorem separator_f (r : Int) : spec_separator.f r = some (sepR r) := by
  unfold spec_separator.f
  rw [sepR_eq]
  by_cases h1 : r = 47
  · rw [if_pos h1]; simp [h1]
  · rw [if_neg h1]
    by_cases h2 : r = 45
    · rw [if_pos h2]; simp [h2]
    · rw [if_neg h2]
      by_cases h3 : r = 95
      · rw [if_pos h3]; simp [h3]
      · rw [if_neg h3]
        by_cases h4 : r = 32
        · rw [if_pos h4]; simp [h4]
        · rw [if_neg h4]
          by_cases h5 : r = 46
          · rw [if_pos h5]; simp [h5]
          · rw [if_neg h5, beq_eq_false_iff_ne.2 h1, beq_eq_false_iff_ne.2 h2, beq_eq_false_iff_ne.2 h3, beq_eq_false_iff_ne.2 h4, beq_eq_false_iff_ne.2 h5]; rfl
theorem worth_ev (T : List S45) (hl : T.length ≤ 1000) (hT : ∀ x ∈ T, okR x.f0) (i : Nat) (hi : i < T.length) : Ev (fun k => spec_worth.f k T (i : Int)) (worthP T i) := by
  unfold worthP
  by_cases h0 : i = 0
  · subst h0
    refine Ev.congr (f := fun _ => some 10) (fun k => ?_) (Ev.now _)
    unfold spec_worth.f
    simp
  · have hw : wrap64 ((i : Int) - 1) = ((i - 1 : Nat) : Int) := by rw [wrp (by omega) (by omega)]; omega
    have hi1 : i - 1 < T.length := by omega
    have g1 : T.getD (i - 1) z45 = T[i - 1] := by rw [List.getD_eq_getElem?_getD, List.getElem?_eq_getElem hi1]; rfl
    have g2 : T.getD i z45 = T[i] := by rw [List.getD_eq_getElem?_getD, List.getElem?_eq_getElem hi]; rfl
    have o1 := hT _ (List.getElem_mem hi1)
    have o2 := hT _ (List.getElem_mem hi)
    have fl : unicode_IsLower.f T[i - 1].f0 = some (isLowerU T[i - 1].f0) := by unfold unicode_IsLower.f; rw [if_pos (show 0 ≤ T[i - 1].f0 ∧ T[i - 1].f0 ≤ 1114111 from o1)]
    have fu : unicode_IsUpper.f T[i].f0 = some (isUpperU T[i].f0) := by unfold unicode_IsUpper.f; rw [if_pos (show 0 ≤ T[i].f0 ∧ T[i].f0 ≤ 1114111 from o2)]
    rw [if_neg h0, g1, g2]
    have hj : ∀ b : Bool, Ev (fun k => spec_worth.j0 k T (i : Int) 0 b) ((if b = true then 20 else 0) + (if sepR T[i - 1].f0 = true then 20 else 0)) := fun b => by
      refine Ev.step (f := fun _ => some ((if b = true then 20 else 0) + (if sepR T[i - 1].f0 = true then 20 else 0))) (fun k => ?_) (Ev.now _)
      simp only [spec_worth.j0]
      rw [hw, rdT_get T (i - 1) hi1, separator_f]
      have e20 : wrap64 (0 + 20) = 20 := wrp (by omega) (by omega)
      have e40 : wrap64 (20 + 20) = 40 := wrp (by omega) (by omega)
      rw [e20, e40]
      cases b
      · rw [if_neg (by decide), if_pos (by omega), if_pos (by omega), Option.bind_some]
        cases sepR T[i - 1].f0 <;> rfl
      · rw [if_pos rfl, if_pos (by omega), if_pos (by omega), Option.bind_some]
        cases sepR T[i - 1].f0 <;> rfl
    cases hlo : isLowerU T[i - 1].f0 with
    | false =>
      rw [Bool.false_and]
      refine Ev.congr (fun k => ?_) (hj false)
      unfold spec_worth.f
      rw [if_neg (by omega), hw, if_pos (by omega), if_pos (by omega), rdT_get T (i - 1) hi1, fl, hlo, Option.bind_some, if_neg (by decide)]
    | true =>
      rw [Bool.true_and]
      refine Ev.congr (fun k => ?_) (hj (isUpperU T[i].f0))
      unfold spec_worth.f
      rw [if_neg (by omega), hw, if_pos (by omega), if_pos (by omega), rdT_get T (i - 1) hi1, fl, hlo, Option.bind_some, if_pos rfl, if_pos (by omega), if_pos (by omega), rdT_get T i hi, fu, Option.bind_some]
end Go.Proofs.YtgeimklpcfepaaaDoor
namespace Go.Proofs.YtgeimklpcfepaaaDoor
open Go.RowKit Go.Lib Go.Proofs.YtgeimklpcfepaaaDoorW.PrintWords Go.Proofs.YtgeimklpcfepaaaDoorW.PrintMore
open P
set_option linter.unusedVariables false
set_option linter.unusedSimpArgs false

def to33 (x : S49) : S33 := ⟨x.f0, x.f1, x.f2, x.f3⟩
theorem told_l0 (l : List S49) (hl : l.length ≤ 1000) (hp : ∀ x ∈ l, x.f2.length ≤ 1000) : ∀ (d i : Nat) (acc : List S33), i + d = l.length → acc.length ≤ i →
    Ev (fun k => impl_told.l0 k acc l (l.length : Int) (i : Int)) (acc ++ (l.drop i).map to33)
  | 0, i, acc, hi, ha => by
    rw [List.drop_eq_nil_of_le (by omega), List.map_nil, List.append_nil]
    refine Ev.step (f := fun _ => some acc) (fun k => ?_) (Ev.now _)
    simp only [impl_told.l0]
    rw [if_neg (by omega)]
  | d + 1, i, acc, hi, ha => by
    have hlt : i < l.length := by omega
    have hw : wrap64 ((i : Int) + 1) = ((i + 1 : Nat) : Int) := by rw [wrp (by omega) (by omega)]; rfl
    have hg : rd_T49 l (i : Int) = l[i] := by unfold rd_T49; rw [Int.toNat_natCast, List.getD_eq_getElem?_getD, List.getElem?_eq_getElem hlt]; rfl
    have h2 := hp _ (List.getElem_mem hlt)
    rw [List.drop_eq_getElem_cons hlt, List.map_cons]
    have ih := told_l0 l hl hp d (i + 1) (acc ++ [to33 l[i]]) (by omega) (by simp; omega)
    rw [List.append_assoc] at ih
    refine Ev.step (fun k => ?_) ih
    simp only [impl_told.l0]
    rw [if_pos (by omega), if_pos (by omega), if_pos (by omega), hg, if_pos (by simp; omega), if_pos (by omega), hw, List.nil_append]
    rfl
theorem told_ev (l : List S49) (hl : l.length ≤ 1000) (hp : ∀ x ∈ l, x.f2.length ≤ 1000) : Ev (fun k => impl_told.f k l) (l.map to33) := by
  have h1 := told_l0 l hl hp l.length 0 [] (by omega) (by simp)
  rw [List.drop_zero, List.nil_append] at h1
  exact h1
end Go.Proofs.YtgeimklpcfepaaaDoor
namespace Go.Proofs.YtgeimklpcfepaaaDoor
open Go.RowKit Go.Lib Go.Proofs.YtgeimklpcfepaaaDoorW.PrintWords Go.Proofs.YtgeimklpcfepaaaDoorW.PrintMore
open P
set_option linter.unusedVariables false
set_option linter.unusedSimpArgs false

def shortB (s : ByteArray) : Bool := noNul s && decide (s.size ≤ 60)
theorem bt_elem (s : ByteArray) (i : Nat) (hi : i < s.size) : (bt s (i : Int) = 0 ↔ s.data.toList[i]'(by simpa using hi) = 0) := by
  unfold bt
  rw [dif_pos (by rw [Int.toNat_natCast]; exact hi)]
  have hl : i < s.data.size := hi
  have e : ((s.data[i]).toNat : Int) = 0 ↔ s.data[i] = 0 := by
    constructor
    · intro h
      exact UInt8.toNat_inj.1 (by have : (s.data[i]).toNat = 0 := by omega
                                  rw [this]; rfl)
    · intro h; rw [h]; rfl
  have e2 : s.data.toList[i]'(by simpa using hi) = s.data[i] := by simp
  rw [e2]
  exact e
theorem short_l0 (s : ByteArray) (hz : s.size ≤ 2147483647) : ∀ (d i : Nat), i + d = s.size → Ev (fun k => spec_short.l0 k s (i : Int)) ((s.data.toList.drop i).all (fun b => b != 0) && decide (s.size ≤ 60))
  | 0, i, h => by
    rw [List.drop_eq_nil_of_le (by simp; show s.size ≤ i; omega), List.all_nil, Bool.true_and]
    refine Ev.step (f := fun _ => some (decide (s.size ≤ 60))) (fun k => ?_) (Ev.now _)
    simp only [spec_short.l0]
    rw [if_neg (by omega)]
    congr 1
    by_cases h6 : s.size ≤ 60
    · rw [decide_eq_true h6, decide_eq_true (by omega)]
    · rw [decide_eq_false h6, decide_eq_false (by omega)]
  | d + 1, i, h => by
    have hi : i < s.size := by omega
    have hl : i < s.data.toList.length := by simpa using hi
    rw [List.drop_eq_getElem_cons hl, List.all_cons]
    have hb := bt_elem s i hi
    by_cases h0 : bt s (i : Int) = 0
    · have h1 := hb.1 h0
      have h2 : (s.data.toList[i] != 0) = false := by rw [h1]; rfl
      rw [h2, Bool.false_and, Bool.false_and]
      refine Ev.step (f := fun _ => some false) (fun k => ?_) (Ev.now _)
      simp only [spec_short.l0]
      rw [if_pos (by omega), if_pos (by omega), if_pos h0]
    · have h2 : (s.data.toList[i] != 0) = true := bne_iff_ne.2 (fun h => h0 (hb.2 h))
      rw [h2, Bool.true_and]
      refine Ev.step (fun k => ?_) (short_l0 s hz d (i + 1) (by omega))
      simp only [spec_short.l0]
      rw [if_pos (by omega), if_pos (by omega), if_neg h0, wrp (by omega) (by omega)]
      rfl
theorem short_ev (s : ByteArray) (hz : s.size ≤ 2147483647) : Ev (fun k => spec_short.f k s) (shortB s) := by
  have := short_l0 s hz s.size 0 (by omega)
  rw [List.drop_zero] at this
  exact this
def shortAll (a0 : ByteArray) (l : List ByteArray) : Bool := shortB a0 && (decide ((letters a0).length ≤ 39) && (decide (l.length ≤ 20) && l.all shortB))
theorem rdS_get (l : List ByteArray) (i : Nat) (h : i < l.length) : rdOf ByteArray.empty l (i : Int) = l[i] := by
  unfold rdOf; rw [Int.toNat_natCast, List.getD_eq_getElem?_getD, List.getElem?_eq_getElem h]; rfl
theorem Short_l0 (l : List ByteArray) (hl : l.length ≤ 20) (hz : ∀ s ∈ l, s.size ≤ 2147483647) : ∀ (d i : Nat), i + d = l.length → Ev (fun k => spec_Short.l0 k l (i : Int)) ((l.drop i).all shortB)
  | 0, i, h => by
    rw [List.drop_eq_nil_of_le (by omega), List.all_nil]
    refine Ev.step (f := fun _ => some true) (fun k => ?_) (Ev.now _)
    simp only [spec_Short.l0]
    rw [if_neg (by omega)]
  | d + 1, i, h => by
    have hi : i < l.length := by omega
    have hw : wrap64 ((i : Int) + 1) = ((i + 1 : Nat) : Int) := by rw [wrp (by omega) (by omega)]; rfl
    rw [List.drop_eq_getElem_cons hi, List.all_cons]
    have e1 : ∀ res, Ev (fun k => if shortB l[i] = true then spec_Short.l0 k l ((i + 1 : Nat) : Int) else some false) res → Ev (fun k => spec_Short.l0 k l (i : Int)) res := fun res hr => by
      refine Ev.step (fun k => ?_) (Ev.bind (f := fun k t => if t = true then spec_Short.l0 k l ((i + 1 : Nat) : Int) else some false) (short_ev l[i] (hz _ (List.getElem_mem hi))) hr)
      simp only [spec_Short.l0]
      rw [if_pos (by omega), if_pos (by omega), rdS_get l i hi, hw]
    refine e1 _ ?_
    cases hs : shortB l[i] with
    | true => rw [Bool.true_and]; exact Ev.congr (fun k => by rw [if_pos rfl]) (Short_l0 l hl hz d (i + 1) (by omega))
    | false => rw [Bool.false_and]; exact Ev.congr (fun k => by rw [if_neg (by decide)]) (Ev.now _)
theorem Short_ev (a0 : ByteArray) (l : List ByteArray) (h0 : a0.size ≤ 2147483647) (hz : ∀ s ∈ l, s.size ≤ 2147483647) : Ev (fun k => spec_Short.f k a0 l) (shortAll a0 l) := by
  have hf : Ev (fun k => spec_Short.j0 k l true) false := Ev.step (f := fun _ => some false) (fun k => by simp only [spec_Short.j0, if_true]) (Ev.now _)
  refine Ev.bind (short_ev a0 h0) ?_
  unfold shortAll
  cases hs : shortB a0 with
  | false => rw [Bool.false_and]; exact Ev.congr (fun k => by rw [if_neg (by decide)]) hf
  | true =>
    have h60 : a0.size ≤ 60 := by unfold shortB at hs; simp at hs; exact hs.2
    rw [Bool.true_and]
    by_cases h39 : (letters a0).length ≤ 39
    · rw [decide_eq_true h39, Bool.true_and]
      by_cases h20 : l.length ≤ 20
      · rw [decide_eq_true h20, Bool.true_and]
        have h1 := Short_l0 l h20 hz l.length 0 (by omega)
        rw [List.drop_zero] at h1
        refine Ev.congr (f := fun k => spec_Short.j0 k l false) (fun k => ?_) (Ev.step (fun k => by simp only [spec_Short.j0]; rw [if_neg (by decide)]; rfl) h1)
        unfold spec_Letters.f
        rw [if_pos rfl, if_pos (by omega), Option.bind_some, if_neg (by omega), decide_eq_false (by omega)]
      · rw [decide_eq_false h20, Bool.false_and]
        refine Ev.congr (fun k => ?_) hf
        unfold spec_Letters.f
        rw [if_pos rfl, if_pos (by omega), Option.bind_some, if_neg (by omega), decide_eq_true (by omega)]
    · rw [decide_eq_false h39, Bool.false_and]
      refine Ev.congr (fun k => ?_) hf
      unfold spec_Letters.f
      rw [if_pos rfl, if_pos (by omega), Option.bind_some, if_pos (by omega)]
end Go.Proofs.YtgeimklpcfepaaaDoor
