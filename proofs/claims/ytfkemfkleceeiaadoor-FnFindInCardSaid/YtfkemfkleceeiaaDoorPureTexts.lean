/- Which texts are taken. -/
import Derived.Test.YtfkemfkleceeiaaDoorExtPlain
import Derived.Test.YtfkemfkleceeiaaDoorTexts
import Derived.Test.YtfkemfkleceeiaaDoorPureLev
import Derived.Test.YtfkemfkleceeiaaDoorP6
import Derived.Test.YtfkemfkleceeiaaDoorP8
namespace Go.Proofs.YtfkemfkleceeiaaDoor
open Go.RowKit Go.Proofs.YtfkemfkleceeiaaDoorW.PrintWords Go.Proofs.YtfkemfkleceeiaaDoorW.PrintMore
open P
set_option linter.unusedSimpArgs false
set_option linter.unusedVariables false

theorem plainB_iff (s : ByteArray) : plainB s = true ↔ (∀ x ∈ strRunes s, x ≠ 65533) ∧ s.size ≤ 60 := by
  unfold plainB
  rw [Bool.and_eq_true, List.all_eq_true, decide_eq_true_eq]
  constructor
  · rintro ⟨h1, h2⟩; exact ⟨fun x hx => bne_iff_ne.1 (h1 x hx), h2⟩
  · rintro ⟨h1, h2⟩; exact ⟨fun x hx => bne_iff_ne.2 (h1 x hx), h2⟩
def allPlainB (a0 : ByteArray) (l : List ByteArray) : Bool := plainB a0 && (decide (l.length ≤ 20) && l.all plainB)
theorem rdOf_get (l : List ByteArray) (i : Nat) (h : i < l.length) : rdOf ByteArray.empty l (i : Int) = l[i] := by
  unfold rdOf; rw [Int.toNat_natCast, List.getD_eq_getElem?_getD, List.getElem?_eq_getElem h]; rfl
theorem allPlain_l0 (l : List ByteArray) (hl : l.length ≤ 20) : ∀ (d i : Nat), i + d = l.length → Ev (fun k => spec_AllPlain.l0 k l (i : Int)) ((l.drop i).all plainB)
  | 0, i, h => by
    rw [List.drop_eq_nil_of_le (by omega)]
    refine Ev.step (f := fun _ => some true) (fun k => ?_) (Ev.now _)
    simp only [spec_AllPlain.l0]
    rw [if_neg (by omega)]
  | d + 1, i, h => by
    have hi : i < l.length := by omega
    rw [List.drop_eq_getElem_cons hi, List.all_cons]
    by_cases hb : plainB l[i] = true
    · rw [hb, Bool.true_and]
      refine Ev.step (fun k => ?_) (allPlain_l0 l hl d (i + 1) (by omega))
      simp only [spec_AllPlain.l0, spec_Plain.f]
      rw [if_pos (by omega), if_pos (by omega), Option.bind_some, rdOf_get l i hi, if_pos hb, wr (by omega) (by omega)]
      congr 1
    · rw [Bool.eq_false_iff.2 hb, Bool.false_and]
      refine Ev.step (f := fun _ => some false) (fun k => ?_) (Ev.now _)
      simp only [spec_AllPlain.l0, spec_Plain.f]
      rw [if_pos (by omega), if_pos (by omega), Option.bind_some, rdOf_get l i hi, if_neg hb]
theorem allPlain_ev (a0 : ByteArray) (l : List ByteArray) : Ev (fun k => spec_AllPlain.f k a0 l) (allPlainB a0 l) := by
  have hj : Ev (fun k => spec_AllPlain.j0 k l true) false := Ev.step (f := fun _ => some false) (fun k => by simp only [spec_AllPlain.j0, if_true]) (Ev.now _)
  unfold allPlainB
  by_cases h0 : plainB a0 = true
  · rw [h0, Bool.true_and]
    by_cases h1 : l.length ≤ 20
    · rw [decide_eq_true h1, Bool.true_and]
      have h2 := allPlain_l0 l h1 l.length 0 (by omega)
      rw [List.drop_zero] at h2
      have h3 : Ev (fun k => spec_AllPlain.j0 k l false) (l.all plainB) := Ev.step (fun k => by simp only [spec_AllPlain.j0]; rw [if_neg (by decide)]; rfl) h2
      refine Ev.congr (fun k => ?_) h3
      unfold spec_AllPlain.f spec_Plain.f
      rw [Option.bind_some, if_pos h0, decide_eq_false (by omega)]
    · rw [decide_eq_false h1, Bool.false_and]
      refine Ev.congr (fun k => ?_) hj
      unfold spec_AllPlain.f spec_Plain.f
      rw [Option.bind_some, if_pos h0, decide_eq_true (by omega)]
  · rw [Bool.eq_false_iff.2 h0, Bool.false_and]
    refine Ev.congr (fun k => ?_) hj
    unfold spec_AllPlain.f spec_Plain.f
    rw [Option.bind_some, if_neg h0]
theorem areTexts_l0 (a0 : ByteArray) (l : List ByteArray) (h : allPlainB a0 l = true) : ∀ (d i : Nat), i + d = l.length → Ev (fun k => impl_areTexts.l0 k false a0 l l (l.length : Int) (i : Int)) true
  | 0, i, hi => by
    unfold allPlainB at h
    simp only [Bool.and_eq_true, decide_eq_true_eq] at h
    refine Ev.step (f := fun _ => some true) (fun k => ?_) (Ev.now _)
    simp only [impl_areTexts.l0, impl_isText.f]
    rw [if_neg (by omega), if_neg (by decide), Option.bind_some, if_pos h.1, decide_eq_true (by omega)]
  | d + 1, i, hi => by
    have h' := h
    unfold allPlainB at h'
    simp only [Bool.and_eq_true, decide_eq_true_eq] at h'
    have hlt : i < l.length := by omega
    refine Ev.step (fun k => ?_) (areTexts_l0 a0 l h d (i + 1) (by omega))
    simp only [impl_areTexts.l0, impl_isText.f]
    rw [if_pos (by omega), if_pos (by omega), if_pos (by omega), Option.bind_some, rdOf_get l i hlt, if_pos (List.all_eq_true.1 h'.2.2 _ (List.getElem_mem hlt)), wr (by omega) (by omega)]
    congr 1
theorem areTexts_ev (a0 : ByteArray) (l : List ByteArray) (h : allPlainB a0 l = true) : Ev (fun k => impl_areTexts.f k false a0 l) true := by
  refine Ev.congr (fun k => ?_) (areTexts_l0 a0 l h l.length 0 (by omega))
  unfold impl_areTexts.f
  rfl
theorem allPlain_one {a0 a1 : ByteArray} (h : allPlainB a0 [a1] = true) : plainB a0 = true ∧ plainB a1 = true := by
  unfold allPlainB at h
  simpa using h
end Go.Proofs.YtfkemfkleceeiaaDoor
