/- Which letters are alike: the orbits of SimpleFold. -/
import Derived.Test.YtgeimklpcfepaaaDoorOrbit
import Derived.Test.YtgeimklpcfepaaaDoorP6
namespace Go.Proofs.YtgeimklpcfepaaaDoor
open Go.RowKit Go.Lib Go.Proofs.YtgeimklpcfepaaaDoorW.PrintWords Go.Proofs.YtgeimklpcfepaaaDoorW.PrintMore
open P
set_option linter.unusedVariables false
set_option linter.unusedSimpArgs false

theorem back_all : caseT.all rowBack = true := by
 have h : ∀ (n : Nat) (l : List CaseRow), (l.take n).all rowBack = true → (l.drop n).all rowBack = true → l.all rowBack = true := fun n l h1 h2 => by
  rw [← List.take_append_drop n l, List.all_append, h1, h2]; rfl
 have e : ∀ n m : Nat, (caseT.drop n).drop m = caseT.drop (n + m) := fun n m => by rw [List.drop_drop]
 have z : (caseT.drop 336).all rowBack = true := by decide
 replace z : (caseT.drop 332).all rowBack = true := h 4 _ back_rows23 (by rw [e]; exact z)
 replace z : (caseT.drop 328).all rowBack = true := h 4 _ back_rows22 (by rw [e]; exact z)
 replace z : (caseT.drop 324).all rowBack = true := h 4 _ back_rows21 (by rw [e]; exact z)
 replace z : (caseT.drop 315).all rowBack = true := h 9 _ back_rows20 (by rw [e]; exact z)
 replace z : (caseT.drop 312).all rowBack = true := h 3 _ back_rows19 (by rw [e]; exact z)
 replace z : (caseT.drop 309).all rowBack = true := h 3 _ back_rows18 (by rw [e]; exact z)
 replace z : (caseT.drop 282).all rowBack = true := h 27 _ back_rows17 (by rw [e]; exact z)
 replace z : (caseT.drop 278).all rowBack = true := h 4 _ back_rows16 (by rw [e]; exact z)
 replace z : (caseT.drop 272).all rowBack = true := h 6 _ back_rows15 (by rw [e]; exact z)
 replace z : (caseT.drop 257).all rowBack = true := h 15 _ back_rows14 (by rw [e]; exact z)
 replace z : (caseT.drop 251).all rowBack = true := h 6 _ back_rows13 (by rw [e]; exact z)
 replace z : (caseT.drop 200).all rowBack = true := h 51 _ back_rows12 (by rw [e]; exact z)
 replace z : (caseT.drop 190).all rowBack = true := h 10 _ back_rows11 (by rw [e]; exact z)
 replace z : (caseT.drop 189).all rowBack = true := h 1 _ back_rows10 (by rw [e]; exact z)
 replace z : (caseT.drop 187).all rowBack = true := h 2 _ back_rows9 (by rw [e]; exact z)
 replace z : (caseT.drop 172).all rowBack = true := h 15 _ back_rows8 (by rw [e]; exact z)
 replace z : (caseT.drop 166).all rowBack = true := h 6 _ back_rows7 (by rw [e]; exact z)
 replace z : (caseT.drop 164).all rowBack = true := h 2 _ back_rows6 (by rw [e]; exact z)
 replace z : (caseT.drop 159).all rowBack = true := h 5 _ back_rows5 (by rw [e]; exact z)
 replace z : (caseT.drop 144).all rowBack = true := h 15 _ back_rows4 (by rw [e]; exact z)
 replace z : (caseT.drop 78).all rowBack = true := h 66 _ back_rows3 (by rw [e]; exact z)
 replace z : (caseT.drop 33).all rowBack = true := h 45 _ back_rows2 (by rw [e]; exact z)
 replace z : (caseT.drop 8).all rowBack = true := h 25 _ back_rows1 (by rw [e]; exact z)
 replace z : (caseT.drop 0).all rowBack = true := h 8 _ back_rows0 (by rw [e]; exact z)
 exact z
theorem mem_caseA (r : Int) (i : Nat) (h : lookupIdx caseA r (caseA.size + 1) 0 caseA.size = some i) : ∃ x ∈ caseT, (x.1 : Int) ≤ r ∧ r ≤ (x.2.1 : Int) := by
 obtain ⟨hi, h1, h2⟩ := lookupIdx_some caseA r _ _ _ i h
 refine ⟨caseA.getD i (0, 0, 0, 0, 0), ?_, h1, h2⟩
 have hl : i < caseT.length := by simpa [caseA] using hi
 unfold caseA
 simp [Array.getD, hl]
/-- Back in two steps, or one of a long orbit. -/
theorem sfold_back (r : Int) (h0 : 0 ≤ r) (h1 : r ≤ 1114111) : (0 ≤ sfold r ∧ sfold r ≤ 1114111) ∧ (sfold (sfold r) = r ∨ r ∈ longL) := by
 have hB : backB r = true := by
  by_cases hl : r < 128
  · have := List.all_eq_true.1 back_ascii r.toNat (List.mem_range.2 (by omega))
    rwa [show ((r.toNat : Nat) : Int) = r by omega] at this
  · cases ho : orbOf r with
    | some t =>
     unfold orbOf at ho
     rw [Option.map_eq_some_iff] at ho
     obtain ⟨p, hp, _⟩ := ho
     have h2 := List.find?_some hp
     have h3 := List.mem_of_find?_eq_some hp
     have := List.all_eq_true.1 back_orbit p h3
     rw [beq_iff_eq] at h2
     rwa [h2] at this
    | none =>
     cases hi : lookupIdx caseA r (caseA.size + 1) 0 caseA.size with
     | none =>
      have hs : sfold r = r := by
       unfold sfold toW
       rw [if_neg hl, ho]
       simp only [hi]
       simp
      unfold backB
      rw [hs, hs]
      simp [h0, h1]
     | some i =>
      obtain ⟨x, hx, hx1, hx2⟩ := mem_caseA r i hi
      have h2 := List.all_eq_true.1 back_all x hx
      unfold rowBack at h2
      have h3 := List.all_eq_true.1 h2 (r.toNat - x.1) (List.mem_range.2 (by omega))
      rwa [show ((x.1 + (r.toNat - x.1) : Nat) : Int) = r by omega] at h3
 unfold backB at hB
 rw [Bool.and_eq_true, Bool.or_eq_true, decide_eq_true_eq, decide_eq_true_eq, List.contains_iff_mem] at hB
 exact hB

/-- n steps of SimpleFold. -/
def sfN : Nat → Int → Int
 | 0, r => r
 | n + 1, r => sfN n (sfold r)
theorem sfN_add (r : Int) : ∀ n m, sfN (n + m) r = sfN m (sfN n r)
 | 0, m => by rw [Nat.zero_add]; rfl
 | n + 1, m => by rw [show n + 1 + m = (n + m) + 1 by omega]; exact sfN_add (sfold r) n m
/-- What is told of the long orbits, rune by rune: a rune, its next ones, a step that leads back; the ones that are greater come in their order. -/
def longOk (r : Int) : Bool :=
 let a := sfold r; let b := sfold a; let c := sfold b; let d := sfold c
 (decide (c = r) || decide (d = r)) && decide (a ≠ r) && decide (b ≠ r) &&
 (decide (0 ≤ a ∧ a ≤ 1114111) && decide (0 ≤ b ∧ b ≤ 1114111) && decide (0 ≤ c ∧ c ≤ 1114111)) &&
 (decide (b ≤ r) || decide (a < b)) && (decide (c ≤ r) || (decide (a < c) && decide (b < c)))
theorem long_ok : longL.all longOk = true := by kernel_rfl
/-- Are two letters alike? -/
def alikeB (a b : Int) : Bool := a == b || (sfold a == b || (sfold (sfold a) == b || sfold (sfold (sfold a)) == b))
def okR (r : Int) : Prop := 0 ≤ r ∧ r ≤ 1114111
theorem okR_sfold {r : Int} (h : okR r) : okR (sfold r) := (sfold_back r h.1 h.2).1
theorem okR_sfN : ∀ (n : Nat) {r : Int}, okR r → okR (sfN n r)
 | 0, _, h => h
 | n + 1, _, h => okR_sfN n (okR_sfold h)
theorem long_facts {r : Int} (h : r ∈ longL) : (sfold (sfold (sfold r)) = r ∨ sfold (sfold (sfold (sfold r))) = r) ∧ sfold r ≠ r ∧ sfold (sfold r) ≠ r ∧ (sfold (sfold r) ≤ r ∨ sfold r < sfold (sfold r)) ∧ (sfold (sfold (sfold r)) ≤ r ∨ (sfold r < sfold (sfold (sfold r)) ∧ sfold (sfold r) < sfold (sfold (sfold r)))) := by
 have := List.all_eq_true.1 long_ok r h
 unfold longOk at this
 simp only [Bool.and_eq_true, Bool.or_eq_true, decide_eq_true_eq] at this
 obtain ⟨⟨⟨⟨⟨h1, h2⟩, h3⟩, _⟩, h5⟩, h6⟩ := this
 exact ⟨h1, h2, h3, h5, h6⟩
theorem period {r : Int} (h : okR r) : ∃ p : Nat, 1 ≤ p ∧ p ≤ 4 ∧ sfN p r = r := by
 rcases (sfold_back r h.1 h.2).2 with h2 | h2
 · exact ⟨2, by omega, by omega, h2⟩
 · rcases (long_facts h2).1 with h3 | h3
   · exact ⟨3, by omega, by omega, h3⟩
   · exact ⟨4, by omega, by omega, h3⟩
theorem sfN_mul (r : Int) (p : Nat) (h : sfN p r = r) : ∀ q, sfN (p * q) r = r
 | 0 => rfl
 | q + 1 => by rw [Nat.mul_succ, sfN_add, sfN_mul r p h q]; exact h
theorem sfN_mod (r : Int) (p n : Nat) (h : sfN p r = r) : sfN n r = sfN (n % p) r := by
 have h1 : n = p * (n / p) + n % p := (Nat.div_add_mod n p).symm
 conv => lhs; rw [h1, sfN_add, sfN_mul r p h]
theorem alikeB_iff {a b : Int} (ha : okR a) : alikeB a b = true ↔ ∃ n, sfN n a = b := by
 unfold alikeB
 simp only [Bool.or_eq_true, beq_iff_eq]
 constructor
 · rintro (h | h | h | h)
   · exact ⟨0, h⟩
   · exact ⟨1, h⟩
   · exact ⟨2, h⟩
   · exact ⟨3, h⟩
 · rintro ⟨n, hn⟩
   obtain ⟨p, h1, h4, hp⟩ := period ha
   rw [sfN_mod a p n hp] at hn
   have hlt : n % p < p := Nat.mod_lt _ (by omega)
   generalize n % p = m at hn hlt
   match m, hn with
   | 0, hn => exact Or.inl hn
   | 1, hn => exact Or.inr (Or.inl hn)
   | 2, hn => exact Or.inr (Or.inr (Or.inl hn))
   | 3, hn => exact Or.inr (Or.inr (Or.inr hn))
   | m + 4, _ => omega
theorem alikeB_symm1 {a b : Int} (ha : okR a) (h : alikeB a b = true) : alikeB b a = true := by
 obtain ⟨n, hn⟩ := (alikeB_iff ha).1 h
 obtain ⟨p, h1, h4, hp⟩ := period ha
 have hb : okR b := hn ▸ okR_sfN n ha
 refine (alikeB_iff hb).2 ⟨p * n - n, ?_⟩
 have h5 : n ≤ p * n := Nat.le_mul_of_pos_left n h1
 rw [← hn, ← sfN_add, show n + (p * n - n) = p * n by omega]
 exact sfN_mul a p hp n
theorem alikeB_symm {a b : Int} (ha : okR a) (hb : okR b) : alikeB a b = alikeB b a := by
 rw [Bool.eq_iff_iff]
 exact ⟨alikeB_symm1 ha, alikeB_symm1 hb⟩
theorem alikeB_trans {a b c : Int} (ha : okR a) (h1 : alikeB a b = true) (h2 : alikeB b c = true) : alikeB a c = true := by
 obtain ⟨n, hn⟩ := (alikeB_iff ha).1 h1
 have hb : okR b := hn ▸ okR_sfN n ha
 obtain ⟨m, hm⟩ := (alikeB_iff hb).1 h2
 exact (alikeB_iff ha).2 ⟨n + m, by rw [sfN_add, hn, hm]⟩
/-- Letters alike are alike to the same ones. -/
theorem alikeB_same {a b : Int} (c : Int) (ha : okR a) (hb : okR b) (h : alikeB a b = true) : alikeB a c = alikeB b c := by
 rw [Bool.eq_iff_iff]
 exact ⟨fun h2 => alikeB_trans hb (alikeB_symm1 ha h) h2, fun h2 => alikeB_trans ha h h2⟩

def asciiOk (s : Int) : Bool :=
 ([sfold s, sfold (sfold s), sfold (sfold (sfold s))].all fun x => decide (128 ≤ x) || (decide (x ≤ s) || (decide (65 ≤ s ∧ s ≤ 90) && decide (x = s + 32)))) &&
 (!decide (65 ≤ s ∧ s ≤ 90) || alikeB s (s + 32))
theorem ascii_ok : (List.range 128).all (fun (c : Nat) => asciiOk (c : Int)) = true := by kernel_rfl
theorem fold_f (r : Int) (h : okR r) : unicode_SimpleFold.f r = some (sfold r) := by unfold unicode_SimpleFold.f; rw [if_pos (show 0 ≤ r ∧ r ≤ 1114111 from h)]
theorem equal_l0 (t s : Int) (hs : okR s) (h : s < t) : Ev (fun k => sahilm_equalFold.l0 k t s (sfold s)) (alikeB s t) := by
 have hst : (s == t) = false := beq_eq_false_iff_ne.2 (by omega)
 have fin : ∀ x, (x = s ∨ ¬ x < t) → Ev (fun k => sahilm_equalFold.l0 k t s x) (x == t) := fun x hx => by
  refine Ev.step (f := fun _ => some (x == t)) (fun k => ?_) (Ev.now _)
  simp only [sahilm_equalFold.l0]
  by_cases e : x = s
  · rw [if_pos e]
  · rw [if_neg e, if_neg (by omega)]
 have step : ∀ x r, okR x → x ≠ s → x < t → Ev (fun k => sahilm_equalFold.l0 k t s (sfold x)) r → Ev (fun k => sahilm_equalFold.l0 k t s x) r := fun x r ho hx ht hr => by
  refine Ev.step (fun k => ?_) hr
  simp only [sahilm_equalFold.l0]
  rw [if_neg hx, if_pos ht, fold_f x ho, Option.bind_some]
 have o1 := okR_sfold hs
 have o2 := okR_sfold o1
 have o3 := okR_sfold o2
 unfold alikeB
 rw [hst, Bool.false_or]
 rcases (sfold_back s hs.1 hs.2).2 with h2 | h2
 · rw [h2, hst, Bool.false_or]
   have e1 : (sfold s == t || sfold s == t) = (sfold s == t) := Bool.or_self _
   rw [e1]
   by_cases c1 : sfold s = s ∨ ¬ sfold s < t
   · exact fin _ c1
   · refine step _ _ o1 (by omega) (by omega) ?_
     rw [h2, show (sfold s == t) = (s == t) by rw [hst]; exact beq_eq_false_iff_ne.2 (by omega)]
     exact fin _ (Or.inl rfl)
 · obtain ⟨f1, f2, f3, f4, f5⟩ := long_facts h2
   by_cases c1 : ¬ sfold s < t
   · have : (sfold s == t || (sfold (sfold s) == t || sfold (sfold (sfold s)) == t)) = (sfold s == t) := by
      rw [show (sfold (sfold s) == t) = false from beq_eq_false_iff_ne.2 (by omega), show (sfold (sfold (sfold s)) == t) = false from beq_eq_false_iff_ne.2 (by omega)]
      simp
     rw [this]
     exact fin _ (Or.inr c1)
   · refine step _ _ o1 f2 (by omega) ?_
     rw [show (sfold s == t) = false from beq_eq_false_iff_ne.2 (by omega), Bool.false_or]
     by_cases c2 : ¬ sfold (sfold s) < t
     · have : (sfold (sfold s) == t || sfold (sfold (sfold s)) == t) = (sfold (sfold s) == t) := by
        rw [show (sfold (sfold (sfold s)) == t) = false from beq_eq_false_iff_ne.2 (by omega)]
        simp
       rw [this]
       exact fin _ (Or.inr c2)
     · refine step _ _ o2 f3 (by omega) ?_
       rw [show (sfold (sfold s) == t) = false from beq_eq_false_iff_ne.2 (by omega), Bool.false_or]
       by_cases c3 : sfold (sfold (sfold s)) = s ∨ ¬ sfold (sfold (sfold s)) < t
       · exact fin _ c3
       · refine step _ _ o3 (by omega) (by omega) ?_
         have h4 : sfold (sfold (sfold (sfold s))) = s := by omega
         rw [h4, show (sfold (sfold (sfold s)) == t) = (s == t) by rw [hst]; exact beq_eq_false_iff_ne.2 (by omega)]
         exact fin _ (Or.inl rfl)
theorem equal_j0 (t s : Int) (hs : okR s) (ht : okR t) (h : s < t) : Ev (fun k => sahilm_equalFold.j0 k t s) (alikeB s t) := by
 by_cases h8 : t < 128
 · have hA := List.all_eq_true.1 ascii_ok s.toNat (List.mem_range.2 (by have := hs.1; omega))
   rw [show ((s.toNat : Nat) : Int) = s by have := hs.1; omega] at hA
   unfold asciiOk at hA
   simp only [List.all_cons, List.all_nil, Bool.and_true, Bool.and_eq_true, Bool.or_eq_true, decide_eq_true_eq, Bool.not_eq_true', decide_eq_false_iff_not] at hA
   obtain ⟨⟨a1, a2, a3⟩, a4⟩ := hA
   have hw : 65 ≤ s → s ≤ 90 → wrap32 (wrap32 (s + 97) - 65) = s + 32 := fun h1 h2 => by unfold wrap32; omega
   have key : alikeB s t = decide (65 ≤ s ∧ s ≤ 90 ∧ t = s + 32) := by
    by_cases c : 65 ≤ s ∧ s ≤ 90 ∧ t = s + 32
    · rw [decide_eq_true c, c.2.2]
      rcases a4 with a4 | a4
      · exact absurd ⟨c.1, c.2.1⟩ a4
      · exact a4
    · rw [decide_eq_false c]
      unfold alikeB
      rw [show (s == t) = false from beq_eq_false_iff_ne.2 (by omega), show (sfold s == t) = false from beq_eq_false_iff_ne.2 (by omega), show (sfold (sfold s) == t) = false from beq_eq_false_iff_ne.2 (by omega), show (sfold (sfold (sfold s)) == t) = false from beq_eq_false_iff_ne.2 (by omega)]
      rfl
   rw [key]
   refine Ev.step (f := fun _ => some (decide (65 ≤ s ∧ s ≤ 90 ∧ t = s + 32))) (fun k => ?_) (Ev.now _)
   simp only [sahilm_equalFold.j0]
   rw [if_pos h8]
   by_cases c1 : 65 ≤ s
   · by_cases c2 : s ≤ 90
     · rw [if_pos c1, if_pos c2, hw c1 c2]
       by_cases c3 : t = s + 32
       · rw [if_pos c3, decide_eq_true ⟨c1, c2, c3⟩]
       · rw [if_neg c3, decide_eq_false (fun h => c3 h.2.2)]
     · rw [if_pos c1, if_neg c2, decide_eq_false (fun h => c2 h.2.1)]
   · rw [if_neg c1, decide_eq_false (fun h => c1 h.1)]
 · refine Ev.step (fun k => ?_) (equal_l0 t s hs h)
   simp only [sahilm_equalFold.j0]
   rw [if_neg h8, fold_f s hs, Option.bind_some]
/-- equalFold tells whether letters are alike. -/
theorem equal_ev (a b : Int) (ha : okR a) (hb : okR b) : Ev (fun k => sahilm_equalFold.f k a b) (alikeB a b) := by
 by_cases e : a = b
 · subst e
   refine Ev.congr (f := fun _ => some (alikeB a a)) (fun k => ?_) (Ev.now _)
   unfold sahilm_equalFold.f alikeB
   rw [if_pos rfl]; simp
 · by_cases h : a < b
   · refine Ev.congr (fun k => ?_) (equal_j0 b a ha hb h)
     unfold sahilm_equalFold.f
     rw [if_neg e, if_pos h]
   · rw [alikeB_symm ha hb]
     refine Ev.congr (fun k => ?_) (equal_j0 a b hb ha (by omega))
     unfold sahilm_equalFold.f
     rw [if_neg e, if_neg h]
/-- spec.Alike is the same. -/
theorem alike_ev (a b : Int) (ha : okR a) : Ev (fun k => spec_Alike.f k a b) (alikeB a b) := by
 have fin : ∀ x, x = b → Ev (fun k => spec_Alike.l0 k a b x) true := fun x hx => by
  refine Ev.step (f := fun _ => some true) (fun k => ?_) (Ev.now _)
  simp only [spec_Alike.l0]
  rw [if_pos hx]
 have no : ∀ x, okR x → x ≠ b → sfold x = a → Ev (fun k => spec_Alike.l0 k a b x) false := fun x ho hx h => by
  refine Ev.step (f := fun _ => some false) (fun k => ?_) (Ev.now _)
  simp only [spec_Alike.l0]
  rw [if_neg hx, fold_f x ho, Option.bind_some, if_pos h]
 have step : ∀ x r, okR x → x ≠ b → sfold x ≠ a → Ev (fun k => spec_Alike.l0 k a b (sfold x)) r → Ev (fun k => spec_Alike.l0 k a b x) r := fun x r ho hx h hr => by
  refine Ev.step (fun k => ?_) hr
  simp only [spec_Alike.l0]
  rw [if_neg hx, fold_f x ho, Option.bind_some, if_neg h]
 have o1 := okR_sfold ha
 have o2 := okR_sfold o1
 have o3 := okR_sfold o2
 have h4 : sfold (sfold a) = a ∨ sfold (sfold (sfold a)) = a ∨ sfold (sfold (sfold (sfold a))) = a := by
  rcases (sfold_back a ha.1 ha.2).2 with h | h
  · exact Or.inl h
  · exact Or.inr (long_facts h).1
 show Ev (fun k => spec_Alike.l0 k a b a) (alikeB a b)
 unfold alikeB
 by_cases c0 : a = b
 · rw [beq_iff_eq.2 c0, Bool.true_or]; exact fin _ c0
 · rw [show (a == b) = false from beq_eq_false_iff_ne.2 c0, Bool.false_or]
   by_cases d1 : sfold a = a
   · rw [d1, d1, d1, show (a == b) = false from beq_eq_false_iff_ne.2 c0]
     exact no a ha c0 d1
   · refine step _ _ ha c0 d1 ?_
     by_cases c1 : sfold a = b
     · rw [beq_iff_eq.2 c1, Bool.true_or]; exact fin _ c1
     · rw [show (sfold a == b) = false from beq_eq_false_iff_ne.2 c1, Bool.false_or]
       by_cases d2 : sfold (sfold a) = a
       · rw [d2, show (a == b) = false from beq_eq_false_iff_ne.2 c0, show (sfold a == b) = false from beq_eq_false_iff_ne.2 c1]
         exact no _ o1 c1 d2
       · refine step _ _ o1 c1 d2 ?_
         by_cases c2 : sfold (sfold a) = b
         · rw [beq_iff_eq.2 c2, Bool.true_or]; exact fin _ c2
         · rw [show (sfold (sfold a) == b) = false from beq_eq_false_iff_ne.2 c2, Bool.false_or]
           by_cases d3 : sfold (sfold (sfold a)) = a
           · rw [d3, show (a == b) = false from beq_eq_false_iff_ne.2 c0]
             exact no _ o2 c2 d3
           · refine step _ _ o2 c2 d3 ?_
             by_cases c3 : sfold (sfold (sfold a)) = b
             · rw [beq_iff_eq.2 c3]; exact fin _ c3
             · rw [show (sfold (sfold (sfold a)) == b) = false from beq_eq_false_iff_ne.2 c3]
               refine no _ o3 c3 ?_
               rcases h4 with h | h | h
               · exact absurd h d2
               · exact absurd h d3
               · exact h
end Go.Proofs.YtgeimklpcfepaaaDoor
