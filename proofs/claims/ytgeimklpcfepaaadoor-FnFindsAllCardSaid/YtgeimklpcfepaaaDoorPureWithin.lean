/- Within, evaluated: the letters stand in a text if, and only if, the loop takes them all; the law FnFindsAll. -/
import Derived.Test.YtgeimklpcfepaaaDoorPureFound
import Derived.Test.YtgeimklpcfepaaaDoorP9
namespace Go.Proofs.YtgeimklpcfepaaaDoor
open Go.RowKit Go.Lib Go.Proofs.YtgeimklpcfepaaaDoorW.PrintWords Go.Proofs.YtgeimklpcfepaaaDoorW.PrintMore
open P
set_option linter.unusedVariables false
set_option linter.unusedSimpArgs false

theorem rnd_btw {W : List Int} (hW : ∀ x ∈ W, okR x) {T : List S45} (hT : Txt T) (kk b e : Nat) (he : e < T.length) (hb : alikeB (T.getD b z45).f0 (W.getD kk 0) = true) (hno : ∀ q, b ≤ q → q < e → takeC W T kk q = false) (hyes : takeC W T kk e = true) (taken : Int) :
    ∀ (d q : Nat) (sum best : Int) (wh : Nat) (st : St), q + d = e → Rnd T kk q b sum taken best wh st → ∃ (st2 : St) (tk : Nat) (sum2 : Int), loopS W (T.drop q) st = loopS W (T.drop (e + 1)) st2 ∧ Btw W T (kk + 1) (e + 1) sum2 tk st2 := by
  intro d
  induction d with
  | succ d ih =>
    intro q sum best wh st hq hR
    obtain ⟨hR2, hb0⟩ := hR.cand (W := W) hT (by omega) (fun e => by rw [e]; exact hb)
    have hqT : q < T.length := by omega
    have hstep : stepS W T[q] (T.drop (q + 1)) st = { candS W T[q].f1 T[q].f0 st with last := T[q].f0, lastI := T[q].f1 } := by
      unfold stepS takeS
      obtain ⟨k1, _⟩ := candS_keeps W T[q].f1 T[q].f0 st
      rw [k1, hR.pi]
      have hn := hno q hR.qb (by omega)
      unfold takeC at hn
      rw [hn, if_neg (by decide)]
    rw [loop_step W T q hqT st, hstep]
    exact ih (q + 1) _ _ _ _ (by omega) hR2
  | zero =>
    intro q sum best wh st hq hR
    have hqe : q = e := by omega
    subst hqe
    obtain ⟨hR2, hb0⟩ := hR.cand (W := W) hT (by omega) (fun e => by rw [e]; exact hb)
    obtain ⟨st2, w2, hstep, hB, _⟩ := last_btw hW hT he hyes rfl hR.k38 hR2 hb0
    rw [loop_step W T q he st, hstep]
    exact ⟨st2, _, _, rfl, hB⟩
theorem first_stop (T : List S45) (nx : Int) : ∀ (d i : Nat), i + d + 1 = T.length → firstP T nx d (i + 1) = stopP T nx true (d + 1) i + 1
  | 0, i, h => by
    rw [stopP, if_pos (by omega)]; rfl
  | d + 1, i, h => by
    rw [stopP, if_neg (by omega), firstP]
    by_cases hc : alikeB (T.getD (i + 1) z45).f0 nx = true
    · rw [if_pos hc, if_pos (by rw [hc]; rfl)]
    · rw [if_neg hc, if_neg (by rw [Bool.true_and]; exact hc)]
      exact first_stop T nx d (i + 1) (by omega)
theorem stage_within {W : List Int} (hW : ∀ x ∈ W, okR x) {T : List S45} (hT : Txt T) (kk b : Nat) (hb : b < T.length) (hal : alikeB (T.getD b z45).f0 (W.getD kk 0) = true) {sum taken : Int} {st : St} (hR : Rnd T kk b b sum taken (-1) 0 st) :
    ∃ (e : Nat) (st2 : St) (tk : Nat) (sum2 : Int), e < T.length ∧ loopS W (T.drop b) st = loopS W (T.drop (e + 1)) st2 ∧ Btw W T (kk + 1) (e + 1) sum2 tk st2 ∧ (kk + 1 < W.length → firstP T (W.getD (kk + 1) 0) (T.length - (b + 1)) (b + 1) = e + 1) := by
  generalize hany : decide (kk + 1 < W.length) = any
  obtain ⟨s1, s2, s3, s4⟩ := stopP_spec T (nextP W kk) any (T.length - b) b (by omega) (by omega)
  have hfs : kk + 1 < W.length → firstP T (W.getD (kk + 1) 0) (T.length - (b + 1)) (b + 1) = stopP T (nextP W kk) any (T.length - b) b + 1 := fun hk => by
    rw [← hany, decide_eq_true hk]
    unfold nextP
    rw [if_pos hk, first_stop T (W.getD (kk + 1) 0) (T.length - (b + 1)) b (by omega), show T.length - (b + 1) + 1 = T.length - b by omega]
  generalize stopP T (nextP W kk) any (T.length - b) b = e at s1 s2 s3 s4 hfs
  have hno : ∀ q, b ≤ q → q < e → takeC W T kk q = false := fun q q1 q2 => by
    obtain ⟨a1, a2⟩ := s3 q q1 q2
    rw [takeC_iff hW hT kk q (by omega), decide_eq_false a1, Bool.false_or, hany]
    exact a2
  have hyes : takeC W T kk e = true := by
    rw [takeC_iff hW hT kk e s2, hany]
    rcases s4 with a | a
    · rw [decide_eq_true a, Bool.true_or]
    · rw [a, Bool.or_true]
  obtain ⟨st2, tk, sum2, h1, h2⟩ := rnd_btw hW hT kk b e s2 hal hno hyes taken (e - b) b sum (-1) 0 st (by omega) hR
  exact ⟨e, st2, tk, sum2, s2, h1, h2, hfs⟩
theorem btw_rnd {W : List Int} {T : List S45} {kk frm tk : Nat} {sum : Int} {st : St} (hB : Btw W T kk frm sum tk st) (hk : kk ≤ 38) : Rnd T kk frm frm sum (tk : Int) (-1) 0 st := by
  obtain ⟨t1, t2⟩ := hB.tkm
  exact ⟨hk, Nat.le_refl _, hB.pi, hB.len, hB.bst, hB.cur, hB.lst, hB.s0, Or.inl hB.s1, Or.inl ⟨rfl, rfl⟩, Or.inr ⟨hB.k0, tk, rfl, hB.tkf, t1, t2⟩⟩
theorem within_step (W : List Int) (P T : List S45) (hP : P.map (·.f0) = W) (hT : Txt T) (hWl : W.length ≤ 39) (kk fw frm : Nat) (hk : kk < W.length) (hfw : fw ≤ T.length) (hf : firstP T (W.getD kk 0) (T.length - fw) fw = frm) (res : Bool)
    (h : Ev (fun k => if (frm : Int) = (T.length : Int) then some false else spec_Within.l0 k T ((frm + 1 : Nat) : Int) P (P.length : Int) ((kk + 1 : Nat) : Int)) res) :
    Ev (fun k => spec_Within.l0 k T (fw : Int) P (P.length : Int) (kk : Int)) res := by
  have hPl : P.length = W.length := by rw [← hP, List.length_map]
  have h1 := first_ev T (W.getD kk 0) hT.len hT.ok (T.length - fw) fw (by omega)
  rw [hf] at h1
  have f2 := (firstP_spec T (W.getD kk 0) (T.length - fw) fw (by omega)).2.1
  rw [hf] at f2
  have hl := hT.len
  have hw : wrap64 ((frm : Int) + 1) = ((frm + 1 : Nat) : Int) := by rw [wrp (by omega) (by omega)]; rfl
  have hwk : wrap64 ((kk : Int) + 1) = ((kk + 1 : Nat) : Int) := by rw [wrp (by omega) (by omega)]; rfl
  rw [← hw] at h
  refine Ev.step (fun k => ?_) (Ev.bind (f := fun k t214 => if t214 = (T.length : Int) then some false else spec_Within.l0 k T (wrap64 (t214 + 1)) P (P.length : Int) ((kk + 1 : Nat) : Int)) h1 h)
  simp only [spec_Within.l0]
  rw [if_pos (by omega), if_pos (by omega), if_pos (by omega), rdP_get P W hP kk hk, hwk]
  rfl
theorem within_btw (W : List Int) (P T : List S45) (hP : P.map (·.f0) = W) (hW : ∀ x ∈ W, okR x) (hT : Txt T) (hWl : W.length ≤ 39) : ∀ (d kk : Nat), kk + d = W.length → ∀ (fw frm tk : Nat) (sum : Int) (st : St), Btw W T kk frm sum tk st → fw ≤ T.length →
    (kk < W.length → firstP T (W.getD kk 0) (T.length - fw) fw = frm) → Ev (fun k => spec_Within.l0 k T (fw : Int) P (P.length : Int) (kk : Int)) (decide ((loopS W (T.drop frm) st).M.length = W.length)) := by
  intro d
  induction d with
  | zero =>
    intro kk hkd fw frm tk sum st hB hfw hf
    have hPl : P.length = W.length := by rw [← hP, List.length_map]
    have hfm : ¬ frm < T.length := fun h => by have := (hB.nxt h).1; omega
    rw [List.drop_eq_nil_of_le (by omega)]
    show Ev _ (decide (st.M.length = W.length))
    rw [decide_eq_true (by rw [hB.len]; omega)]
    refine Ev.step (f := fun _ => some true) (fun k => ?_) (Ev.now _)
    simp only [spec_Within.l0]
    rw [if_neg (by omega)]
  | succ d ih =>
    intro kk hkd fw frm tk sum st hB hfw hf
    have hk : kk < W.length := by omega
    refine within_step W P T hP hT hWl kk fw frm hk hfw (hf hk) _ ?_
    by_cases hfm : frm < T.length
    · refine Ev.congr (fun k => by rw [if_neg (by omega)]) ?_
      obtain ⟨e, st2, tk2, sum2, e1, e2, e3, e4⟩ := stage_within hW hT kk frm hfm (hB.nxt hfm).2 (btw_rnd hB (by omega))
      rw [e2]
      exact ih (kk + 1) (by omega) (frm + 1) (e + 1) tk2 sum2 st2 e3 (by omega) e4
    · have hfe : frm = T.length := by have := hB.fle; omega
      rw [List.drop_eq_nil_of_le (by omega)]
      show Ev _ (decide (st.M.length = W.length))
      rw [decide_eq_false (by rw [hB.len]; omega)]
      exact Ev.congr (f := fun _ => some false) (fun k => by rw [if_pos (by omega)]) (Ev.now _)
theorem within_l0 (W : List Int) (P T : List S45) (hP : P.map (·.f0) = W) (hW : ∀ x ∈ W, okR x) (hT : Txt T) (hWl : W.length ≤ 39) (hW0 : 0 < W.length) :
    Ev (fun k => spec_Within.l0 k T 0 P (P.length : Int) 0) (decide ((loopS W T St0).M.length = W.length)) := by
  obtain ⟨f1, f2, f3, f4⟩ := firstP_spec T (W.getD 0 0) T.length 0 (by omega)
  generalize hf : firstP T (W.getD 0 0) T.length 0 = b at f1 f2 f3 f4
  obtain ⟨st2, g1, g2, g3, g4, g5, g6, g7, g8⟩ := head_skip W T b f2 (fun q hq => f3 q (by omega) hq) b 0 St0 (by omega) rfl rfl rfl rfl rfl ⟨fun _ => rfl, fun h => by omega⟩
  rw [List.drop_zero] at g1
  rw [g1]
  refine within_step W P T hP hT hWl 0 0 b hW0 (by omega) hf _ ?_
  by_cases hb : b < T.length
  · refine Ev.congr (fun k => by rw [if_neg (by omega)]) ?_
    obtain ⟨e, st3, tk2, sum2, e1, e2, e3, e4⟩ := stage_within (W := W) hW hT 0 b hb (f4 hb) (sum := 0) (taken := -2) (st := st2) ⟨by omega, Nat.le_refl _, g2, by rw [g3]; rfl, g4, g6, g7, by omega, Or.inl (by omega), Or.inl ⟨rfl, rfl⟩, Or.inl ⟨rfl, rfl⟩⟩
    rw [e2]
    exact within_btw W P T hP hW hT hWl (W.length - 1) 1 (by omega) (b + 1) (e + 1) tk2 sum2 st3 e3 (by omega) e4
  · have hbe : b = T.length := by omega
    rw [List.drop_eq_nil_of_le (by omega)]
    show Ev _ (decide (st2.M.length = W.length))
    rw [decide_eq_false (by rw [g3]; simp; omega)]
    exact Ev.congr (f := fun _ => some false) (fun k => by rw [if_pos (by omega)]) (Ev.now _)
theorem within_ev (a0 s : ByteArray) (h0 : 0 < a0.size) (ha : shortB a0 = true) (h39 : (letters a0).length ≤ 39) (hs : shortB s = true) :
    Ev (fun k => spec_Within.f k a0 s) (decide ((oneS (strRunes a0) s).M.length = (strRunes a0).length)) := by
  have h1 := within_l0 (strRunes a0) (letters a0) (letters s) (letters_runes a0) (pat_ok a0 ha) (txt_letters s (by have := (shortB_iff hs).2; omega) (shortB_iff hs).1) (by rw [pat_len]; exact h39) (pat_pos a0 h0)
  refine Ev.congr (fun k => ?_) h1
  unfold spec_Within.f spec_Letters.f
  have e1 := (shortB_iff hs).2
  have e2 := (shortB_iff ha).2
  rw [if_pos (by omega), if_pos (by omega), Option.bind_some, Option.bind_some]
theorem law_FnFindsAll (a0 s : ByteArray) : Ev (fun k => laws_FnFindsAll.f k a0 s) true := by
  have hj0 : Ev (fun k => laws_FnFindsAll.j0 k a0 s true) true := Ev.step (f := fun _ => some true) (fun k => by simp only [laws_FnFindsAll.j0, if_true]) (Ev.now _)
  by_cases h0 : (a0.size : Int) > 2147483647
  · refine Ev.congr (fun k => ?_) hj0
    unfold laws_FnFindsAll.f; rw [if_pos h0]
  by_cases h1 : (s.size : Int) > 2147483647
  · refine Ev.congr (fun k => ?_) hj0
    unfold laws_FnFindsAll.f; rw [if_neg h0, decide_eq_true h1]
  refine Ev.congr (f := fun k => laws_FnFindsAll.j0 k a0 s false) (fun k => by unfold laws_FnFindsAll.f; rw [if_neg h0, decide_eq_false h1]) ?_
  refine Ev.step (f := fun k => ((spec_Short.f k a0 [s]).bind fun t218 => (if t218 = true then ((impl_FindNoSort.f k a0 [s]).bind fun t222 => (if a0.toList = ([] : List UInt8) then (some ((t222.length : Int) == 0)) else (if (t222.length : Int) ≤ 1 then ((spec_Within.f k a0 s).bind fun t225 => (some (((t222.length : Int) == 1) == t225))) else (some false)))) else (some true)))) (fun k => by simp only [laws_FnFindsAll.j0]; rw [if_neg (by decide)]) ?_
  refine Ev.bind (Short_ev a0 [s] (by omega) (fun x hx => by rw [List.mem_singleton.1 hx]; omega)) ?_
  by_cases hp : shortAll a0 [s] = true
  · rw [hp]
    refine Ev.congr (f := fun k => (impl_FindNoSort.f k a0 [s]).bind fun t222 => (if a0.toList = ([] : List UInt8) then (some ((t222.length : Int) == 0)) else (if (t222.length : Int) ≤ 1 then ((spec_Within.f k a0 s).bind fun t225 => (some (((t222.length : Int) == 1) == t225))) else (some false)))) (fun k => by rw [if_pos rfl]) ?_
    refine Ev.bind (noSort_ev a0 [s] hp) ?_
    unfold findAll
    by_cases hz : a0.size = 0
    · rw [if_pos hz]
      exact Ev.congr (f := fun _ => some true) (fun k => by rw [if_pos ((toList_nil a0).2 hz)]; rfl) (Ev.now _)
    · rw [if_neg hz]
      unfold shortAll at hp
      simp only [Bool.and_eq_true, decide_eq_true_eq, List.all_eq_true] at hp
      obtain ⟨ha, h39, h20, hall⟩ := hp
      have hw := within_ev a0 s (by omega) ha h39 (hall s (by simp))
      have hl : ((findS (strRunes a0) [s] 0).map to33).length = if (oneS (strRunes a0) s).M.length = (strRunes a0).length then 1 else 0 := by
        rw [List.length_map, findS, findS]
        split <;> rfl
      by_cases hc : (oneS (strRunes a0) s).M.length = (strRunes a0).length
      · rw [if_pos hc] at hl
        rw [decide_eq_true hc] at hw
        refine Ev.congr (f := fun k => (spec_Within.f k a0 s).bind fun t225 => some (true == t225)) (fun k => ?_) (Ev.bind hw (Ev.now _))
        rw [if_neg (fun e => hz ((toList_nil a0).1 e)), hl]
        rfl
      · rw [if_neg hc] at hl
        rw [decide_eq_false hc] at hw
        refine Ev.congr (f := fun k => (spec_Within.f k a0 s).bind fun t225 => some (false == t225)) (fun k => ?_) (Ev.bind hw (Ev.now _))
        rw [if_neg (fun e => hz ((toList_nil a0).1 e)), hl]
        rfl
  · rw [Bool.eq_false_iff.2 hp]
    exact Ev.congr (fun k => by rw [if_neg (by decide)]) (Ev.now _)
end Go.Proofs.YtgeimklpcfepaaaDoor
