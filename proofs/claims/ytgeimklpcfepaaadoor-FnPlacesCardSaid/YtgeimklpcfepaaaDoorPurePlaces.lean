/- Where the letters stand: the places that are taken; the law FnPlaces. -/
import Derived.Test.YtgeimklpcfepaaaDoorPureFind
import Derived.Test.YtgeimklpcfepaaaDoorP14
namespace Go.Proofs.YtgeimklpcfepaaaDoor
open Go.RowKit Go.Lib Go.Sort Go.Proofs.YtgeimklpcfepaaaDoorW.PrintWords Go.Proofs.YtgeimklpcfepaaaDoorW.PrintMore
open P
set_option linter.unusedVariables false
set_option linter.unusedSimpArgs false

/-- The candidate in hand is one of this letter's. -/
def Here (W : List Int) (T : List S45) (kk b : Nat) (best : Int) (wh : Nat) : Prop := best = -1 ∨ (b ≤ wh ∧ alikeB (T.getD wh z45).f0 (W.getD kk 0) = true)
theorem here_next {W : List Int} {T : List S45} (hT : Txt T) {kk q b : Nat} {sum taken best : Int} {wh : Nat} {st : St} (hR : Rnd T kk q b sum taken best wh st) (hq : q < T.length) (h : Here W T kk b best wh) :
    Here W T kk b (bestN W T kk q sum taken best) (whN W T kk q sum taken best wh) := by
  obtain ⟨v1, v2, v3, v4, v5⟩ := hR.vals hT hq
  have hqb := hR.qb
  unfold Here bestN whN at *
  by_cases ha : alikeB (T.getD q z45).f0 (W.getD kk 0) = true
  · rw [if_pos ha, if_pos ha]
    by_cases hn : nS T q sum taken > best
    · rw [if_pos hn, if_pos hn]; exact Or.inr ⟨hqb, ha⟩
    · rw [if_neg hn, if_neg hn]
      rcases h with h | h
      · omega
      · exact Or.inr h
  · rw [if_neg ha, if_neg ha]; exact h
theorem rnd_places {W : List Int} (hW : ∀ x ∈ W, okR x) {T : List S45} (hT : Txt T) (kk b e : Nat) (he : e < T.length) (hb : alikeB (T.getD b z45).f0 (W.getD kk 0) = true) (hno : ∀ q, b ≤ q → q < e → takeC W T kk q = false) (hyes : takeC W T kk e = true) (taken : Int) :
    ∀ (d q : Nat) (sum best : Int) (wh : Nat) (st : St), q + d = e → Rnd T kk q b sum taken best wh st → Here W T kk b best wh →
      ∃ (st2 : St) (tk : Nat) (sum2 : Int), loopS W (T.drop q) st = loopS W (T.drop (e + 1)) st2 ∧ Btw W T (kk + 1) (e + 1) sum2 tk st2 ∧ b ≤ tk ∧ alikeB (T.getD tk z45).f0 (W.getD kk 0) = true ∧ st2.M = st.M ++ [(T.getD tk z45).f1] := by
  intro d
  induction d with
  | succ d ih =>
    intro q sum best wh st hq hR hH
    have hqT : q < T.length := by omega
    have hH2 := here_next (W := W) hT hR hqT hH
    obtain ⟨hR2, hb0⟩ := hR.cand (W := W) hT (by omega) (fun e => by rw [e]; exact hb)
    have hstep : stepS W T[q] (T.drop (q + 1)) st = { candS W T[q].f1 T[q].f0 st with last := T[q].f0, lastI := T[q].f1 } := by
      unfold stepS takeS
      obtain ⟨k1, _⟩ := candS_keeps W T[q].f1 T[q].f0 st
      rw [k1, hR.pi]
      have hn := hno q hR.qb (by omega)
      unfold takeC at hn
      rw [hn, if_neg (by decide)]
    obtain ⟨_, k2, k3, _⟩ := candS_keeps W T[q].f1 T[q].f0 st
    rw [loop_step W T q hqT st, hstep]
    obtain ⟨st2, tk, sum2, h1, h2, h3, h4, h5⟩ := ih (q + 1) _ _ _ _ (by omega) hR2 hH2
    refine ⟨st2, tk, sum2, h1, h2, h3, h4, ?_⟩
    rw [h5]
    show (candS W T[q].f1 T[q].f0 st).M ++ _ = _
    rw [k2]
  | zero =>
    intro q sum best wh st hq hR hH
    have hqe : q = e := by omega
    subst hqe
    have hH2 := here_next (W := W) hT hR he hH
    obtain ⟨hR2, hb0⟩ := hR.cand (W := W) hT (by omega) (fun e => by rw [e]; exact hb)
    obtain ⟨_, k2, k3, _⟩ := candS_keeps W T[q].f1 T[q].f0 st
    obtain ⟨st2, w2, hstep, hB, hM, _⟩ := last_btw hW hT he hyes rfl hR.k38 hR2 hb0
    rw [loop_step W T q he st, hstep]
    rcases hH2 with hH2 | ⟨g1, g2⟩
    · omega
    · exact ⟨st2, _, _, rfl, hB, g1, g2, by rw [hM, k2, getT T _ w2]⟩
theorem stage_places {W : List Int} (hW : ∀ x ∈ W, okR x) {T : List S45} (hT : Txt T) (kk b : Nat) (hb : b < T.length) (hal : alikeB (T.getD b z45).f0 (W.getD kk 0) = true) {sum taken : Int} {st : St} (hR : Rnd T kk b b sum taken (-1) 0 st) :
    ∃ (e : Nat) (st2 : St) (tk : Nat) (sum2 : Int), e < T.length ∧ loopS W (T.drop b) st = loopS W (T.drop (e + 1)) st2 ∧ Btw W T (kk + 1) (e + 1) sum2 tk st2 ∧ b ≤ tk ∧ alikeB (T.getD tk z45).f0 (W.getD kk 0) = true ∧ st2.M = st.M ++ [(T.getD tk z45).f1] := by
  generalize hany : decide (kk + 1 < W.length) = any
  obtain ⟨s1, s2, s3, s4⟩ := stopP_spec T (nextP W kk) any (T.length - b) b (by omega) (by omega)
  generalize stopP T (nextP W kk) any (T.length - b) b = e at s1 s2 s3 s4
  have hno : ∀ q, b ≤ q → q < e → takeC W T kk q = false := fun q q1 q2 => by
    obtain ⟨a1, a2⟩ := s3 q q1 q2
    rw [takeC_iff hW hT kk q (by omega), decide_eq_false a1, Bool.false_or, hany]
    exact a2
  have hyes : takeC W T kk e = true := by
    rw [takeC_iff hW hT kk e s2, hany]
    rcases s4 with a | a
    · rw [decide_eq_true a, Bool.true_or]
    · rw [a, Bool.or_true]
  obtain ⟨st2, tk, sum2, h⟩ := rnd_places hW hT kk b e s2 hal hno hyes taken (e - b) b sum (-1) 0 st (by omega) hR (Or.inl rfl)
  exact ⟨e, st2, tk, sum2, s2, h⟩
/-- Places of letters: ascending ones, of letters like the pattern's. -/
structure QOk (W : List Int) (T : List S45) (Q : List Nat) (M : List Int) (frm : Nat) : Prop where
  len : Q.length = M.length
  el : ∀ k, k < Q.length → Q.getD k 0 < frm ∧ Q.getD k 0 < T.length ∧ M.getD k 0 = (T.getD (Q.getD k 0) z45).f1 ∧ alikeB (T.getD (Q.getD k 0) z45).f0 (W.getD k 0) = true
  asc : ∀ i j, i < j → j < Q.length → Q.getD i 0 < Q.getD j 0
theorem getD_snoc {α : Type} (l : List α) (x d : α) (k : Nat) : (l ++ [x]).getD k d = if k < l.length then l.getD k d else if k = l.length then x else d := by
  rw [List.getD_eq_getElem?_getD, List.getD_eq_getElem?_getD]
  by_cases h : k < l.length
  · rw [if_pos h, List.getElem?_append_left h]
  · rw [if_neg h, List.getElem?_append_right (by omega)]
    by_cases h2 : k = l.length
    · subst h2; rw [if_pos rfl, Nat.sub_self]; rfl
    · rw [if_neg h2, List.getElem?_eq_none (by simp; omega)]; rfl
theorem QOk.snoc {W : List Int} {T : List S45} {Q : List Nat} {M : List Int} {frm frm2 tk : Nat} (h : QOk W T Q M frm) (h1 : frm ≤ tk) (h2 : tk < frm2) (h3 : tk < T.length) (h4 : alikeB (T.getD tk z45).f0 (W.getD M.length 0) = true) :
    QOk W T (Q ++ [tk]) (M ++ [(T.getD tk z45).f1]) frm2 := by
  refine ⟨by simp [h.len], fun k hk => ?_, fun i j hij hj => ?_⟩
  · have hl := h.len
    simp only [List.length_append, List.length_cons, List.length_nil] at hk
    rw [getD_snoc, getD_snoc]
    by_cases hc : k < Q.length
    · obtain ⟨e1, e2, e3, e4⟩ := h.el k hc
      rw [if_pos hc, if_pos (by omega)]
      exact ⟨by omega, e2, e3, e4⟩
    · rw [if_neg hc, if_pos (by omega), if_neg (by omega), if_pos (by omega)]
      refine ⟨h2, h3, rfl, ?_⟩
      rw [show k = M.length by omega]; exact h4
  · simp only [List.length_append, List.length_cons, List.length_nil] at hj
    rw [getD_snoc, getD_snoc]
    by_cases hc : j < Q.length
    · rw [if_pos hc, if_pos (by omega)]
      exact h.asc i j hij hc
    · rw [if_neg hc, if_pos (by omega), if_pos (by omega)]
      have := (h.el i (by omega)).1
      omega
theorem QOk.mono {W : List Int} {T : List S45} {Q : List Nat} {M : List Int} {frm frm2 : Nat} (h : QOk W T Q M frm) (hf : frm ≤ frm2) : QOk W T Q M frm2 :=
  ⟨h.len, fun k hk => by obtain ⟨a, b, c, d⟩ := h.el k hk; exact ⟨by omega, b, c, d⟩, h.asc⟩
theorem places_btw {W : List Int} (hW : ∀ x ∈ W, okR x) {T : List S45} (hT : Txt T) (hWl : W.length ≤ 39) : ∀ (d kk : Nat), kk + d = W.length → ∀ (frm tk : Nat) (sum : Int) (st : St) (Q : List Nat), Btw W T kk frm sum tk st → QOk W T Q st.M frm →
    (loopS W (T.drop frm) st).M.length = W.length → ∃ Q2, QOk W T Q2 (loopS W (T.drop frm) st).M T.length := by
  intro d
  induction d with
  | zero =>
    intro kk hkd frm tk sum st Q hB hQ hl
    have hfm : ¬ frm < T.length := fun h => by have := (hB.nxt h).1; omega
    rw [List.drop_eq_nil_of_le (by omega)]
    exact ⟨Q, hQ.mono hB.fle⟩
  | succ d ih =>
    intro kk hkd frm tk sum st Q hB hQ hl
    by_cases hfm : frm < T.length
    · obtain ⟨e, st2, tk2, sum2, e1, e2, e3, e4, e5, e6⟩ := stage_places hW hT kk frm hfm (hB.nxt hfm).2 (btw_rnd hB (by omega))
      rw [e2] at hl ⊢
      refine ih (kk + 1) (by omega) (e + 1) tk2 sum2 st2 (Q ++ [tk2]) e3 ?_ hl
      rw [e6]
      exact hQ.snoc e4 e3.tkf (by have := e3.tkf; omega) (by rw [hB.len]; exact e5)
    · rw [List.drop_eq_nil_of_le (by omega)] at hl
      have : st.M.length = W.length := hl
      rw [hB.len] at this
      omega
theorem places_one {W : List Int} (hW : ∀ x ∈ W, okR x) {T : List S45} (hT : Txt T) (hWl : W.length ≤ 39) (hW0 : 0 < W.length) (h : (loopS W T St0).M.length = W.length) : ∃ Q, QOk W T Q (loopS W T St0).M T.length := by
  obtain ⟨f1, f2, f3, f4⟩ := firstP_spec T (W.getD 0 0) T.length 0 (by omega)
  generalize firstP T (W.getD 0 0) T.length 0 = b at f1 f2 f3 f4
  obtain ⟨st2, g1, g2, g3, g4, g5, g6, g7, g8⟩ := head_skip W T b f2 (fun q hq => f3 q (by omega) hq) b 0 St0 (by omega) rfl rfl rfl rfl rfl ⟨fun _ => rfl, fun h => by omega⟩
  rw [List.drop_zero] at g1
  rw [g1] at h ⊢
  by_cases hb : b < T.length
  · obtain ⟨e, st3, tk2, sum2, e1, e2, e3, e4, e5, e6⟩ := stage_places (W := W) hW hT 0 b hb (f4 hb) (sum := 0) (taken := -2) (st := st2) ⟨by omega, Nat.le_refl _, g2, by rw [g3]; rfl, g4, g6, g7, by omega, Or.inl (by omega), Or.inl ⟨rfl, rfl⟩, Or.inl ⟨rfl, rfl⟩⟩
    rw [e2] at h ⊢
    refine places_btw hW hT hWl (W.length - 1) 1 (by omega) (e + 1) tk2 sum2 st3 [tk2] e3 ?_ h
    rw [e6, g3]
    have h0 : QOk W T [] [] 0 := ⟨rfl, fun k hk => absurd hk (by simp), fun i j _ hj => absurd hj (by simp)⟩
    exact h0.snoc (tk := tk2) (Nat.zero_le _) e3.tkf (by have := e3.tkf; omega) e5
  · rw [List.drop_eq_nil_of_le (by omega)] at h
    have : st2.M.length = W.length := h
    rw [g3] at this
    simp at this
    omega
theorem rd_get (M : List Int) (i : Nat) : rd M (i : Int) = M.getD i 0 := by unfold rd; rw [Int.toNat_natCast]
/-- The reference's Stand finds them. -/
theorem stand_l0 (W : List Int) (P T : List S45) (hP : P.map (·.f0) = W) (hT : Txt T) (hWl : W.length ≤ 39) (M : List Int) (hM : M.length = W.length) (qf : Nat → Nat) (hel : ∀ k, k < M.length → qf k < T.length ∧ M.getD k 0 = (T.getD (qf k) z45).f1 ∧ alikeB (T.getD (qf k) z45).f0 (W.getD k 0) = true) (hasc : ∀ k, k + 1 < M.length → qf k < qf (k + 1)) : ∀ (d i kk : Nat), i + d = T.length → kk ≤ M.length → (kk < M.length → i ≤ qf kk) →
    Ev (fun k => spec_Stand.l0 k M P T (kk : Int) (i : Int)) true := by
  have hPl : P.length = W.length := by rw [← hP, List.length_map]
  have hl := hT.len
  have hend : ∀ (i kk : Nat), kk = M.length → Ev (fun k => spec_Stand.j1 k M P T (kk : Int) (i : Int) false) true := fun i kk hk => by
    refine Ev.step (f := fun _ => some true) (fun k => ?_) (Ev.now _)
    simp only [spec_Stand.j1]
    rw [if_neg (by decide)]
    congr 1
    rw [hk]
    exact beq_self_eq_true _
  intro d
  induction d with
  | zero =>
    intro i kk hi hk hle
    have hkm : kk = M.length := by
      by_cases hc : kk < M.length
      · have := (hel kk hc).1
        have := hle hc
        omega
      · omega
    refine Ev.step (fun k => ?_) (hend i kk hkm)
    simp only [spec_Stand.l0]
    rw [if_neg (by omega)]
  | succ d ih =>
    intro i kk hi hk hle
    have hit : i < T.length := by omega
    by_cases hc : kk < M.length
    · have hle2 := hle hc
      have hwi : wrap64 ((i : Int) + 1) = ((i + 1 : Nat) : Int) := by rw [wrp (by omega) (by omega)]; rfl
      have hwk : wrap64 ((kk : Int) + 1) = ((kk + 1 : Nat) : Int) := by rw [wrp (by omega) (by omega)]; rfl
      have c1 : (0 : Int) ≤ (i : Int) := by omega
      have c2 : (i : Int) < (T.length : Int) := by omega
      have c3 : (0 : Int) ≤ (kk : Int) := by omega
      have c4 : (kk : Int) < (M.length : Int) := by omega
      have c5 : (kk : Int) < (P.length : Int) := by omega
      have c6 : kk < W.length := by omega
      have i1 : i + 1 + d = T.length := by omega
      have k1 : kk + 1 ≤ M.length := hc
      have hj : Ev (fun k => spec_Stand.j1 k M P T (kk : Int) (i : Int) true) true := by
        by_cases he : i = qf kk
        · have h2 := ih (i + 1) (kk + 1) i1 k1 (fun hk2 => by have := hasc kk hk2; omega)
          obtain ⟨q2, q3, q4⟩ := hel kk hc
          rw [← he, getT T i hit] at q3 q4
          have hal := alike_ev T[i].f0 (W.getD kk 0) (hT.ok _ (List.getElem_mem hit))
          rw [q4] at hal
          refine Ev.step (fun k => ?_) (Ev.bind (f := fun k t285 => if t285 = true then spec_Stand.l0 k M P T ((kk + 1 : Nat) : Int) ((i + 1 : Nat) : Int) else some false) hal (Ev.congr (fun k => by rw [if_pos rfl]) h2))
          simp only [spec_Stand.j1, if_true]
          rw [if_pos c1, if_pos c2, if_pos c3, if_pos c4, rdT_get T i hit, rd_get, q3, if_pos rfl, if_pos c5, rdP_get P W hP kk c6, hwi, hwk]
        · have hlt : i < qf kk := by omega
          have h2 := ih (i + 1) kk i1 hk (fun _ => hlt)
          have hne : ¬ (T[i].f1 = M.getD kk 0) := by
            obtain ⟨q2, q3, q4⟩ := hel kk hc
            have h3 := hT.asc i (qf kk) hlt q2
            rw [q3, getT T _ q2]
            exact Int.ne_of_lt h3
          refine Ev.step (fun k => ?_) h2
          simp only [spec_Stand.j1, if_true]
          rw [if_pos c1, if_pos c2, if_pos c3, if_pos c4, rdT_get T i hit, rd_get, if_neg hne, hwi]
      refine Ev.step (fun k => ?_) hj
      simp only [spec_Stand.l0]
      rw [if_pos c2, decide_eq_true c4]
    · refine Ev.step (fun k => ?_) (hend i kk (by omega))
      simp only [spec_Stand.l0]
      rw [if_pos (by omega), decide_eq_false (by omega)]
theorem stand_ev (a0 s : ByteArray) (h0 : 0 < a0.size) (ha : shortB a0 = true) (h39 : (letters a0).length ≤ 39) (hs : shortB s = true) (hM : (oneS (strRunes a0) s).M.length = (strRunes a0).length) :
    Ev (fun k => spec_Stand.f k a0 s (oneS (strRunes a0) s).M) true := by
  have hT := txt_letters s (by have := (shortB_iff hs).2; omega) (shortB_iff hs).1
  obtain ⟨Q, hQ⟩ := places_one (pat_ok a0 ha) hT (by rw [pat_len]; exact h39) (pat_pos a0 h0) hM
  have h1 := stand_l0 (strRunes a0) (letters a0) (letters s) (letters_runes a0) hT (by rw [pat_len]; exact h39) _ hM (fun k => Q.getD k 0) (fun k hk => by obtain ⟨a, b⟩ := hQ.el k (by rw [hQ.len]; exact hk); exact b) (fun k hk => hQ.asc k (k + 1) (Nat.lt_succ_self k) (by rw [hQ.len]; exact hk)) (letters s).length 0 0 (by omega) (Nat.zero_le _) (fun _ => Nat.zero_le _)
  refine Ev.congr (fun k => ?_) h1
  unfold spec_Stand.f spec_Letters.f
  have e1 := (shortB_iff hs).2
  have e2 := (shortB_iff ha).2
  have e3 : (((loopS (strRunes a0) (letters s) St0).M.length : Nat) : Int) = ((letters a0).length : Int) := by rw [← pat_len]; exact congrArg Int.ofNat hM
  rw [if_pos (by omega), if_pos (by omega), Option.bind_some, Option.bind_some]
  show (if (((loopS (strRunes a0) (letters s) St0).M.length : Nat) : Int) = _ then _ else _) = _
  rw [if_pos e3]
  rfl
theorem findS_mem (W : List Int) : ∀ (l : List ByteArray) (j : Nat) (x : S49), x ∈ findS W l j → ∃ (i : Nat) (hi : i < l.length), x.f0 = l[i] ∧ x.f1 = ((i + j : Nat) : Int) ∧ x.f2 = (oneS W l[i]).M ∧ (oneS W l[i]).M.length = W.length
  | [], _, x, h => absurd h (by simp [findS])
  | s :: r, j, x, h => by
    have rest : x ∈ findS W r (j + 1) → ∃ (i : Nat) (hi : i < (s :: r).length), x.f0 = (s :: r)[i] ∧ x.f1 = ((i + j : Nat) : Int) ∧ x.f2 = (oneS W (s :: r)[i]).M ∧ (oneS W (s :: r)[i]).M.length = W.length := fun h => by
      obtain ⟨i, hi, h1, h2, h3, h4⟩ := findS_mem W r (j + 1) x h
      exact ⟨i + 1, by simp; exact hi, h1, by rw [h2]; congr 1; omega, h3, h4⟩
    rw [findS] at h
    split at h
    · rename_i hc
      rcases List.mem_cons.1 h with rfl | h
      · exact ⟨0, by simp, rfl, by simp, rfl, hc⟩
      · exact rest h
    · exact rest h
theorem rd33_get (l : List S33) (i : Nat) (h : i < l.length) : rd_T33 l (i : Int) = l[i] := by unfold rd_T33; rw [Int.toNat_natCast, List.getD_eq_getElem?_getD, List.getElem?_eq_getElem h]; rfl
theorem places_l0 (a0 : ByteArray) (l : List ByteArray) (h : shortAll a0 l = true) (L : List S33) (hL : (isort lt49 (findAll a0 l)).map to33 = L) : ∀ (d i : Nat), i + d = L.length → Ev (fun k => laws_FnPlaces.l0 k a0 l L (i : Int)) true := by
  have hle := (findAll_le a0 l h).1
  have hlen : L.length = (findAll a0 l).length := by rw [← hL, List.length_map, isort_length]
  unfold shortAll at h
  simp only [Bool.and_eq_true, decide_eq_true_eq, List.all_eq_true] at h
  obtain ⟨ha, h39, h20, hall⟩ := h
  intro d
  induction d with
  | zero =>
    intro i hi
    refine Ev.step (f := fun _ => some true) (fun k => ?_) (Ev.now _)
    simp only [laws_FnPlaces.l0]
    rw [if_neg (by omega)]
  | succ d ih =>
    intro i hi
    have hlt : i < L.length := by omega
    have hw : wrap64 ((i : Int) + 1) = ((i + 1 : Nat) : Int) := by rw [wrp (by omega) (by omega)]; rfl
    have c1 : (0 : Int) ≤ (i : Int) := by omega
    have c2 : (i : Int) < (L.length : Int) := by omega
    have i1 : i + 1 + d = L.length := by omega
    have ih2 := ih (i + 1) i1
    have hx := List.getElem_mem hlt
    have hg := rd33_get _ i hlt
    generalize L[i] = x at hx hg
    rw [← hL] at hx
    obtain ⟨y, hy, rfl⟩ := List.mem_map.1 hx
    have hy2 := isort_mem lt49 _ y hy
    have h0 : ¬ a0.size = 0 := fun e => by unfold findAll at hy2; rw [if_pos e] at hy2; exact absurd hy2 (by simp)
    unfold findAll at hy2
    rw [if_neg h0] at hy2
    obtain ⟨j, hj, g1, g2, g3, g4⟩ := findS_mem _ _ _ _ hy2
    have hs := stand_ev a0 l[j] (by omega) ha h39 (hall _ (List.getElem_mem hj)) g4
    have c3 : (0 : Int) ≤ (j : Int) := Int.natCast_nonneg j
    have c4 : (j : Int) < (l.length : Int) := Int.ofNat_lt.2 hj
    have x0 : (to33 y).f0 = l[j] := g1
    have x1 : (to33 y).f1 = (j : Int) := by show y.f1 = _; rw [g2]; rfl
    have x2 : (to33 y).f2 = (oneS (strRunes a0) l[j]).M := g3
    refine Ev.step (fun k => ?_) (Ev.bind (f := fun k t297 => if t297 = true then laws_FnPlaces.l0 k a0 l L ((i + 1 : Nat) : Int) else some false) hs (Ev.congr (fun k => by rw [if_pos rfl]) ih2))
    simp only [laws_FnPlaces.l0]
    rw [hg, x0, x1, x2, if_pos c2, if_pos c1, if_neg (Int.not_lt.2 c3), if_neg (Int.not_le.2 c4), if_pos c3, if_pos c4, rdS_get l j hj, if_pos rfl, hw]
theorem law_FnPlaces (s : ByteArray) (l : List ByteArray) : Ev (fun k => laws_FnPlaces.f k s l) true := by
  have hj0 : Ev (fun k => laws_FnPlaces.j0 k s l true) true := Ev.step (f := fun _ => some true) (fun k => by simp only [laws_FnPlaces.j0, if_true]) (Ev.now _)
  by_cases h0 : (s.size : Int) > 2147483647
  · refine Ev.congr (fun k => ?_) hj0
    unfold laws_FnPlaces.f; rw [if_pos h0]
  obtain ⟨r, hr, hz⟩ := zzFits_ev l
  refine Ev.congr (f := fun k => (laws_zzFits1.f k l).bind fun t => laws_FnPlaces.j0 k s l (!t)) (fun k => by unfold laws_FnPlaces.f; rw [if_neg h0]) (Ev.bind hr ?_)
  cases r
  · exact hj0
  refine Ev.step (f := fun k => (spec_Short.f k s l).bind fun t287 => (if t287 = true then ((impl_Find.f k s l).bind fun t288 => ((spec_Found.f k s l).bind fun t291 => (if (t288.length : Int) = (t291.length : Int) then (laws_FnPlaces.l0 k s l t288 0) else (some false)))) else (some true))) (fun k => by simp only [laws_FnPlaces.j0]; rw [if_neg (by decide)]) ?_
  refine Ev.bind (Short_ev s l (by omega) (hz rfl)) ?_
  by_cases hp : shortAll s l = true
  · rw [hp]
    refine Ev.congr (f := fun k => (impl_Find.f k s l).bind fun t288 => ((spec_Found.f k s l).bind fun t291 => (if (t288.length : Int) = (t291.length : Int) then (laws_FnPlaces.l0 k s l t288 0) else (some false)))) (fun k => by rw [if_pos rfl]) ?_
    refine Ev.bind (find_ev s l hp) (Ev.bind (found_ev s l hp) ?_)
    refine Ev.congr (fun k => by rw [if_pos (by rw [List.length_map, List.length_map, isort_length])]; rfl) (places_l0 s l hp _ rfl _ 0 (Nat.zero_add _))
  · rw [Bool.eq_false_iff.2 hp]
    exact Ev.congr (fun k => by rw [if_neg (by decide)]) (Ev.now _)
end Go.Proofs.YtgeimklpcfepaaaDoor
