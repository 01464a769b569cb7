-- written by a program of this session (wip/tools), out of the translation
import Derived.Test.YtfkemfkleceeiaaDoorP0
import Derived.Test.YtfkemfkleceeiaaDoorP5
import Derived.Test.YtfkemfkleceeiaaDoorP10
namespace Go.Proofs.YtfkemfkleceeiaaDoor.P
open Go.RowKit Go.Proofs.YtfkemfkleceeiaaDoorW.PrintWords Go.Proofs.YtfkemfkleceeiaaDoorW.PrintLast Go.Proofs.YtfkemfkleceeiaaDoorW.PrintMore
attribute [local go_sem] max2_int min2_int max_two min_two max_three min_three max_four min_four   -- for this text's walks alone
set_option linter.unusedVariables false
set_option linter.unusedSimpArgs false

/-! ### spec_RankFind: function 25 -/
def spec_RankFind.l0 : Nat → Bool → ByteArray → List ByteArray → List (S50) → Int → Option ((List (S50)))
  | 0, _, _, _, _, _ => none
  | k + 1, x0, x1, x2, x7, x8 => if x8 < (x2.length : Int) then (if 0 ≤ x8 then ((spec_Match.f k x0 x1 (rdOf ByteArray.empty x2 x8)).bind fun t333 => (if t333 = true then ((spec_Distance.f k x1 (rdOf ByteArray.empty x2 x8)).bind fun t336 => (if x7.length < 2932031007402 then (spec_RankFind.l0 k x0 x1 x2 (x7 ++ [(⟨x1, rdOf ByteArray.empty x2 x8, t336, x8⟩ : S50)]) (wrap64 (x8 + 1))) else (none))) else (spec_RankFind.l0 k x0 x1 x2 x7 (wrap64 (x8 + 1))))) else (none)) else (some x7)
def spec_RankFind.f (k : Nat) (a0 : Bool) (a1 : ByteArray) (l2 : List ByteArray) : Option ((List (S50))) := spec_RankFind.l0 k a0 a1 l2 (([] : List (S50))) 0
theorem spec_RankFind.mono_l : ∀ k, (∀ y0 y1 y2 y3 y4, LeO (spec_RankFind.l0 k y0 y1 y2 y3 y4) (spec_RankFind.l0 (k + 1) y0 y1 y2 y3 y4))
  | 0 => fun _ _ _ _ _ r h => by simp [spec_RankFind.l0] at h
  | k + 1 => by
    have ih0 := spec_RankFind.mono_l k
    · intro y0 y1 y2 y3 y4
      unfold spec_RankFind.l0
      repeat' first
      | (with_reducible exact ih0 _ _ _ _ _)
      | (with_reducible exact spec_Distance.mono _ _ _)
      | (with_reducible exact spec_Match.mono _ _ _ _)
      | (with_reducible exact LeO.refl _)
      | (with_reducible exact LeO.none _)
      | (with_reducible refine LeO.ite ?_ ?_)
      | (with_reducible refine LeO.bind ?_ (fun _ => ?_))
      | exact ih0 _ _ _ _ _
      | exact spec_Distance.mono _ _ _
      | exact spec_Match.mono _ _ _ _
      | exact LeO.none _
      | refine LeO.ite ?_ ?_
      | refine LeO.bind ?_ (fun _ => ?_)
theorem spec_RankFind.mono : ∀ a0 a1 a2 k, LeO (spec_RankFind.f k a0 a1 a2) (spec_RankFind.f (k + 1) a0 a1 a2) := by
  intro a0 a1 a2 k
  have ih0 := spec_RankFind.mono_l k
  unfold spec_RankFind.f
  repeat' first
      | (with_reducible exact ih0 _ _ _ _ _)
      | (with_reducible exact spec_Distance.mono _ _ _)
      | (with_reducible exact spec_Match.mono _ _ _ _)
      | (with_reducible exact LeO.refl _)
      | (with_reducible exact LeO.none _)
      | (with_reducible refine LeO.ite ?_ ?_)
      | (with_reducible refine LeO.bind ?_ (fun _ => ?_))
      | exact ih0 _ _ _ _ _
      | exact spec_Distance.mono _ _ _
      | exact spec_Match.mono _ _ _ _
      | exact LeO.none _
      | refine LeO.ite ?_ ?_
      | refine LeO.bind ?_ (fun _ => ?_)
def spec_RankFind.T6 : Bool × List (List Nat × List Nat) := (true, [([], []), ([], []), ([], []), ([], []), ([2, 3], [2, 3]), ([4], [4]), ([], []), ([], []), ([], []), ([7, 8], [7, 8]), ([9], [9]), ([6, 10], [6, 10]), ([], []), ([1, 5, 11, 12], [1, 5, 11, 12]), ([13], [13]), ([0, 14, 11], [0, 14]), ([15, 15, 0, 1, 2, 3, 4, 5, 6, 7, 8, 9, 10, 11, 12, 13, 14, 15], [0, 15])])
def spec_RankFind.B6 : List Nat := [0, 0, 0, 0, 12, 28, 0, 0, 0, 384, 896, 1984, 0, 8190, 16382, 32767, 65535]
theorem spec_RankFind.tab6 : rtab .any (opsOf Tryd.f25 6) = spec_RankFind.T6 := by kernel_rfl
theorem spec_RankFind.bits6 : waitsOk spec_RankFind.T6.2 spec_RankFind.B6 = true := by kernel_rfl
set_option maxHeartbeats 8000000 in
set_option maxRecDepth 100000 in
theorem spec_RankFind.calls (k : Nat) (a0 : Bool) (a1 : ByteArray) (A2 : Option Addr) (c2 : Nat) (l2 : List ByteArray) (r : List (S50)) (w : World) (hr2 : Kd.C Kd.string w A2 l2.length l2) (hc2 : l2.length ≤ c2) (hA_ : Amb w) (h : spec_RankFind.f k a0 a1 l2 = some r) :
    Calls Tryd.prog 25 #[.bool a0, .string a1, .slice A2 l2.length c2] w fun e w' => ∃ v0_ : Value, e = .returned (v0_) ∧ Kd.R k50 50 w' w.heap.size (fun _ => True) v0_ r ∧ Below w.heap.size w w' := by
  have hu50 := Tryd.underlying50
  have HR2 := Aside0.mk hr2
  have HC2 := Aside0.mk hc2
  clear hr2 hc2
  have HAMB := Aside0.mk hA_
  clear hA_
  have HB := Aside0.mk (Below.refl w.heap.size w)
  have H : (spec_RankFind.l0 k a0 a1 l2 (([] : List (S50))) 0) = some r := h
  clear h
  obtain ⟨y329, hy329⟩ : ∃ y_ : List (S50), y_ = (([] : List (S50))) := ⟨_, rfl⟩
  replace H : (spec_RankFind.l0 k a0 a1 l2 y329 0) = some r := by first | (rw [hy329]; with_reducible exact H) | (have H2_ := (Option.bind_some _ _).symm.trans H; rw [hy329]; with_reducible exact H2_) | (have H2_ := (Option.bind_some _ _).symm.trans H; with_reducible exact H2_) | with_reducible exact H | (rw [hy329]; exact H) | exact H
  have Ny329 := Aside0.mk hy329
  clear hy329
  have H' := Aside0.mk H
  clear H
  go_enter Tryd.func25, Tryd.ntmps25
  go_wp2_with (first | ((with_reducible refine gate_dst (N := 9) rfl ?_); refine Kd.R_lit k50 _ 50 ?hg (N := 9) ?hd (xs := ([] : List (S50))) (inner := []) (ok := fun _ => True) (okp := fun _ => True) ?hr ?hp (fun _ hk => hk) trivial (Below.refl _ _) (Nat.le_refl _) (by simp) ?_; (case hd => rfl); (case hg => rfl); (case hr => first | (go_simp; done) | (go_simp; rfl)); (case hp => exact (Reps.none _ _)); intro v330 w4 ho5 hb hg_ hnew_; clear hg_ hnew_; (first | rw [← Ny329.out] at ho5 | (simp only [Int.reduceToNat] at ho5; rw [← Ny329.out] at ho5)); have n0_ := Aside0.mk (Kd.R_lower ho5 (below_size (by repeat (first | (with_reducible first | exact HB.out | apply below_alloc | apply pw_below_drewN | apply below_drew1) | exact HB.out)))); have n1_ := Aside0.mk (below_step (by repeat (first | (with_reducible first | exact HB.out | apply below_alloc | apply pw_below_drewN | apply below_drew1) | exact HB.out)) hb); clear HB; have HO331 := n0_; have HB := n1_; clear n0_ n1_; clear hb ho5))
  go_loopg [7, 8] k (fun kq v7 v8 w' => ∃ (x7_1 : List (S50)) (x8_1 : Int), v8 = .int .i64 x8_1 ∧ Aside0 (spec_RankFind.l0 kq a0 a1 l2 x7_1 x8_1 = some r) ∧ Aside0 (kq ≤ k) ∧ Aside0 (Kd.R k50 50 w' w.heap.size (fun _ => True) v7 x7_1) ∧ Aside0 (Below w.heap.size w w'))
  case atStart => exact ⟨(y329), (0), (by first | rfl | (simp; done) | (simp [*]; done)), H', ⟨Nat.le_refl _⟩, ⟨by (with_reducible repeat (first | apply Kd.R_alloc | apply Kd.R_drewN | apply Kd.R_drew)); exact HO331.out⟩, ⟨by repeat (first | (with_reducible first | exact HB.out | apply below_alloc | apply pw_below_drewN | apply below_drew1) | exact HB.out)⟩⟩
  case round =>
    clear H'
    try clear c2
    try clear p2
    obtain ⟨x7_1, x8_1, rfl, HA, HK1, HO_7, HB⟩ := hrel
    cases gk with
    | zero => exact absurd HA.out (by simp [spec_RankFind.l0])
    | succ k1 =>
      have H := HA.out
      clear HA
      simp only [spec_RankFind.l0] at H
      by_cases c6 : x8_1 < (l2.length : Int)
      · rw [if_pos c6] at H
        have c6b0 : decide (x8_1 < (l2.length : Int)) = true := decide_eq_true c6
        clear c6
        by_cases c7 : 0 ≤ x8_1
        · rw [if_pos c7] at H
          have c7b0 : decide (0 ≤ x8_1) = true := decide_eq_true c7
          clear c7
          replace H := Option.bind_eq_some_iff.mp H
          obtain ⟨t333, A80, H⟩ := H
          replace H : (if t333 = true then ((spec_Distance.f k1 a1 (rdOf ByteArray.empty l2 x8_1)).bind fun t336 => (if x7_1.length < 2932031007402 then (spec_RankFind.l0 k1 a0 a1 l2 (x7_1 ++ [(⟨a1, rdOf ByteArray.empty l2 x8_1, t336, x8_1⟩ : S50)]) (wrap64 (x8_1 + 1))) else (none))) else (spec_RankFind.l0 k1 a0 a1 l2 x7_1 (wrap64 (x8_1 + 1)))) = some r := H
          have A8 := Aside0.mk A80
          clear A80
          by_cases c9 : t333 = true
          · subst c9
            have H1 : ((spec_Distance.f k1 a1 (rdOf ByteArray.empty l2 x8_1)).bind fun t336 => (if x7_1.length < 2932031007402 then (spec_RankFind.l0 k1 a0 a1 l2 (x7_1 ++ [(⟨a1, rdOf ByteArray.empty l2 x8_1, t336, x8_1⟩ : S50)]) (wrap64 (x8_1 + 1))) else (none))) = some r := by rw [if_pos rfl] at H; exact H
            clear H
            have H := H1
            clear H1
            replace H := Option.bind_eq_some_iff.mp H
            obtain ⟨t336, A100, H⟩ := H
            replace H : (if x7_1.length < 2932031007402 then (spec_RankFind.l0 k1 a0 a1 l2 (x7_1 ++ [(⟨a1, rdOf ByteArray.empty l2 x8_1, t336, x8_1⟩ : S50)]) (wrap64 (x8_1 + 1))) else (none)) = some r := H
            have A10 := Aside0.mk A100
            clear A100
            by_cases c11 : x7_1.length < 2932031007402
            · rw [if_pos c11] at H
              have LMc11 := Aside0.mk c11
              clear c11
              obtain ⟨y337, hy337⟩ : ∃ y_ : List (S50), y_ = (x7_1 ++ [(⟨a1, rdOf ByteArray.empty l2 x8_1, t336, x8_1⟩ : S50)]) := ⟨_, rfl⟩
              replace H : (spec_RankFind.l0 k1 a0 a1 l2 y337 (wrap64 (x8_1 + 1))) = some r := by first | (rw [hy337]; with_reducible exact H) | (have H2_ := (Option.bind_some _ _).symm.trans H; rw [hy337]; with_reducible exact H2_) | (have H2_ := (Option.bind_some _ _).symm.trans H; with_reducible exact H2_) | with_reducible exact H | (rw [hy337]; exact H) | exact H
              have Ny337 := Aside0.mk hy337
              clear hy337
              have H' := Aside0.mk H
              clear H
              have p332 : 0 ≤ (x8_1 : Int) := of_decide_eq_true (by first | (with_reducible assumption) | assumption)
              have q332 : x8_1 < (l2.length : Int) := of_decide_eq_true (by first | (with_reducible assumption) | assumption)
              obtain ⟨ad332, e332, hx332_0⟩ := Kd.at_string HR2.out x8_1 p332 q332
              cases e332
              replace hx332_0 := (HB.out.cell (World.block_lt_of_cell? w _ hx332_0)).trans hx332_0
              replace p332 := eq_true p332
              replace q332 := eq_true q332
              try go_wp2_with (first | ((with_reducible refine gate_callee (f := 16) rfl ?_); refine goesL_ (some 22) rfl rfl Tryd.func16 (by kernel_rfl) rfl #[.bool a0, .string a1, .string (rdOf ByteArray.empty l2 x8_1)] rfl (by (try simp only [List.map_toArray, List.map_cons, List.map_nil]); first | done | rfl | (simp only [List.length_drop, List.length_take]; rfl)) ?_; (with_reducible refine (spec_Match.calls k1 a0 a1 (rdOf ByteArray.empty l2 x8_1) true _ (by first | (with_reducible exact HAMB.out) | exact Amb.below HAMB.out (by repeat (first | (with_reducible first | exact HB.out | apply below_alloc | apply pw_below_drewN | apply below_drew1) | exact HB.out)) | exact Amb.below HAMB.out (by repeat (first | (with_reducible first | exact Below.refl _ _ | apply pw_below_drewN | apply below_drew1 | apply below_alloc)))) A8.out).mono ?_); rintro e w12 ⟨rfl, hb⟩; refine ⟨_, rfl, ?_⟩; have n0_ := Aside0.mk (Kd.R_below (by (with_reducible repeat (first | apply Kd.R_alloc | apply Kd.R_drewN | apply Kd.R_drew)); exact HO_7.out) hb); have n1_ := Aside0.mk (below_step (by repeat (first | (with_reducible first | exact HB.out | apply below_alloc | apply pw_below_drewN | apply below_drew1) | exact HB.out)) hb); clear HO_7; clear HB; have HO_7 := n0_; have HB := n1_; clear n0_ n1_; (try clear hb); (try clear hb2); (try clear hk); (try clear hi)))
              have n0_ := Aside0.mk (Kd.R_drew HO_7.out)
              have n1_ := Aside0.mk (below_drew1 HB.out)
              clear HO_7
              clear HB
              have HO_7 := n0_
              have HB := n1_
              clear n0_ n1_
              have p334 : 0 ≤ (x8_1 : Int) := of_decide_eq_true (by first | (with_reducible assumption) | assumption)
              have q334 : x8_1 < (l2.length : Int) := of_decide_eq_true (by first | (with_reducible assumption) | assumption)
              obtain ⟨ad334, e334, hx334_0⟩ := Kd.at_string HR2.out x8_1 p334 q334
              have hw334_0 := hx334_0
              obtain rfl : ad332 = ad334 := (by injection e334)
              replace hx334_0 := (HB.out.cell (World.block_lt_of_cell? w _ hx334_0)).trans hx334_0
              replace p334 := eq_true p334
              replace q334 := eq_true q334
              have p335 : 0 ≤ (x8_1 : Int) := of_decide_eq_true (by first | (with_reducible assumption) | assumption)
              have q335 : x8_1 < (l2.length : Int) := of_decide_eq_true (by first | (with_reducible assumption) | assumption)
              obtain ⟨ad335, e335, hx335_0⟩ := Kd.at_string HR2.out x8_1 p335 q335
              have hw335_0 := hx335_0
              obtain rfl : ad332 = ad335 := (by injection e335)
              replace hx335_0 := (HB.out.cell (World.block_lt_of_cell? w _ hx335_0)).trans hx335_0
              replace p335 := eq_true p335
              replace q335 := eq_true q335
              refine start_ (n := 17) (S := fun w' => w'.cell? (ad332.add (x8_1).toNat) = some (.string (rdOf ByteArray.empty l2 x8_1)) ∧ w'.cell? (ad332.add (x8_1).toNat) = some (.string (rdOf ByteArray.empty l2 x8_1))) (ds := []) #[false, false, false, false, false, false, false, false, false, false, false, false, false, false, false, false, false] (by kernel_rfl) rfl rfl ⟨((HB.out.cell (World.block_lt_of_cell? w _ hw334_0)).trans hw334_0), ((HB.out.cell (World.block_lt_of_cell? w _ hw335_0)).trans hw335_0)⟩ (fun hHeld => ?_); refine with_tabW spec_RankFind.tab6 spec_RankFind.bits6 (fun HT_ HW_ => ?_)
              generalize w12.drew = w13 at HO_7 HB hx334_0 hx335_0 hHeld ⊢
              refine pure_ (i := 0) (N := some 23) (v := ?_) (a' := ?_) #[true, false, false, false, false, false, false, false, false, false, false, false, false, false, false, false, false] rfl rfl (any_of HT_.out (by kernel_rfl)) (fun _ _ _ h => h) (Or.inl ⟨by rfl, ?_⟩) ?_ ?_
              rotate_left
              · intro w'
                go_simp
                with_reducible rfl
              rotate_left
              · simp only [Act.put, List.setIfInBounds_toArray, List.set_cons_zero, List.set_cons_succ, i64_w, i32_w]
                rfl
              refine pure_ (i := 1) (N := some 24) (v := ?_) (a' := ?_) #[true, true, false, false, false, false, false, false, false, false, false, false, false, false, false, false, false] rfl rfl (any_of HT_.out (by kernel_rfl)) (fun _ _ _ h => h) (Or.inl ⟨by rfl, ?_⟩) ?_ ?_
              rotate_left
              · intro w'
                go_simp
                with_reducible rfl
              rotate_left
              · simp only [Act.put, List.setIfInBounds_toArray, List.set_cons_zero, List.set_cons_succ, i64_w, i32_w]
                rfl
              refine pure_ (i := 2) (N := some 25) (v := ?_) (a' := ?_) #[true, true, true, false, false, false, false, false, false, false, false, false, false, false, false, false, false] rfl rfl (any_of HT_.out (by kernel_rfl)) (fun _ _ _ h => h) (Or.inl ⟨by rfl, ?_⟩) ?_ ?_
              rotate_left
              · intro w'
                go_simp
                with_reducible rfl
              rotate_left
              · simp only [Act.put, List.setIfInBounds_toArray, List.set_cons_zero, List.set_cons_succ, i64_w, i32_w]
                rfl
              refine pure_ (i := 3) (N := some 26) (v := ?_) (a' := ?_) #[true, true, true, true, false, false, false, false, false, false, false, false, false, false, false, false, false] rfl rfl (any_of HT_.out (by kernel_rfl)) (fun _ _ _ h => h) (Or.inl ⟨by rfl, ?_⟩) ?_ ?_
              rotate_left
              · intro w'
                go_simp
                with_reducible rfl
              rotate_left
              · simp only [Act.put, List.setIfInBounds_toArray, List.set_cons_zero, List.set_cons_succ, i64_w, i32_w]
                rfl
              refine pure_ (i := 4) (N := some 27) (v := ?_) (a' := ?_) #[true, true, true, true, true, false, false, false, false, false, false, false, false, false, false, false, false] rfl rfl (any_of HT_.out (by kernel_rfl)) (fun _ _ _ h => h) (Or.inl ⟨by rfl, ?_⟩) ?_ ?_
              rotate_left
              · intro w'
                go_simp
                with_reducible rfl
              rotate_left
              · simp only [Act.put, List.setIfInBounds_toArray, List.set_cons_zero, List.set_cons_succ, i64_w, i32_w]
                rfl
              refine pure_ (i := 6) (N := some 29) (v := ?_) (a' := ?_) #[true, true, true, true, true, false, true, false, false, false, false, false, false, false, false, false, false] rfl rfl (any_of HT_.out (by kernel_rfl)) (fun _ _ _ h => h) (Or.inl ⟨by rfl, ?_⟩) ?_ ?_
              rotate_left
              · intro w'
                go_simp
                with_reducible rfl
              rotate_left
              · simp only [Act.put, List.setIfInBounds_toArray, List.set_cons_zero, List.set_cons_succ, i64_w, i32_w]
                rfl
              refine pure_ (i := 7) (N := some 30) (v := ?_) (a' := ?_) #[true, true, true, true, true, false, true, true, false, false, false, false, false, false, false, false, false] rfl rfl (any_of HT_.out (by kernel_rfl)) (fun _ _ _ h => h) (Or.inl ⟨by rfl, ?_⟩) ?_ ?_
              rotate_left
              · intro w'
                go_simp
                with_reducible rfl
              rotate_left
              · simp only [Act.put, List.setIfInBounds_toArray, List.set_cons_zero, List.set_cons_succ, i64_w, i32_w]
                rfl
              refine pure_ (i := 8) (N := some 31) (v := ?_) (a' := ?_) #[true, true, true, true, true, false, true, true, true, false, false, false, false, false, false, false, false] rfl rfl (any_of HT_.out (by kernel_rfl)) (fun _ _ _ h => h) (Or.inl ⟨by rfl, ?_⟩) ?_ ?_
              rotate_left
              · intro w'
                go_simp
                with_reducible rfl
              rotate_left
              · simp only [Act.put, List.setIfInBounds_toArray, List.set_cons_zero, List.set_cons_succ, i64_w, i32_w]
                rfl
              refine pure_ (i := 9) (N := some 32) (v := ?_) (a' := ?_) #[true, true, true, true, true, false, true, true, true, true, false, false, false, false, false, false, false] rfl rfl (any_of HT_.out (by kernel_rfl)) (fun _ _ _ h => h) (Or.inl ⟨by rfl, ?_⟩) ?_ ?_
              rotate_left
              · intro w'
                go_simp
                with_reducible rfl
              rotate_left
              · simp only [Act.put, List.setIfInBounds_toArray, List.set_cons_zero, List.set_cons_succ, i64_w, i32_w]
                rfl
              refine pure_ (i := 12) (N := some 35) (v := ?_) (a' := ?_) #[true, true, true, true, true, false, true, true, true, true, false, false, true, false, false, false, false] rfl rfl (any_of HT_.out (by kernel_rfl)) (fun _ _ _ h => h) (Or.inl ⟨by rfl, ?_⟩) ?_ ?_
              rotate_left
              · intro w'
                go_simp
                with_reducible rfl
              rotate_left
              · simp only [Act.put, List.setIfInBounds_toArray, List.set_cons_zero, List.set_cons_succ, i64_w, i32_w]
                rfl
              refine take_ (i := 5) (N := some 28) (v := ?_) (a' := ?_) #[true, true, true, true, true, true, true, true, true, true, false, false, true, false, false, false, false] rfl rfl (take_ofW HT_.out HW_.out (by kernel_rfl)) (fun _ _ _ h => h) (Or.inl ⟨by rfl, ?_⟩) hHeld ?_ ?_
              rotate_left
              · rintro w' ⟨s0, s1⟩
                go_simp
                with_reducible rfl
              rotate_left
              · simp only [Act.put, List.setIfInBounds_toArray, List.set_cons_zero, List.set_cons_succ, i64_w, i32_w]
                rfl
              refine take_ (i := 10) (N := some 33) (v := ?_) (a' := ?_) #[true, true, true, true, true, true, true, true, true, true, true, false, true, false, false, false, false] rfl rfl (take_ofW HT_.out HW_.out (by kernel_rfl)) (fun _ _ _ h => h) (Or.inl ⟨by rfl, ?_⟩) hHeld ?_ ?_
              rotate_left
              · rintro w' ⟨s0, s1⟩
                go_simp
                with_reducible rfl
              rotate_left
              · simp only [Act.put, List.setIfInBounds_toArray, List.set_cons_zero, List.set_cons_succ, i64_w, i32_w]
                rfl
              refine one_ (i := 11) (N := some 34) #[true, true, true, true, true, true, true, true, true, true, true, true, true, false, false, false, false] rfl rfl (one_of HT_.out (by kernel_rfl)) (by decide) (fun K hK => ?_)
              refine goes_ Tryd.func13 (by kernel_rfl) rfl #[.string a1, .string (rdOf ByteArray.empty l2 x8_1)] (by rfl) rfl rfl (by (try simp only [List.map_toArray, List.map_cons, List.map_nil]); first | done | rfl | (simp only [List.length_drop, List.length_take]; rfl)) ?_
              with_reducible refine (spec_Distance.calls k1 a1 (rdOf ByteArray.empty l2 x8_1) t336 _ (by first | (with_reducible exact HAMB.out) | exact Amb.below HAMB.out (by repeat (first | (with_reducible first | exact HB.out | apply below_alloc | apply pw_below_drewN | apply below_drew1) | exact HB.out)) | exact Amb.below HAMB.out (by repeat (first | (with_reducible first | exact Below.refl _ _ | apply pw_below_drewN | apply below_drew1 | apply below_alloc)))) A10.out).mono ?_
              rintro e w14 ⟨rfl, hb⟩
              refine ⟨_, rfl, ?_⟩
              have n0_ := Aside0.mk (Kd.R_below (by (with_reducible repeat (first | apply Kd.R_alloc | apply Kd.R_drewN | apply Kd.R_drew)); exact HO_7.out) hb)
              have n1_ := Aside0.mk (below_step (by repeat (first | (with_reducible first | exact HB.out | apply below_alloc | apply pw_below_drewN | apply below_drew1) | exact HB.out)) hb)
              clear HO_7
              clear HB
              have HO_7 := n0_
              have HB := n1_
              clear n0_ n1_
              (try clear hb)
              (try clear hb2)
              (try clear hk)
              (try clear hi)
              refine hK.out _ _ ⟨((HB.out.cell (World.block_lt_of_cell? w _ hw334_0)).trans hw334_0), ((HB.out.cell (World.block_lt_of_cell? w _ hw335_0)).trans hw335_0)⟩ (fun hHeld => ?_)
              clear hK K
              refine norm_ (a' := ?_) ?_ ?_
              rotate_left
              · show Act.put _ (some 34) _ = _
                simp only [Act.put, List.setIfInBounds_toArray, List.set_cons_zero, List.set_cons_succ, i64_w, i32_w]
                rfl
              refine pure_ (i := 13) (N := some 36) (v := ?_) (a' := ?_) #[true, true, true, true, true, true, true, true, true, true, true, true, true, true, false, false, false] rfl rfl (any_of HT_.out (by kernel_rfl)) (fun _ _ _ h => h) (Or.inl ⟨by rfl, ?_⟩) ?_ ?_
              rotate_left
              · intro w'
                go_simp
                with_reducible rfl
              rotate_left
              · simp only [Act.put, List.setIfInBounds_toArray, List.set_cons_zero, List.set_cons_succ, i64_w, i32_w]
                rfl
              refine one_ (i := 14) (N := some 37) #[true, true, true, true, true, true, true, true, true, true, true, true, true, true, true, false, false] rfl rfl (one_of HT_.out (by kernel_rfl)) (by decide) (fun K hK => ?_)
              refine value_ (w1 := ?_) (v := ?_) (by rfl) rfl ?_ ?_
              rotate_left 2
              · go_simp
                constructor
                · rfl
                · rfl
              refine hK.out _ _ ⟨(World.cell?_alloc_lt _ _ _ (World.block_lt_of_cell? _ _ (((HB.out.cell (World.block_lt_of_cell? w _ hw334_0)).trans hw334_0)))).trans (((HB.out.cell (World.block_lt_of_cell? w _ hw334_0)).trans hw334_0)), (World.cell?_alloc_lt _ _ _ (World.block_lt_of_cell? _ _ (((HB.out.cell (World.block_lt_of_cell? w _ hw335_0)).trans hw335_0)))).trans (((HB.out.cell (World.block_lt_of_cell? w _ hw335_0)).trans hw335_0))⟩ (fun hHeld => ?_)
              clear hK K
              refine norm_ (a' := ?_) ?_ ?_
              rotate_left
              · show Act.put _ (some 37) _ = _
                simp only [Act.put, List.setIfInBounds_toArray, List.set_cons_zero, List.set_cons_succ, i64_w, i32_w]
                rfl
              refine one_ (i := 15) (N := some 38) #[true, true, true, true, true, true, true, true, true, true, true, true, true, true, true, true, false] rfl rfl (one_of HT_.out (by kernel_rfl)) (by decide) (fun K hK => ?_)
              refine Kd.R_append_step k50 (w0 := w) w.heap.size (by rfl) (.tmp 23) (.tmp 37) 38 50 (.agg #[(.string ⟨#[]⟩), (.string ⟨#[]⟩), (.int .i64 0), (.int .i64 0)]) 48 rfl Tryd.underlying38 info50 rfl (by decide) (by omega) u7 x7_1 (⟨a1, rdOf ByteArray.empty l2 x8_1, t336, x8_1⟩ : S50) [.string a1, .string (rdOf ByteArray.empty l2 x8_1), .int .i64 t336, .int .i64 x8_1] (fun _ => True) (fun _ => False) rfl rfl ?aP (fun _ hk => hk.elim) ?aF ?aO ?aB ?aS ?aL ?_
              (case aP => exact k50_mkM _ _ _ (⟨a1, rdOf ByteArray.empty l2 x8_1, t336, x8_1⟩ : S50))
              (case aB => exact (by repeat (first | (with_reducible first | exact HB.out | apply below_alloc | apply pw_below_drewN | apply below_drew1) | exact HB.out)))
              (case aF => exact (fun _ _ => trivial))
              (case aO => exact (by (with_reducible repeat (first | apply Kd.R_alloc | apply Kd.R_drewN | apply Kd.R_drew)); exact HO_7.out))
              (case aS => exact (below_size (by repeat (first | (with_reducible first | exact HB.out | apply below_alloc | apply pw_below_drewN | apply below_drew1) | exact HB.out))))
              (case aL => have := LMc11.out; omega)
              intro v338 w15 ho hb hg hat
              rw [← Ny337.out] at ho
              have n0_ := Aside0.mk (hb)
              have n1_ := Aside0.mk (ho)
              clear HB
              clear HO_7
              have HB := n0_
              have HO339 := n1_
              clear n0_ n1_
              clear ho hb hg hat
              refine hK.out _ _ ⟨((HB.out.cell (World.block_lt_of_cell? w _ hw334_0)).trans hw334_0), ((HB.out.cell (World.block_lt_of_cell? w _ hw335_0)).trans hw335_0)⟩ (fun hHeld => ?_)
              clear hK K
              refine norm_ (a' := ?_) ?_ ?_
              rotate_left
              · show Act.put _ (some 38) _ = _
                simp only [Act.put, List.setIfInBounds_toArray, List.set_cons_zero, List.set_cons_succ, i64_w, i32_w]
                rfl
              refine pure_ (i := 16) (N := some 7) (v := ?_) (a' := ?_) #[true, true, true, true, true, true, true, true, true, true, true, true, true, true, true, true, true] rfl rfl (any_of HT_.out (by kernel_rfl)) (fun _ _ _ h => h) (Or.inl ⟨by rfl, ?_⟩) ?_ ?_
              rotate_left
              · intro w'
                go_simp
                with_reducible rfl
              rotate_left
              · simp only [Act.put, List.setIfInBounds_toArray, List.set_cons_zero, List.set_cons_succ, i64_w, i32_w]
                rfl
              refine done_ (done_of HT_.out (by kernel_rfl)) ?_
              try go_wp2
              go_roundg k1
              case measure => have := HK1.out; omega
              case rel => exact ⟨(y337), (wrap64 (x8_1 + 1)), (by first | rfl | (simp; done) | (simp [*]; done)), H', ⟨by have := HK1.out; omega⟩, ⟨by (with_reducible repeat (first | apply Kd.R_alloc | apply Kd.R_drewN | apply Kd.R_drew)); exact HO339.out⟩, ⟨by repeat (first | (with_reducible first | exact HB.out | apply below_alloc | apply pw_below_drewN | apply below_drew1) | exact HB.out)⟩⟩
            · rw [if_neg c11] at H
              exact absurd H (by simp)
          · replace c9 := Bool.eq_false_iff.mpr c9
            subst c9
            have H1 : (spec_RankFind.l0 k1 a0 a1 l2 x7_1 (wrap64 (x8_1 + 1))) = some r := by rw [if_neg (show ¬ (false = true) by decide)] at H; exact H
            clear H
            have H := H1
            clear H1
            have H' := Aside0.mk H
            clear H
            have p332 : 0 ≤ (x8_1 : Int) := of_decide_eq_true (by first | (with_reducible assumption) | assumption)
            have q332 : x8_1 < (l2.length : Int) := of_decide_eq_true (by first | (with_reducible assumption) | assumption)
            obtain ⟨ad332, e332, hx332_0⟩ := Kd.at_string HR2.out x8_1 p332 q332
            cases e332
            replace hx332_0 := (HB.out.cell (World.block_lt_of_cell? w _ hx332_0)).trans hx332_0
            replace p332 := eq_true p332
            replace q332 := eq_true q332
            go_wp2_with (first | ((with_reducible refine gate_callee (f := 16) rfl ?_); refine goesL_ (some 22) rfl rfl Tryd.func16 (by kernel_rfl) rfl #[.bool a0, .string a1, .string (rdOf ByteArray.empty l2 x8_1)] rfl (by (try simp only [List.map_toArray, List.map_cons, List.map_nil]); first | done | rfl | (simp only [List.length_drop, List.length_take]; rfl)) ?_; (with_reducible refine (spec_Match.calls k1 a0 a1 (rdOf ByteArray.empty l2 x8_1) false _ (by first | (with_reducible exact HAMB.out) | exact Amb.below HAMB.out (by repeat (first | (with_reducible first | exact HB.out | apply below_alloc | apply pw_below_drewN | apply below_drew1) | exact HB.out)) | exact Amb.below HAMB.out (by repeat (first | (with_reducible first | exact Below.refl _ _ | apply pw_below_drewN | apply below_drew1 | apply below_alloc)))) A8.out).mono ?_); rintro e w16 ⟨rfl, hb⟩; refine ⟨_, rfl, ?_⟩; have n0_ := Aside0.mk (Kd.R_below (by (with_reducible repeat (first | apply Kd.R_alloc | apply Kd.R_drewN | apply Kd.R_drew)); exact HO_7.out) hb); have n1_ := Aside0.mk (below_step (by repeat (first | (with_reducible first | exact HB.out | apply below_alloc | apply pw_below_drewN | apply below_drew1) | exact HB.out)) hb); clear HO_7; clear HB; have HO_7 := n0_; have HB := n1_; clear n0_ n1_; (try clear hb); (try clear hb2); (try clear hk); (try clear hi)))
            go_roundg k1
            case measure => have := HK1.out; omega
            case rel => exact ⟨(x7_1), (wrap64 (x8_1 + 1)), (by first | rfl | (simp; done) | (simp [*]; done)), H', ⟨by have := HK1.out; omega⟩, ⟨by (with_reducible repeat (first | apply Kd.R_alloc | apply Kd.R_drewN | apply Kd.R_drew)); exact HO_7.out⟩, ⟨by repeat (first | (with_reducible first | exact HB.out | apply below_alloc | apply pw_below_drewN | apply below_drew1) | exact HB.out)⟩⟩
        · rw [if_neg c7] at H
          exact absurd H (by simp)
      · rw [if_neg c6] at H
        have c6b0 : decide (x8_1 < (l2.length : Int)) = false := decide_eq_false c6
        clear c6
        obtain rfl := Option.some.inj H
        go_wp2
        go_ret
        exact ⟨_, by first | rfl | (simp [errW_none, errW_some] <;> rfl) | (simp [*, errW_none, errW_some] <;> rfl), by (with_reducible repeat (first | apply Kd.R_alloc | apply Kd.R_drewN | apply Kd.R_drew)); exact HO_7.out, by repeat (first | (with_reducible first | exact HB.out | apply below_alloc | apply pw_below_drewN | apply below_drew1) | exact HB.out)⟩

end Go.Proofs.YtfkemfkleceeiaaDoor.P
