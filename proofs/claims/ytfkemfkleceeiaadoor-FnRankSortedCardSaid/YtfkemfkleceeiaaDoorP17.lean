-- written by a program of this session (wip/tools), out of the translation
import Derived.Test.YtfkemfkleceeiaaDoorP0
import Derived.Test.YtfkemfkleceeiaaDoorP6
import Derived.Test.YtfkemfkleceeiaaDoorP12
import Derived.Test.YtfkemfkleceeiaaDoorP14
import Derived.Test.YtfkemfkleceeiaaDoorP15
import Derived.Test.YtfkemfkleceeiaaDoorP16
namespace Go.Proofs.YtfkemfkleceeiaaDoor.P
open Go.RowKit Go.Proofs.YtfkemfkleceeiaaDoorW.PrintWords Go.Proofs.YtfkemfkleceeiaaDoorW.PrintLast Go.Proofs.YtfkemfkleceeiaaDoorW.PrintMore
attribute [local go_sem] max2_int min2_int max_two min_two max_three min_three max_four min_four   -- for this text's walks alone
set_option linter.unusedVariables false
set_option linter.unusedSimpArgs false

/-! ### laws_FnRankFind: function 10 -/
def laws_FnRankFind.j0 : Nat → Bool → ByteArray → List ByteArray → Bool → Option (Bool)
  | 0, _, _, _, _ => none
  | k + 1, x0, x1, x2, x14 => if x14 = true then (some true) else ((spec_AllPlain.f k x1 x2).bind fun t341 => (if t341 = true then ((impl_RankFind.f k x0 false x1 x2).bind fun t342 => ((spec_RankFind.f k x0 x1 x2).bind fun t345 => ((spec_SameRanks.f k t342 t345).bind fun t348 => (some t348)))) else (some true)))
def laws_FnRankFind.f (k : Nat) (a0 : Bool) (a1 : ByteArray) (l2 : List ByteArray) : Option (Bool) := if (a1.size : Int) > 2147483647 then (laws_FnRankFind.j0 k a0 a1 l2 true) else ((laws_zzFits1.f k l2).bind fun t340 => (laws_FnRankFind.j0 k a0 a1 l2 (!t340)))
theorem laws_FnRankFind.mono_l : ∀ k, (∀ y0 y1 y2 y3, LeO (laws_FnRankFind.j0 k y0 y1 y2 y3) (laws_FnRankFind.j0 (k + 1) y0 y1 y2 y3))
  | 0 => fun _ _ _ _ r h => by simp [laws_FnRankFind.j0] at h
  | k + 1 => by
    have ih0 := laws_FnRankFind.mono_l k
    · intro y0 y1 y2 y3
      unfold laws_FnRankFind.j0
      repeat' first
      | (with_reducible exact ih0 _ _ _ _)
      | (with_reducible exact impl_RankFind.mono _ _ _ _ _)
      | (with_reducible exact laws_zzFits1.mono _ _)
      | (with_reducible exact spec_AllPlain.mono _ _ _)
      | (with_reducible exact spec_RankFind.mono _ _ _ _)
      | (with_reducible exact spec_SameRanks.mono _ _ _)
      | (with_reducible exact LeO.refl _)
      | (with_reducible exact LeO.none _)
      | (with_reducible refine LeO.ite ?_ ?_)
      | (with_reducible refine LeO.bind ?_ (fun _ => ?_))
      | exact ih0 _ _ _ _
      | exact impl_RankFind.mono _ _ _ _ _
      | exact laws_zzFits1.mono _ _
      | exact spec_AllPlain.mono _ _ _
      | exact spec_RankFind.mono _ _ _ _
      | exact spec_SameRanks.mono _ _ _
      | exact LeO.none _
      | refine LeO.ite ?_ ?_
      | refine LeO.bind ?_ (fun _ => ?_)
theorem laws_FnRankFind.mono : ∀ a0 a1 a2 k, LeO (laws_FnRankFind.f k a0 a1 a2) (laws_FnRankFind.f (k + 1) a0 a1 a2) := by
  intro a0 a1 a2 k
  have ih0 := laws_FnRankFind.mono_l k
  unfold laws_FnRankFind.f
  repeat' first
      | (with_reducible exact ih0 _ _ _ _)
      | (with_reducible exact impl_RankFind.mono _ _ _ _ _)
      | (with_reducible exact laws_zzFits1.mono _ _)
      | (with_reducible exact spec_AllPlain.mono _ _ _)
      | (with_reducible exact spec_RankFind.mono _ _ _ _)
      | (with_reducible exact spec_SameRanks.mono _ _ _)
      | (with_reducible exact LeO.refl _)
      | (with_reducible exact LeO.none _)
      | (with_reducible refine LeO.ite ?_ ?_)
      | (with_reducible refine LeO.bind ?_ (fun _ => ?_))
      | exact ih0 _ _ _ _
      | exact impl_RankFind.mono _ _ _ _ _
      | exact laws_zzFits1.mono _ _
      | exact spec_AllPlain.mono _ _ _
      | exact spec_RankFind.mono _ _ _ _
      | exact spec_SameRanks.mono _ _ _
      | exact LeO.none _
      | refine LeO.ite ?_ ?_
      | refine LeO.bind ?_ (fun _ => ?_)
set_option maxHeartbeats 8000000 in
set_option maxRecDepth 100000 in
theorem laws_FnRankFind.calls (k : Nat) (a0 : Bool) (a1 : ByteArray) (A2 : Option Addr) (c2 : Nat) (l2 : List ByteArray) (r : Bool) (w : World) (hr2 : Kd.C Kd.string w A2 l2.length l2) (hc2 : l2.length ≤ c2) (hA_ : Amb w) (h : laws_FnRankFind.f k a0 a1 l2 = some r) :
    Calls Tryd.prog 10 #[.bool a0, .string a1, .slice A2 l2.length c2] w fun e w' => e = .returned (.bool r) ∧ Below w.heap.size w w' := by
  have HR2 := Aside0.mk hr2
  have HC2 := Aside0.mk hc2
  clear hr2 hc2
  have HAMB := Aside0.mk hA_
  clear hA_
  have HB := Aside0.mk (Below.refl w.heap.size w)
  have H : (if (a1.size : Int) > 2147483647 then (laws_FnRankFind.j0 k a0 a1 l2 true) else ((laws_zzFits1.f k l2).bind fun t340 => (laws_FnRankFind.j0 k a0 a1 l2 (!t340)))) = some r := h
  clear h
  have HC4 := Aside0.mk H
  clear H
  go_enter Tryd.func10, Tryd.ntmps10
  go_upto_region 1 with (fail)
  go_cut [14] (fun v14 wc => ∃ (kq : Nat) (x14_3 : Bool), v14 = .bool x14_3 ∧ Aside0 (laws_FnRankFind.j0 kq a0 a1 l2 x14_3 = some r) ∧ Aside0 (kq ≤ k) ∧ Aside0 (Below w.heap.size w wc))
  case first =>
    have H := HC4.out
    clear HC4
    by_cases c5 : (a1.size : Int) > 2147483647
    · rw [if_pos c5] at H
      have c5b0 : decide (2147483647 < (a1.size : Int)) = true := decide_eq_true c5
      have c5b1 : decide (2147483647 < a1.size) = true := decide_eq_true (by omega)
      clear c5
      (first | rw [c5b0] | (simp only [i64_w, i32_w]; rw [c5b0]) | skip)
      have H' := Aside0.mk H
      clear H
      go_wp2
      go_meet
      case rel => exact ⟨_, (true), (by first | rfl | (simp; done) | (simp [*]; done)), H', ⟨by first | omega | exact Nat.le_refl _⟩, ⟨by repeat (first | (with_reducible first | exact HB.out | apply below_alloc | apply pw_below_drewN | apply below_drew1) | exact HB.out)⟩⟩
    · rw [if_neg c5] at H
      have c5b0 : decide (2147483647 < (a1.size : Int)) = false := decide_eq_false c5
      have c5b1 : decide (2147483647 < a1.size) = false := decide_eq_false (by omega)
      clear c5
      (first | rw [c5b0] | (simp only [i64_w, i32_w]; rw [c5b0]) | skip)
      replace H := Option.bind_eq_some_iff.mp H
      obtain ⟨t340, A60, H⟩ := H
      replace H : (laws_FnRankFind.j0 k a0 a1 l2 (!t340)) = some r := H
      have A6 := Aside0.mk A60
      clear A60
      have H' := Aside0.mk H
      clear H
      go_wp2_with (first | (go_at_call 17; (with_reducible refine (laws_zzFits1.calls k _ _ l2 t340 _ ?side1 ?side2 A6.out).mono ?_); (case side1 => repeat (first | exact (Kd.C_below HR2.out HB.out) | (with_reducible refine Kd.C_alloc ?_ _) | (with_reducible refine Kd.C_drewN ?_ _) | (with_reducible refine Kd.C_drew ?_))); (case side2 => exact HC2.out); rintro e w' ⟨rfl, ⟨nd, rfl⟩⟩))
      go_meet
      case rel => exact ⟨_, (!t340), (by first | rfl | (simp; done) | (simp [*]; done)), H', ⟨by first | omega | exact Nat.le_refl _⟩, ⟨by repeat (first | (with_reducible first | exact HB.out | apply below_alloc | apply pw_below_drewN | apply below_drew1) | exact HB.out)⟩⟩
  case rest =>
    clear HC4
    try clear c1
    try clear c2
    try clear p2
    try clear c5
    try clear c5b0
    try clear c5b1
    obtain ⟨kq, x14_3, rfl, HA, HJ3, HB⟩ := hcut
    cases kq with
    | zero => exact absurd HA.out (by simp [laws_FnRankFind.j0])
    | succ kj3 =>
      have H := HA.out
      clear HA
      simp only [laws_FnRankFind.j0] at H
      by_cases c7 : x14_3 = true
      · subst c7
        have H1 : (some true) = some r := by rw [if_pos rfl] at H; exact H
        clear H
        have H := H1
        clear H1
        obtain rfl := Option.some.inj H
        go_wp2
        go_ret
        exact ⟨by first | rfl | (simp [errW_none, errW_some] <;> rfl) | (simp [*, errW_none, errW_some] <;> rfl), by repeat (first | (with_reducible first | exact HB.out | apply below_alloc | apply pw_below_drewN | apply below_drew1) | exact HB.out)⟩
      · replace c7 := Bool.eq_false_iff.mpr c7
        subst c7
        have H1 : ((spec_AllPlain.f kj3 a1 l2).bind fun t341 => (if t341 = true then ((impl_RankFind.f kj3 a0 false a1 l2).bind fun t342 => ((spec_RankFind.f kj3 a0 a1 l2).bind fun t345 => ((spec_SameRanks.f kj3 t342 t345).bind fun t348 => (some t348)))) else (some true))) = some r := by rw [if_neg (show ¬ (false = true) by decide)] at H; exact H
        clear H
        have H := H1
        clear H1
        replace H := Option.bind_eq_some_iff.mp H
        obtain ⟨t341, A80, H⟩ := H
        replace H : (if t341 = true then ((impl_RankFind.f kj3 a0 false a1 l2).bind fun t342 => ((spec_RankFind.f kj3 a0 a1 l2).bind fun t345 => ((spec_SameRanks.f kj3 t342 t345).bind fun t348 => (some t348)))) else (some true)) = some r := H
        have A8 := Aside0.mk A80
        clear A80
        by_cases c9 : t341 = true
        · subst c9
          have H1 : ((impl_RankFind.f kj3 a0 false a1 l2).bind fun t342 => ((spec_RankFind.f kj3 a0 a1 l2).bind fun t345 => ((spec_SameRanks.f kj3 t342 t345).bind fun t348 => (some t348)))) = some r := by rw [if_pos rfl] at H; exact H
          clear H
          have H := H1
          clear H1
          replace H := Option.bind_eq_some_iff.mp H
          obtain ⟨t342, A100, H⟩ := H
          replace H : ((spec_RankFind.f kj3 a0 a1 l2).bind fun t345 => ((spec_SameRanks.f kj3 t342 t345).bind fun t348 => (some t348))) = some r := H
          have A10 := Aside0.mk A100
          clear A100
          replace H := Option.bind_eq_some_iff.mp H
          obtain ⟨t345, A110, H⟩ := H
          replace H : ((spec_SameRanks.f kj3 t342 t345).bind fun t348 => (some t348)) = some r := H
          have A11 := Aside0.mk A110
          clear A110
          replace H := Option.bind_eq_some_iff.mp H
          obtain ⟨t348, A120, H⟩ := H
          replace H : (some t348) = some r := H
          have A12 := Aside0.mk A120
          clear A120
          obtain rfl := Option.some.inj H
          go_wp2_with (first | ((with_reducible refine gate_callee (f := 14) rfl ?_); refine goesL_ (some 17) rfl rfl Tryd.func14 (by kernel_rfl) rfl #[.string a1, .slice A2 l2.length c2] rfl (by (try simp only [List.map_toArray, List.map_cons, List.map_nil]); first | done | rfl | (simp only [List.length_drop, List.length_take]; rfl)) ?_; (with_reducible refine (spec_AllPlain.calls kj3 a1 _ _ l2 true _ ?side1 ?side2 A8.out).mono ?_); (case side1 => repeat (first | exact (Kd.C_below HR2.out HB.out) | (with_reducible refine Kd.C_alloc ?_ _) | (with_reducible refine Kd.C_drewN ?_ _) | (with_reducible refine Kd.C_drew ?_))); (case side2 => exact HC2.out); rintro e w13 ⟨rfl, hb⟩; refine ⟨_, rfl, ?_⟩; have n0_ := Aside0.mk (below_step (by repeat (first | (with_reducible first | exact HB.out | apply below_alloc | apply pw_below_drewN | apply below_drew1) | exact HB.out)) hb); clear HB; have HB := n0_; clear n0_; (try clear hb); (try clear hb2); (try clear hk); (try clear hi)) | ((with_reducible refine gate_callee (f := 24) rfl ?_); refine goesL_ (some 22) rfl rfl Tryd.func24 (by kernel_rfl) rfl #[.bool a0, .bool false, .string a1, .slice A2 l2.length c2] rfl (by (try simp only [List.map_toArray, List.map_cons, List.map_nil]); first | done | rfl | (simp only [List.length_drop, List.length_take]; rfl)) ?_; (with_reducible refine (impl_RankFind.calls kj3 a0 false a1 _ _ l2 t342 _ ?side1 ?side2 (by first | (with_reducible exact HAMB.out) | exact Amb.below HAMB.out (by repeat (first | (with_reducible first | exact HB.out | apply below_alloc | apply pw_below_drewN | apply below_drew1) | exact HB.out)) | exact Amb.below HAMB.out (by repeat (first | (with_reducible first | exact Below.refl _ _ | apply pw_below_drewN | apply below_drew1 | apply below_alloc)))) A10.out).mono ?_); (case side1 => repeat (first | exact (Kd.C_below HR2.out HB.out) | (with_reducible refine Kd.C_alloc ?_ _) | (with_reducible refine Kd.C_drewN ?_ _) | (with_reducible refine Kd.C_drew ?_))); (case side2 => exact HC2.out); rintro e w14 ⟨v343, rfl, ho0, hb⟩; refine ⟨_, rfl, ?_⟩; have n0_ := Aside0.mk (Kd.R_lower ho0 (below_size (by repeat (first | (with_reducible first | exact HB.out | apply below_alloc | apply pw_below_drewN | apply below_drew1) | exact HB.out)))); have n1_ := Aside0.mk (below_step (by repeat (first | (with_reducible first | exact HB.out | apply below_alloc | apply pw_below_drewN | apply below_drew1) | exact HB.out)) hb); clear HB; have HO344 := n0_; have HB := n1_; clear n0_ n1_; (try clear hb); (try clear hb2); (try clear hk); (try clear hi); (try clear ho0)) | ((with_reducible refine gate_callee (f := 25) rfl ?_); refine goesL_ (some 26) rfl rfl Tryd.func25 (by kernel_rfl) rfl #[.bool a0, .string a1, .slice A2 l2.length c2] rfl (by (try simp only [List.map_toArray, List.map_cons, List.map_nil]); first | done | rfl | (simp only [List.length_drop, List.length_take]; rfl)) ?_; (with_reducible refine (spec_RankFind.calls kj3 a0 a1 _ _ l2 t345 _ ?side1 ?side2 (by first | (with_reducible exact HAMB.out) | exact Amb.below HAMB.out (by repeat (first | (with_reducible first | exact HB.out | apply below_alloc | apply pw_below_drewN | apply below_drew1) | exact HB.out)) | exact Amb.below HAMB.out (by repeat (first | (with_reducible first | exact Below.refl _ _ | apply pw_below_drewN | apply below_drew1 | apply below_alloc)))) A11.out).mono ?_); (case side1 => repeat (first | exact (Kd.C_below HR2.out HB.out) | (with_reducible refine Kd.C_alloc ?_ _) | (with_reducible refine Kd.C_drewN ?_ _) | (with_reducible refine Kd.C_drew ?_))); (case side2 => exact HC2.out); rintro e w15 ⟨v346, rfl, ho0, hb⟩; refine ⟨_, rfl, ?_⟩; have n0_ := Aside0.mk (Kd.R_elder' (by (with_reducible repeat (first | apply Kd.R_alloc | apply Kd.R_drewN | apply Kd.R_drew)); exact HO344.out) (Kd.R_base ho0) hb); have n1_ := Aside0.mk (Kd.R_lower (Kd.R_new' ho0 (Kd.R_lt (by (with_reducible repeat (first | apply Kd.R_alloc | apply Kd.R_drewN | apply Kd.R_drew)); exact HO344.out))) (below_size (by repeat (first | (with_reducible first | exact HB.out | apply below_alloc | apply pw_below_drewN | apply below_drew1) | exact HB.out)))); have n2_ := Aside0.mk (below_step (by repeat (first | (with_reducible first | exact HB.out | apply below_alloc | apply pw_below_drewN | apply below_drew1) | exact HB.out)) hb); clear HO344; clear HB; have HO344 := n0_; have HO347 := n1_; have HB := n2_; clear n0_ n1_ n2_; (try clear hb); (try clear hb2); (try clear hk); (try clear hi); (try clear ho0); obtain ⟨Ao16, co16, eo16⟩ := Kd.R_slice HO344.out; subst eo16; obtain ⟨Ao17, co17, eo17⟩ := Kd.R_slice HO347.out; subst eo17) | ((with_reducible refine gate_callee (f := 23) rfl ?_); refine goesL_ (some 27) rfl rfl Tryd.func23 (by kernel_rfl) rfl #[.slice Ao16 t342.length co16, .slice Ao17 t345.length co17] rfl (by (try simp only [List.map_toArray, List.map_cons, List.map_nil]); first | done | rfl | (simp only [List.length_drop, List.length_take]; rfl)) ?_; (with_reducible refine (spec_SameRanks.calls kj3 _ _ t342 _ _ t345 t348 _ ?side1 ?side2 ?side3 ?side4 A12.out).mono ?_); (case side1 => repeat (first | exact (Kd.R_reads' HO344.out).2.2 | (with_reducible refine Kd.C_alloc ?_ _) | (with_reducible refine Kd.C_drewN ?_ _) | (with_reducible refine Kd.C_drew ?_))); (case side2 => exact (Kd.R_reads' HO344.out).2.1); (case side3 => repeat (first | exact (Kd.R_reads' HO347.out).2.2 | (with_reducible refine Kd.C_alloc ?_ _) | (with_reducible refine Kd.C_drewN ?_ _) | (with_reducible refine Kd.C_drew ?_))); (case side4 => exact (Kd.R_reads' HO347.out).2.1); rintro e w' ⟨rfl, ⟨nd, rfl⟩⟩; refine ⟨_, rfl, ?_⟩))
          go_ret
          exact ⟨by first | rfl | (simp [errW_none, errW_some] <;> rfl) | (simp [*, errW_none, errW_some] <;> rfl), by repeat (first | (with_reducible first | exact HB.out | apply below_alloc | apply pw_below_drewN | apply below_drew1) | exact HB.out)⟩
        · replace c9 := Bool.eq_false_iff.mpr c9
          subst c9
          have H1 : (some true) = some r := by rw [if_neg (show ¬ (false = true) by decide)] at H; exact H
          clear H
          have H := H1
          clear H1
          obtain rfl := Option.some.inj H
          go_wp2_with (first | ((with_reducible refine gate_callee (f := 14) rfl ?_); refine goesL_ (some 17) rfl rfl Tryd.func14 (by kernel_rfl) rfl #[.string a1, .slice A2 l2.length c2] rfl (by (try simp only [List.map_toArray, List.map_cons, List.map_nil]); first | done | rfl | (simp only [List.length_drop, List.length_take]; rfl)) ?_; (with_reducible refine (spec_AllPlain.calls kj3 a1 _ _ l2 false _ ?side1 ?side2 A8.out).mono ?_); (case side1 => repeat (first | exact (Kd.C_below HR2.out HB.out) | (with_reducible refine Kd.C_alloc ?_ _) | (with_reducible refine Kd.C_drewN ?_ _) | (with_reducible refine Kd.C_drew ?_))); (case side2 => exact HC2.out); rintro e w18 ⟨rfl, hb⟩; refine ⟨_, rfl, ?_⟩; have n0_ := Aside0.mk (below_step (by repeat (first | (with_reducible first | exact HB.out | apply below_alloc | apply pw_below_drewN | apply below_drew1) | exact HB.out)) hb); clear HB; have HB := n0_; clear n0_; (try clear hb); (try clear hb2); (try clear hk); (try clear hi)))
          go_ret
          exact ⟨by first | rfl | (simp [errW_none, errW_some] <;> rfl) | (simp [*, errW_none, errW_some] <;> rfl), by repeat (first | (with_reducible first | exact HB.out | apply below_alloc | apply pw_below_drewN | apply below_drew1) | exact HB.out)⟩

-- NOT PRINTED: function 60 (sort_insertionSort)

-- NOT PRINTED: function 66 (sort_swapRange)

-- NOT PRINTED: function 63 (sort_rotate)

-- NOT PRINTED: function 61 (sort_symMerge)

-- NOT PRINTED: function 52 (sort_stable)

-- NOT PRINTED: function 41 (sort_Stable)

-- TOLD BY HAND: function 26 (impl_RankSorted)

/-! ### spec_Nearest: function 27 -/
mutual
def spec_Nearest.l0 : Nat → List (S50) → List (S50) → Int → Option ((List (S50)))
  | 0, _, _, _ => none
  | k + 1, x0, x3, x4 => if x4 ≤ 200 then (spec_Nearest.l1 k x0 x3 x4 x0 (x0.length : Int) 0) else (some x3)
def spec_Nearest.l1 : Nat → List (S50) → List (S50) → Int → List (S50) → Int → Int → Option ((List (S50)))
  | 0, _, _, _, _, _, _ => none
  | k + 1, x0, x3, x4, x12, x13, x14 => if x14 < x13 then (if 0 ≤ x14 then (if x14 < (x12.length : Int) then (if ((rd_T50 x12 x14).f2) = x4 then (if x3.length < 2932031007402 then (spec_Nearest.l1 k x0 (x3 ++ [(⟨(rd_T50 x12 x14).f0, (rd_T50 x12 x14).f1, (rd_T50 x12 x14).f2, (rd_T50 x12 x14).f3⟩ : S50)]) x4 x12 x13 (wrap64 (x14 + 1))) else (none)) else (spec_Nearest.l1 k x0 x3 x4 x12 x13 (wrap64 (x14 + 1)))) else (none)) else (none)) else (spec_Nearest.l0 k x0 x3 (wrap64 (x4 + 1)))
end
def spec_Nearest.f (k : Nat) (l0 : List (S50)) : Option ((List (S50))) := spec_Nearest.l0 k l0 (([] : List (S50))) 0
theorem spec_Nearest.mono_l : ∀ k, (∀ y0 y1 y2, LeO (spec_Nearest.l0 k y0 y1 y2) (spec_Nearest.l0 (k + 1) y0 y1 y2)) ∧ (∀ y0 y1 y2 y3 y4 y5, LeO (spec_Nearest.l1 k y0 y1 y2 y3 y4 y5) (spec_Nearest.l1 (k + 1) y0 y1 y2 y3 y4 y5))
  | 0 => ⟨fun _ _ _ r h => by simp [spec_Nearest.l0] at h, fun _ _ _ _ _ _ r h => by simp [spec_Nearest.l1] at h⟩
  | k + 1 => by
    obtain ⟨ih0, ih1⟩ := spec_Nearest.mono_l k
    refine ⟨?_, ?_⟩
    · intro y0 y1 y2
      unfold spec_Nearest.l0
      repeat' first
      | (with_reducible exact ih0 _ _ _)
      | (with_reducible exact ih1 _ _ _ _ _ _)
      | (with_reducible exact LeO.refl _)
      | (with_reducible exact LeO.none _)
      | (with_reducible refine LeO.ite ?_ ?_)
      | (with_reducible refine LeO.bind ?_ (fun _ => ?_))
      | exact ih0 _ _ _
      | exact ih1 _ _ _ _ _ _
      | exact LeO.none _
      | refine LeO.ite ?_ ?_
      | refine LeO.bind ?_ (fun _ => ?_)
    · intro y0 y1 y2 y3 y4 y5
      unfold spec_Nearest.l1
      repeat' first
      | (with_reducible exact ih0 _ _ _)
      | (with_reducible exact ih1 _ _ _ _ _ _)
      | (with_reducible exact LeO.refl _)
      | (with_reducible exact LeO.none _)
      | (with_reducible refine LeO.ite ?_ ?_)
      | (with_reducible refine LeO.bind ?_ (fun _ => ?_))
      | exact ih0 _ _ _
      | exact ih1 _ _ _ _ _ _
      | exact LeO.none _
      | refine LeO.ite ?_ ?_
      | refine LeO.bind ?_ (fun _ => ?_)
theorem spec_Nearest.mono : ∀ a0 k, LeO (spec_Nearest.f k a0) (spec_Nearest.f (k + 1) a0) := by
  intro a0 k
  obtain ⟨ih0, ih1⟩ := spec_Nearest.mono_l k
  unfold spec_Nearest.f
  repeat' first
      | (with_reducible exact ih0 _ _ _)
      | (with_reducible exact ih1 _ _ _ _ _ _)
      | (with_reducible exact LeO.refl _)
      | (with_reducible exact LeO.none _)
      | (with_reducible refine LeO.ite ?_ ?_)
      | (with_reducible refine LeO.bind ?_ (fun _ => ?_))
      | exact ih0 _ _ _
      | exact ih1 _ _ _ _ _ _
      | exact LeO.none _
      | refine LeO.ite ?_ ?_
      | refine LeO.bind ?_ (fun _ => ?_)
set_option maxHeartbeats 8000000 in
set_option maxRecDepth 100000 in
theorem spec_Nearest.calls (k : Nat) (A0 : Option Addr) (c0 : Nat) (l0 : List (S50)) (r : List (S50)) (w : World) (hr0 : Kd.C k50 w A0 l0.length l0) (hc0 : l0.length ≤ c0) (h : spec_Nearest.f k l0 = some r) :
    Calls Tryd.prog 27 #[.slice A0 l0.length c0] w fun e w' => ∃ v0_ : Value, e = .returned (v0_) ∧ Kd.R k50 50 w' w.heap.size (fun _ => True) v0_ r ∧ Below w.heap.size w w' := by
  have hu50 := Tryd.underlying50
  have HR0 := Aside0.mk hr0
  have HC0 := Aside0.mk hc0
  clear hr0 hc0
  have HB := Aside0.mk (Below.refl w.heap.size w)
  have H : (spec_Nearest.l0 k l0 (([] : List (S50))) 0) = some r := h
  clear h
  obtain ⟨y349, hy349⟩ : ∃ y_ : List (S50), y_ = (([] : List (S50))) := ⟨_, rfl⟩
  replace H : (spec_Nearest.l0 k l0 y349 0) = some r := by first | (rw [hy349]; with_reducible exact H) | (have H2_ := (Option.bind_some _ _).symm.trans H; rw [hy349]; with_reducible exact H2_) | (have H2_ := (Option.bind_some _ _).symm.trans H; with_reducible exact H2_) | with_reducible exact H | (rw [hy349]; exact H) | exact H
  have Ny349 := Aside0.mk hy349
  clear hy349
  have H' := Aside0.mk H
  clear H
  go_enter Tryd.func27, Tryd.ntmps27
  go_wp2_with (first | ((with_reducible refine gate_dst (N := 7) rfl ?_); refine Kd.R_lit k50 _ 50 ?hg (N := 7) ?hd (xs := ([] : List (S50))) (inner := []) (ok := fun _ => True) (okp := fun _ => True) ?hr ?hp (fun _ hk => hk) trivial (Below.refl _ _) (Nat.le_refl _) (by simp) ?_; (case hd => rfl); (case hg => rfl); (case hr => first | (go_simp; done) | (go_simp; rfl)); (case hp => exact (Reps.none _ _)); intro v350 w2 ho3 hb hg_ hnew_; clear hg_ hnew_; (first | rw [← Ny349.out] at ho3 | (simp only [Int.reduceToNat] at ho3; rw [← Ny349.out] at ho3)); have n0_ := Aside0.mk (Kd.R_lower ho3 (below_size (by repeat (first | (with_reducible first | exact HB.out | apply below_alloc | apply pw_below_drewN | apply below_drew1) | exact HB.out)))); have n1_ := Aside0.mk (below_step (by repeat (first | (with_reducible first | exact HB.out | apply below_alloc | apply pw_below_drewN | apply below_drew1) | exact HB.out)) hb); clear HB; have HO351 := n0_; have HB := n1_; clear n0_ n1_; clear hb ho3))
  go_loopg [3, 4] k (fun kq v3 v4 w' => ∃ (x3_1 : List (S50)) (x4_1 : Int), v4 = .int .i64 x4_1 ∧ Aside0 (spec_Nearest.l0 kq l0 x3_1 x4_1 = some r) ∧ Aside0 (kq ≤ k) ∧ Aside0 (Kd.R k50 50 w' w.heap.size (fun _ => True) v3 x3_1) ∧ Aside0 (Below w.heap.size w w'))
  case atStart => exact ⟨(y349), (0), (by first | rfl | (simp; done) | (simp [*]; done)), H', ⟨Nat.le_refl _⟩, ⟨by (with_reducible repeat (first | apply Kd.R_alloc | apply Kd.R_drewN | apply Kd.R_drew)); exact HO351.out⟩, ⟨by repeat (first | (with_reducible first | exact HB.out | apply below_alloc | apply pw_below_drewN | apply below_drew1) | exact HB.out)⟩⟩
  case round =>
    clear H'
    try clear c2
    try clear p2
    obtain ⟨x3_1, x4_1, rfl, HA, HK1, HO_3, HB⟩ := hrel
    cases gk with
    | zero => exact absurd HA.out (by simp [spec_Nearest.l0])
    | succ k1 =>
      have H := HA.out
      clear HA
      simp only [spec_Nearest.l0] at H
      by_cases c4 : x4_1 ≤ 200
      · rw [if_pos c4] at H
        have c4b0 : decide (x4_1 ≤ 200) = true := decide_eq_true c4
        clear c4
        have H' := Aside0.mk H
        clear H
        go_wp2
        go_loopg [3, 14] k1 (fun kq v3 v14 w' => ∃ (x3_2 : List (S50)) (x14_2 : Int), v14 = .int .i64 x14_2 ∧ Aside0 (spec_Nearest.l1 kq l0 x3_2 x4_1 l0 (l0.length : Int) x14_2 = some r) ∧ Aside0 (kq ≤ k1) ∧ Aside0 (Kd.R k50 50 w' w.heap.size (fun _ => True) v3 x3_2) ∧ Aside0 (Below w.heap.size w w'))
        case atStart => exact ⟨(x3_1), (0), (by first | rfl | (simp; done) | (simp [*]; done)), H', ⟨Nat.le_refl _⟩, ⟨by (with_reducible repeat (first | apply Kd.R_alloc | apply Kd.R_drewN | apply Kd.R_drew)); exact HO_3.out⟩, ⟨by repeat (first | (with_reducible first | exact HB.out | apply below_alloc | apply pw_below_drewN | apply below_drew1) | exact HB.out)⟩⟩
        case round =>
          clear H'
          try clear c2
          try clear p2
          try clear c4
          try clear c4b0
          try clear p2
          obtain ⟨x3_2, x14_2, rfl, HA, HK2, HO_3, HB⟩ := hrel
          cases gk with
          | zero => exact absurd HA.out (by simp [spec_Nearest.l1])
          | succ k2 =>
            have H := HA.out
            clear HA
            simp only [spec_Nearest.l1] at H
            by_cases c5 : x14_2 < (l0.length : Int)
            · rw [if_pos c5] at H
              have c5b0 : decide (x14_2 < (l0.length : Int)) = true := decide_eq_true c5
              clear c5
              by_cases c6 : 0 ≤ x14_2
              · rw [if_pos c6] at H
                have c6b0 : decide (0 ≤ x14_2) = true := decide_eq_true c6
                clear c6
                by_cases c7 : x14_2 < (l0.length : Int)
                · rw [if_pos c7] at H
                  have c7b0 : decide (x14_2 < (l0.length : Int)) = true := decide_eq_true c7
                  clear c7
                  by_cases c8 : ((rd_T50 l0 x14_2).f2) = x4_1
                  · rw [if_pos c8] at H
                    have c8b0 : (((rd_T50 l0 x14_2).f2) == x4_1) = true := beq_iff_eq.mpr c8
                    have c8b1 : (((rd_T50 l0 x14_2).f2) != x4_1) = false := bne_eq_false_iff_eq.mpr c8
                    clear c8
                    by_cases c9 : x3_2.length < 2932031007402
                    · rw [if_pos c9] at H
                      have LMc9 := Aside0.mk c9
                      clear c9
                      obtain ⟨y354, hy354⟩ : ∃ y_ : List (S50), y_ = (x3_2 ++ [(⟨(rd_T50 l0 x14_2).f0, (rd_T50 l0 x14_2).f1, (rd_T50 l0 x14_2).f2, (rd_T50 l0 x14_2).f3⟩ : S50)]) := ⟨_, rfl⟩
                      replace H : (spec_Nearest.l1 k2 l0 y354 x4_1 l0 (l0.length : Int) (wrap64 (x14_2 + 1))) = some r := by first | (rw [hy354]; with_reducible exact H) | (have H2_ := (Option.bind_some _ _).symm.trans H; rw [hy354]; with_reducible exact H2_) | (have H2_ := (Option.bind_some _ _).symm.trans H; with_reducible exact H2_) | with_reducible exact H | (rw [hy354]; exact H) | exact H
                      have Ny354 := Aside0.mk hy354
                      clear hy354
                      have H' := Aside0.mk H
                      clear H
                      have p352 : 0 ≤ (x14_2 : Int) := of_decide_eq_true (by first | (with_reducible assumption) | assumption)
                      have q352 : x14_2 < (l0.length : Int) := of_decide_eq_true (by first | (with_reducible assumption) | assumption)
                      obtain ⟨ad352, e352, hx352_0, hx352_1, hx352_2, hx352_3⟩ := at_T50 HR0.out x14_2 p352 q352
                      cases e352
                      replace hx352_0 := (HB.out.cell (World.block_lt_of_cell? w _ hx352_0)).trans hx352_0
                      replace hx352_1 := (HB.out.cell (World.block_lt_of_cell? w _ hx352_1)).trans hx352_1
                      replace hx352_2 := (HB.out.cell (World.block_lt_of_cell? w _ hx352_2)).trans hx352_2
                      replace hx352_3 := (HB.out.cell (World.block_lt_of_cell? w _ hx352_3)).trans hx352_3
                      replace p352 := eq_true p352
                      replace q352 := eq_true q352
                      go_wp2_with (first | ((with_reducible refine gate_dst (N := 6) rfl ?_); refine box_event ?hg (N := 6) ?hd (cs := #[.string (⟨#[]⟩ : ByteArray), .string (⟨#[]⟩ : ByteArray), .int .i64 0, .int .i64 0]) (t := 50) ?hr ?_; (case hd => rfl); (case hg => rfl); (case hr => first | (go_simp; done) | (go_simp; rfl)); intro gb353 hg w10 hbox hb; have n0_ := Aside0.mk (Kd.R_below (Kd.R_elderB (by (with_reducible repeat (first | apply Kd.R_alloc | apply Kd.R_drewN | apply Kd.R_drew)); exact HO_3.out) gb353 (Nat.le_of_eq hg.symm)) hb); have n1_ := Aside0.mk (below_step (by repeat (first | (with_reducible first | exact HB.out | apply below_alloc | apply pw_below_drewN | apply below_drew1) | exact HB.out)) hb); have n2_ := Aside0.mk (hbox); have n3_ := Aside0.mk ((by rw [hg]; exact (below_size (by repeat (first | (with_reducible first | exact HB.out | apply below_alloc | apply pw_below_drewN | apply below_drew1) | exact HB.out))) : w.heap.size ≤ gb353)); have n4_ := Aside0.mk ((by rw [hg]; exact (below_size (by repeat (first | (with_reducible first | exact HB.out | apply below_alloc | apply pw_below_drewN | apply below_drew1) | exact HB.out))) : w.heap.size ≤ gb353)); clear HO_3; clear HB; have HO_3 := n0_; have HB := n1_; have BK353 := n2_; have GW353 := n3_; have GE353 := n4_; clear n0_ n1_ n2_ n3_ n4_; clear hb hbox hg; have hcz11_0 : w10.cell? ⟨gb353, 0, none⟩ = some (.string (⟨#[]⟩ : ByteArray)) := (blk_cell BK353.out 0).trans rfl; have hcz11_1 : w10.cell? ⟨gb353, 1, none⟩ = some (.string (⟨#[]⟩ : ByteArray)) := (blk_cell BK353.out 1).trans rfl; have hcz11_2 : w10.cell? ⟨gb353, 2, none⟩ = some (.int .i64 0) := (blk_cell BK353.out 2).trans rfl; have hcz11_3 : w10.cell? ⟨gb353, 3, none⟩ = some (.int .i64 0) := (blk_cell BK353.out 3).trans rfl; have hfz11_0 := blk_frozen BK353.out 0; have hfz11_1 := blk_frozen BK353.out 1; have hfz11_2 := blk_frozen BK353.out 2; have hfz11_3 := blk_frozen BK353.out 3) | ((with_reducible refine gate_builtin (b := .append) (xs := #[.tmp 22, .tmp 24]) rfl ?_); at_builtin; refine Kd.R_append k50 (w0 := w) w.heap.size rfl (.tmp 22) (.tmp 24) 38 50 (.agg #[(.string ⟨#[]⟩), (.string ⟨#[]⟩), (.int .i64 0), (.int .i64 0)]) 48 rfl Tryd.underlying38 info50 rfl (by decide) (by omega) u3 x3_2 (⟨(rd_T50 l0 x14_2).f0, (rd_T50 l0 x14_2).f1, (rd_T50 l0 x14_2).f2, (rd_T50 l0 x14_2).f3⟩ : S50) [.string ((rd_T50 l0 x14_2).f0), .string ((rd_T50 l0 x14_2).f1), .int .i64 ((rd_T50 l0 x14_2).f2), .int .i64 ((rd_T50 l0 x14_2).f3)] (fun k_ => k_ ≠ gb353) (fun _ => False) rfl (by first | (go_simp; done) | (go_simp; rfl)) ?aP (fun _ hk => hk.elim) ?aF ?aO ?aB ?aS ?aL ?_; (case aP => exact k50_mkM _ _ _ (⟨(rd_T50 l0 x14_2).f0, (rd_T50 l0 x14_2).f1, (rd_T50 l0 x14_2).f2, (rd_T50 l0 x14_2).f3⟩ : S50)); (case aB => exact (by repeat (first | (with_reducible first | exact HB.out | apply below_alloc | apply pw_below_drewN | apply below_drew1 | refine below_set ?_ GE353.out) | exact HB.out))); (case aF => exact (fun k_ hk => Kd.freshB (g := gb353) (o := .cells #[.string ((rd_T50 l0 x14_2).f0), .string ((rd_T50 l0 x14_2).f1), .int .i64 ((rd_T50 l0 x14_2).f2), .int .i64 ((rd_T50 l0 x14_2).f3)] 50 (0, 0)) (by (with_reducible repeat (first | refine blk_drewN ?_ _ | refine blk_drew ?_ | refine blk_alloc ?_ _)); refine blk_put (cs := #[.string ((rd_T50 l0 x14_2).f0), .string ((rd_T50 l0 x14_2).f1), .int .i64 ((rd_T50 l0 x14_2).f2), .int .i64 0]) ?_ 3 _ rfl; (with_reducible repeat (first | refine blk_drewN ?_ _ | refine blk_drew ?_ | refine blk_alloc ?_ _)); refine blk_put (cs := #[.string ((rd_T50 l0 x14_2).f0), .string ((rd_T50 l0 x14_2).f1), .int .i64 0, .int .i64 0]) ?_ 2 _ rfl; (with_reducible repeat (first | refine blk_drewN ?_ _ | refine blk_drew ?_ | refine blk_alloc ?_ _)); refine blk_put (cs := #[.string ((rd_T50 l0 x14_2).f0), .string (⟨#[]⟩ : ByteArray), .int .i64 0, .int .i64 0]) ?_ 1 _ rfl; (with_reducible repeat (first | refine blk_drewN ?_ _ | refine blk_drew ?_ | refine blk_alloc ?_ _)); refine blk_put (cs := #[.string (⟨#[]⟩ : ByteArray), .string (⟨#[]⟩ : ByteArray), .int .i64 0, .int .i64 0]) ?_ 0 _ rfl; (with_reducible repeat (first | refine blk_drewN ?_ _ | refine blk_drew ?_ | refine blk_alloc ?_ _)); exact BK353.out) k_ hk)); (case aO => exact (by (with_reducible repeat (first | apply Kd.R_alloc | apply Kd.R_drewN | apply Kd.R_drew)); exact Kd.R_mono (Kd.R_far (p := ⟨gb353, 3, none⟩) (Kd.R_far (p := ⟨gb353, 2, none⟩) (Kd.R_far (p := ⟨gb353, 1, none⟩) (Kd.R_far (p := ⟨gb353, 0, none⟩) (Kd.R_mono HO_3.out (fun k_ hk => (⟨hk, hk.2⟩ : _ ∧ k_ ≠ gb353))) (fun _ hk => hk.2) (.string ((rd_T50 l0 x14_2).f0))) (fun _ hk => hk.2) (.string ((rd_T50 l0 x14_2).f1))) (fun _ hk => hk.2) (.int .i64 ((rd_T50 l0 x14_2).f2))) (fun _ hk => hk.2) (.int .i64 ((rd_T50 l0 x14_2).f3))) (fun _ hk => hk.1.2))); (case aS => exact (below_size (by repeat (first | (with_reducible first | exact HB.out | apply below_alloc | apply pw_below_drewN | apply below_drew1 | refine below_set ?_ GE353.out) | exact HB.out)))); (case aL => have := LMc9.out; omega); intro v355 w12 ho hb hg hat; rw [← Ny354.out] at ho; have n0_ := Aside0.mk (blk_grown (g := gb353) (o := .cells #[.string ((rd_T50 l0 x14_2).f0), .string ((rd_T50 l0 x14_2).f1), .int .i64 ((rd_T50 l0 x14_2).f2), .int .i64 ((rd_T50 l0 x14_2).f3)] 50 (0, 0)) (by (with_reducible repeat (first | refine blk_drewN ?_ _ | refine blk_drew ?_ | refine blk_alloc ?_ _)); refine blk_put (cs := #[.string ((rd_T50 l0 x14_2).f0), .string ((rd_T50 l0 x14_2).f1), .int .i64 ((rd_T50 l0 x14_2).f2), .int .i64 0]) ?_ 3 _ rfl; (with_reducible repeat (first | refine blk_drewN ?_ _ | refine blk_drew ?_ | refine blk_alloc ?_ _)); refine blk_put (cs := #[.string ((rd_T50 l0 x14_2).f0), .string ((rd_T50 l0 x14_2).f1), .int .i64 0, .int .i64 0]) ?_ 2 _ rfl; (with_reducible repeat (first | refine blk_drewN ?_ _ | refine blk_drew ?_ | refine blk_alloc ?_ _)); refine blk_put (cs := #[.string ((rd_T50 l0 x14_2).f0), .string (⟨#[]⟩ : ByteArray), .int .i64 0, .int .i64 0]) ?_ 1 _ rfl; (with_reducible repeat (first | refine blk_drewN ?_ _ | refine blk_drew ?_ | refine blk_alloc ?_ _)); refine blk_put (cs := #[.string (⟨#[]⟩ : ByteArray), .string (⟨#[]⟩ : ByteArray), .int .i64 0, .int .i64 0]) ?_ 0 _ rfl; (with_reducible repeat (first | refine blk_drewN ?_ _ | refine blk_drew ?_ | refine blk_alloc ?_ _)); exact BK353.out) hg (Kd.R_away HO_3.out (fun _ hk => hk.2))); have n1_ := Aside0.mk (hb); have n2_ := Aside0.mk (ho); clear BK353; clear HB; clear HO_3; have BK353 := n0_; have HB := n1_; have HO356 := n2_; clear n0_ n1_ n2_; clear ho hb hg hat))
                      go_roundg k2
                      case measure => have := HK1.out; have := HK2.out; omega
                      case rel => exact ⟨(y354), (wrap64 (x14_2 + 1)), (by first | rfl | (simp; done) | (simp [*]; done)), H', ⟨by have := HK1.out; have := HK2.out; omega⟩, ⟨by (with_reducible repeat (first | apply Kd.R_alloc | apply Kd.R_drewN | apply Kd.R_drew)); exact Kd.R_mono HO356.out (fun _ hk => trivial)⟩, ⟨by repeat (first | (with_reducible first | exact HB.out | apply below_alloc | apply pw_below_drewN | apply below_drew1 | refine below_set ?_ GE353.out) | exact HB.out)⟩⟩
                    · rw [if_neg c9] at H
                      exact absurd H (by simp)
                  · rw [if_neg c8] at H
                    have c8b0 : (((rd_T50 l0 x14_2).f2) == x4_1) = false := beq_eq_false_iff_ne.mpr c8
                    have c8b1 : (((rd_T50 l0 x14_2).f2) != x4_1) = true := bne_iff_ne.mpr c8
                    have H' := Aside0.mk H
                    clear H
                    have p352 : 0 ≤ (x14_2 : Int) := of_decide_eq_true (by first | (with_reducible assumption) | assumption)
                    have q352 : x14_2 < (l0.length : Int) := of_decide_eq_true (by first | (with_reducible assumption) | assumption)
                    obtain ⟨ad352, e352, hx352_0, hx352_1, hx352_2, hx352_3⟩ := at_T50 HR0.out x14_2 p352 q352
                    cases e352
                    replace hx352_0 := (HB.out.cell (World.block_lt_of_cell? w _ hx352_0)).trans hx352_0
                    replace hx352_1 := (HB.out.cell (World.block_lt_of_cell? w _ hx352_1)).trans hx352_1
                    replace hx352_2 := (HB.out.cell (World.block_lt_of_cell? w _ hx352_2)).trans hx352_2
                    replace hx352_3 := (HB.out.cell (World.block_lt_of_cell? w _ hx352_3)).trans hx352_3
                    replace p352 := eq_true p352
                    replace q352 := eq_true q352
                    go_wp2_with (first | ((with_reducible refine gate_dst (N := 6) rfl ?_); refine box_event ?hg (N := 6) ?hd (cs := #[.string (⟨#[]⟩ : ByteArray), .string (⟨#[]⟩ : ByteArray), .int .i64 0, .int .i64 0]) (t := 50) ?hr ?_; (case hd => rfl); (case hg => rfl); (case hr => first | (go_simp; done) | (go_simp; rfl)); intro gb353 hg w13 hbox hb; have n0_ := Aside0.mk (Kd.R_below (Kd.R_elderB (by (with_reducible repeat (first | apply Kd.R_alloc | apply Kd.R_drewN | apply Kd.R_drew)); exact HO_3.out) gb353 (Nat.le_of_eq hg.symm)) hb); have n1_ := Aside0.mk (below_step (by repeat (first | (with_reducible first | exact HB.out | apply below_alloc | apply pw_below_drewN | apply below_drew1) | exact HB.out)) hb); have n2_ := Aside0.mk (hbox); have n3_ := Aside0.mk ((by rw [hg]; exact (below_size (by repeat (first | (with_reducible first | exact HB.out | apply below_alloc | apply pw_below_drewN | apply below_drew1) | exact HB.out))) : w.heap.size ≤ gb353)); have n4_ := Aside0.mk ((by rw [hg]; exact (below_size (by repeat (first | (with_reducible first | exact HB.out | apply below_alloc | apply pw_below_drewN | apply below_drew1) | exact HB.out))) : w.heap.size ≤ gb353)); clear HO_3; clear HB; have HO_3 := n0_; have HB := n1_; have BK353 := n2_; have GW353 := n3_; have GE353 := n4_; clear n0_ n1_ n2_ n3_ n4_; clear hb hbox hg; have hcz14_0 : w13.cell? ⟨gb353, 0, none⟩ = some (.string (⟨#[]⟩ : ByteArray)) := (blk_cell BK353.out 0).trans rfl; have hcz14_1 : w13.cell? ⟨gb353, 1, none⟩ = some (.string (⟨#[]⟩ : ByteArray)) := (blk_cell BK353.out 1).trans rfl; have hcz14_2 : w13.cell? ⟨gb353, 2, none⟩ = some (.int .i64 0) := (blk_cell BK353.out 2).trans rfl; have hcz14_3 : w13.cell? ⟨gb353, 3, none⟩ = some (.int .i64 0) := (blk_cell BK353.out 3).trans rfl; have hfz14_0 := blk_frozen BK353.out 0; have hfz14_1 := blk_frozen BK353.out 1; have hfz14_2 := blk_frozen BK353.out 2; have hfz14_3 := blk_frozen BK353.out 3))
                    go_roundg k2
                    case measure => have := HK1.out; have := HK2.out; omega
                    case rel => exact ⟨(x3_2), (wrap64 (x14_2 + 1)), (by first | rfl | (simp; done) | (simp [*]; done)), H', ⟨by have := HK1.out; have := HK2.out; omega⟩, ⟨by (with_reducible repeat (first | apply Kd.R_alloc | apply Kd.R_drewN | apply Kd.R_drew)); exact Kd.R_mono (Kd.R_far (p := ⟨gb353, 3, none⟩) (Kd.R_far (p := ⟨gb353, 2, none⟩) (Kd.R_far (p := ⟨gb353, 1, none⟩) (Kd.R_far (p := ⟨gb353, 0, none⟩) (Kd.R_mono HO_3.out (fun k_ hk => (⟨hk, hk.2⟩ : _ ∧ k_ ≠ gb353))) (fun _ hk => hk.2) (.string ((rd_T50 l0 x14_2).f0))) (fun _ hk => hk.2) (.string ((rd_T50 l0 x14_2).f1))) (fun _ hk => hk.2) (.int .i64 ((rd_T50 l0 x14_2).f2))) (fun _ hk => hk.2) (.int .i64 ((rd_T50 l0 x14_2).f3))) (fun _ hk => trivial)⟩, ⟨by repeat (first | (with_reducible first | exact HB.out | apply below_alloc | apply pw_below_drewN | apply below_drew1 | refine below_set ?_ GE353.out) | exact HB.out)⟩⟩
                · rw [if_neg c7] at H
                  exact absurd H (by simp)
              · rw [if_neg c6] at H
                exact absurd H (by simp)
            · rw [if_neg c5] at H
              have c5b0 : decide (x14_2 < (l0.length : Int)) = false := decide_eq_false c5
              clear c5
              have H' := Aside0.mk H
              clear H
              go_wp2
              go_roundg k2
              case measure => have := HK1.out; have := HK2.out; omega
              case rel => exact ⟨(x3_2), (wrap64 (x4_1 + 1)), (by first | rfl | (simp; done) | (simp [*]; done)), H', ⟨by have := HK1.out; have := HK2.out; omega⟩, ⟨by (with_reducible repeat (first | apply Kd.R_alloc | apply Kd.R_drewN | apply Kd.R_drew)); exact HO_3.out⟩, ⟨by repeat (first | (with_reducible first | exact HB.out | apply below_alloc | apply pw_below_drewN | apply below_drew1) | exact HB.out)⟩⟩
      · rw [if_neg c4] at H
        have c4b0 : decide (x4_1 ≤ 200) = false := decide_eq_false c4
        clear c4
        obtain rfl := Option.some.inj H
        go_wp2
        go_ret
        exact ⟨_, by first | rfl | (simp [errW_none, errW_some] <;> rfl) | (simp [*, errW_none, errW_some] <;> rfl), by (with_reducible repeat (first | apply Kd.R_alloc | apply Kd.R_drewN | apply Kd.R_drew)); exact HO_3.out, by repeat (first | (with_reducible first | exact HB.out | apply below_alloc | apply pw_below_drewN | apply below_drew1) | exact HB.out)⟩

end Go.Proofs.YtfkemfkleceeiaaDoor.P
