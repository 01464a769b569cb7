-- written by a program of this session (wip/tools), out of the translation
import Derived.Test.YtgeimklpcfepaaaDoorP0
namespace Go.Proofs.YtgeimklpcfepaaaDoor.P
open Go.RowKit Go.Proofs.YtgeimklpcfepaaaDoorW.PrintWords Go.Proofs.YtgeimklpcfepaaaDoorW.PrintLast Go.Proofs.YtgeimklpcfepaaaDoorW.PrintMore
attribute [local go_sem] max2_int min2_int max_two min_two max_three min_three max_four min_four   -- for this text's walks alone
set_option linter.unusedVariables false
set_option linter.unusedSimpArgs false

/-! ### spec_SameFound: function 10 -/
mutual
def spec_SameFound.l0 : Nat → List (S33) → List (S33) → Int → Option (Bool)
  | 0, _, _, _ => none
  | k + 1, x0, x1, x5 => if x5 < (x0.length : Int) then (if 0 ≤ x5 then (if x5 < (x1.length : Int) then (if ((rd_T33 x0 x5).f0).toList = ((rd_T33 x1 x5).f0).toList then (if ((rd_T33 x0 x5).f1) = ((rd_T33 x1 x5).f1) then (if ((rd_T33 x0 x5).f3) = ((rd_T33 x1 x5).f3) then (spec_SameFound.j1 k x0 x1 x5 ((((rd_T33 x0 x5).f2).length : Int) != (((rd_T33 x1 x5).f2).length : Int))) else (spec_SameFound.j1 k x0 x1 x5 true)) else (spec_SameFound.j1 k x0 x1 x5 true)) else (spec_SameFound.j1 k x0 x1 x5 true)) else (none)) else (none)) else (some true)
def spec_SameFound.j1 : Nat → List (S33) → List (S33) → Int → Bool → Option (Bool)
  | 0, _, _, _, _ => none
  | k + 1, x0, x1, x5, x69 => if x69 = true then (some false) else (spec_SameFound.l1 k x0 x1 x5 0)
def spec_SameFound.l1 : Nat → List (S33) → List (S33) → Int → Int → Option (Bool)
  | 0, _, _, _, _ => none
  | k + 1, x0, x1, x5, x6 => if 0 ≤ x5 then (if x5 < (x0.length : Int) then (if x6 < (((rd_T33 x0 x5).f2).length : Int) then (if 0 ≤ x6 then (if x5 < (x1.length : Int) then (if x6 < (((rd_T33 x1 x5).f2).length : Int) then (if (rd ((rd_T33 x0 x5).f2) x6) = (rd ((rd_T33 x1 x5).f2) x6) then (spec_SameFound.l1 k x0 x1 x5 (wrap64 (x6 + 1))) else (some false)) else (none)) else (none)) else (none)) else (spec_SameFound.l0 k x0 x1 (wrap64 (x5 + 1)))) else (none)) else (none)
end
def spec_SameFound.f (k : Nat) (l0 : List (S33)) (l1 : List (S33)) : Option (Bool) := if (l0.length : Int) = (l1.length : Int) then (spec_SameFound.l0 k l0 l1 0) else (some false)
theorem spec_SameFound.mono_l : ∀ k, (∀ y0 y1 y2, LeO (spec_SameFound.l0 k y0 y1 y2) (spec_SameFound.l0 (k + 1) y0 y1 y2)) ∧ (∀ y0 y1 y2 y3, LeO (spec_SameFound.j1 k y0 y1 y2 y3) (spec_SameFound.j1 (k + 1) y0 y1 y2 y3)) ∧ (∀ y0 y1 y2 y3, LeO (spec_SameFound.l1 k y0 y1 y2 y3) (spec_SameFound.l1 (k + 1) y0 y1 y2 y3))
  | 0 => ⟨fun _ _ _ r h => by simp [spec_SameFound.l0] at h, fun _ _ _ _ r h => by simp [spec_SameFound.j1] at h, fun _ _ _ _ r h => by simp [spec_SameFound.l1] at h⟩
  | k + 1 => by
    obtain ⟨ih0, ih1, ih2⟩ := spec_SameFound.mono_l k
    refine ⟨?_, ?_, ?_⟩
    · intro y0 y1 y2
      unfold spec_SameFound.l0
      repeat' first
      | (with_reducible exact ih0 _ _ _)
      | (with_reducible exact ih1 _ _ _ _)
      | (with_reducible exact ih2 _ _ _ _)
      | (with_reducible exact LeO.refl _)
      | (with_reducible exact LeO.none _)
      | (with_reducible refine LeO.ite ?_ ?_)
      | (with_reducible refine LeO.bind ?_ (fun _ => ?_))
      | exact ih0 _ _ _
      | exact ih1 _ _ _ _
      | exact ih2 _ _ _ _
      | exact LeO.none _
      | refine LeO.ite ?_ ?_
      | refine LeO.bind ?_ (fun _ => ?_)
    · intro y0 y1 y2 y3
      unfold spec_SameFound.j1
      repeat' first
      | (with_reducible exact ih0 _ _ _)
      | (with_reducible exact ih1 _ _ _ _)
      | (with_reducible exact ih2 _ _ _ _)
      | (with_reducible exact LeO.refl _)
      | (with_reducible exact LeO.none _)
      | (with_reducible refine LeO.ite ?_ ?_)
      | (with_reducible refine LeO.bind ?_ (fun _ => ?_))
      | exact ih0 _ _ _
      | exact ih1 _ _ _ _
      | exact ih2 _ _ _ _
      | exact LeO.none _
      | refine LeO.ite ?_ ?_
      | refine LeO.bind ?_ (fun _ => ?_)
    · intro y0 y1 y2 y3
      unfold spec_SameFound.l1
      repeat' first
      | (with_reducible exact ih0 _ _ _)
      | (with_reducible exact ih1 _ _ _ _)
      | (with_reducible exact ih2 _ _ _ _)
      | (with_reducible exact LeO.refl _)
      | (with_reducible exact LeO.none _)
      | (with_reducible refine LeO.ite ?_ ?_)
      | (with_reducible refine LeO.bind ?_ (fun _ => ?_))
      | exact ih0 _ _ _
      | exact ih1 _ _ _ _
      | exact ih2 _ _ _ _
      | exact LeO.none _
      | refine LeO.ite ?_ ?_
      | refine LeO.bind ?_ (fun _ => ?_)
theorem spec_SameFound.mono : ∀ a0 a1 k, LeO (spec_SameFound.f k a0 a1) (spec_SameFound.f (k + 1) a0 a1) := by
  intro a0 a1 k
  obtain ⟨ih0, ih1, ih2⟩ := spec_SameFound.mono_l k
  unfold spec_SameFound.f
  repeat' first
      | (with_reducible exact ih0 _ _ _)
      | (with_reducible exact ih1 _ _ _ _)
      | (with_reducible exact ih2 _ _ _ _)
      | (with_reducible exact LeO.refl _)
      | (with_reducible exact LeO.none _)
      | (with_reducible refine LeO.ite ?_ ?_)
      | (with_reducible refine LeO.bind ?_ (fun _ => ?_))
      | exact ih0 _ _ _
      | exact ih1 _ _ _ _
      | exact ih2 _ _ _ _
      | exact LeO.none _
      | refine LeO.ite ?_ ?_
      | refine LeO.bind ?_ (fun _ => ?_)
set_option maxHeartbeats 8000000 in
set_option maxRecDepth 100000 in
theorem spec_SameFound.calls (k : Nat) (A0 : Option Addr) (c0 : Nat) (l0 : List (S33)) (A1 : Option Addr) (c1 : Nat) (l1 : List (S33)) (r : Bool) (w : World) (hr0 : Kd.C k33 w A0 l0.length l0) (hc0 : l0.length ≤ c0) (hr1 : Kd.C k33 w A1 l1.length l1) (hc1 : l1.length ≤ c1) (h : spec_SameFound.f k l0 l1 = some r) :
    Calls Tryd.prog 10 #[.slice A0 l0.length c0, .slice A1 l1.length c1] w fun e w' => e = .returned (.bool r) ∧ Drawn0 w w' := by
  have HR0 := Aside0.mk hr0
  have HC0 := Aside0.mk hc0
  clear hr0 hc0
  have HR1 := Aside0.mk hr1
  have HC1 := Aside0.mk hc1
  clear hr1 hc1
  have H : (if (l0.length : Int) = (l1.length : Int) then (spec_SameFound.l0 k l0 l1 0) else (some false)) = some r := h
  clear h
  by_cases c3 : (l0.length : Int) = (l1.length : Int)
  · rw [if_pos c3] at H
    have c3b0 : ((l0.length : Int) == (l1.length : Int)) = true := beq_iff_eq.mpr c3
    have c3b1 : ((l0.length : Int) != (l1.length : Int)) = false := bne_eq_false_iff_eq.mpr c3
    have c3b2 : (l0.length == l1.length) = true := by first | simpa using c3 | (simp at c3 ⊢; omega)
    clear c3
    have H' := Aside0.mk H
    clear H
    go_enter Tryd.func10, Tryd.ntmps10
    go_wp2
    repeat (go_quiet (fail); try go_wp2)
    go_loopg [5] k (fun kq v5 w' => ∃ (x5_1 : Int), v5 = .int .i64 x5_1 ∧ Aside0 (spec_SameFound.l0 kq l0 l1 x5_1 = some r) ∧ Aside0 (kq ≤ k) ∧ Drawn0 w w')
    case atStart => exact ⟨(0), (by first | rfl | (simp; done) | (simp [*]; done)), H', ⟨Nat.le_refl _⟩, by repeat (first | exact Drawn0.refl _ | apply Drawn0.step)⟩
    case round =>
      clear H'
      try clear c1
      try clear p2
      try clear c3
      try clear c3b0
      try clear c3b1
      try clear c3b2
      obtain ⟨x5_1, rfl, HA, HK1, ⟨m1, rfl⟩⟩ := hrel
      cases gk with
      | zero => exact absurd HA.out (by simp [spec_SameFound.l0])
      | succ k1 =>
        have H := HA.out
        clear HA
        simp only [spec_SameFound.l0] at H
        by_cases c4 : x5_1 < (l0.length : Int)
        · rw [if_pos c4] at H
          have c4b0 : decide (x5_1 < (l0.length : Int)) = true := decide_eq_true c4
          clear c4
          have HC5 := Aside0.mk H
          clear H
          go_upto_region 6 with (fail)
          repeat (go_quiet (fail); go_upto_region 6 with (fail))
          go_cut [69] (fun v69 wc => ∃ (kq : Nat) (x69_4 : Bool), v69 = .bool x69_4 ∧ Aside0 (spec_SameFound.j1 kq l0 l1 x5_1 x69_4 = some r) ∧ Aside0 (kq ≤ k1) ∧ Drawn0 w wc)
          case first =>
            have H := HC5.out
            clear HC5
            by_cases c6 : 0 ≤ x5_1
            · rw [if_pos c6] at H
              have c6b0 : decide (0 ≤ x5_1) = true := decide_eq_true c6
              clear c6
              (first | rw [c6b0] | (simp only [i64_w, i32_w]; rw [c6b0]) | skip)
              by_cases c7 : x5_1 < (l1.length : Int)
              · rw [if_pos c7] at H
                have c7b0 : decide (x5_1 < (l1.length : Int)) = true := decide_eq_true c7
                clear c7
                by_cases c8 : ((rd_T33 l0 x5_1).f0).toList = ((rd_T33 l1 x5_1).f0).toList
                · rw [if_pos c8] at H
                  have c8b0 : (((rd_T33 l0 x5_1).f0).toList == ((rd_T33 l1 x5_1).f0).toList) = true := beq_iff_eq.mpr c8
                  have c8b1 : (((rd_T33 l0 x5_1).f0).toList != ((rd_T33 l1 x5_1).f0).toList) = false := bne_eq_false_iff_eq.mpr c8
                  clear c8
                  by_cases c9 : ((rd_T33 l0 x5_1).f1) = ((rd_T33 l1 x5_1).f1)
                  · rw [if_pos c9] at H
                    have c9b0 : (((rd_T33 l0 x5_1).f1) == ((rd_T33 l1 x5_1).f1)) = true := beq_iff_eq.mpr c9
                    have c9b1 : (((rd_T33 l0 x5_1).f1) != ((rd_T33 l1 x5_1).f1)) = false := bne_eq_false_iff_eq.mpr c9
                    clear c9
                    by_cases c10 : ((rd_T33 l0 x5_1).f3) = ((rd_T33 l1 x5_1).f3)
                    · rw [if_pos c10] at H
                      have c10b0 : (((rd_T33 l0 x5_1).f3) == ((rd_T33 l1 x5_1).f3)) = true := beq_iff_eq.mpr c10
                      have c10b1 : (((rd_T33 l0 x5_1).f3) != ((rd_T33 l1 x5_1).f3)) = false := bne_eq_false_iff_eq.mpr c10
                      clear c10
                      have H' := Aside0.mk H
                      clear H
                      have p108 : 0 ≤ (x5_1 : Int) := of_decide_eq_true (by first | (with_reducible assumption) | assumption)
                      have q108 : x5_1 < (l0.length : Int) := of_decide_eq_true (by first | (with_reducible assumption) | assumption)
                      obtain ⟨ad108, A108_2, c108_2, e108, hx108_0, hx108_1, hx108_2, hx108_3, hl108_2, hi108_2⟩ := at_T33 HR0.out x5_1 p108 q108
                      cases e108
                      have HR108_2 := Aside0.mk hi108_2
                      have HC108_2 := Aside0.mk hl108_2
                      clear hi108_2 hl108_2
                      replace p108 := eq_true p108
                      replace q108 := eq_true q108
                      have p109 : 0 ≤ (x5_1 : Int) := of_decide_eq_true (by first | (with_reducible assumption) | assumption)
                      have q109 : x5_1 < (l1.length : Int) := of_decide_eq_true (by first | (with_reducible assumption) | assumption)
                      obtain ⟨ad109, A109_2, c109_2, e109, hx109_0, hx109_1, hx109_2, hx109_3, hl109_2, hi109_2⟩ := at_T33 HR1.out x5_1 p109 q109
                      cases e109
                      have HR109_2 := Aside0.mk hi109_2
                      have HC109_2 := Aside0.mk hl109_2
                      clear hi109_2 hl109_2
                      replace p109 := eq_true p109
                      replace q109 := eq_true q109
                      have p110 : 0 ≤ (x5_1 : Int) := of_decide_eq_true (by first | (with_reducible assumption) | assumption)
                      have q110 : x5_1 < (l0.length : Int) := of_decide_eq_true (by first | (with_reducible assumption) | assumption)
                      obtain ⟨ad110, A110_2, c110_2, e110, hx110_0, hx110_1, hx110_2, hx110_3, hl110_2, hi110_2⟩ := at_T33 HR0.out x5_1 p110 q110
                      obtain rfl : ad108 = ad110 := (by injection e110)
                      have HR110_2 := Aside0.mk hi110_2
                      have HC110_2 := Aside0.mk hl110_2
                      clear hi110_2 hl110_2
                      replace p110 := eq_true p110
                      replace q110 := eq_true q110
                      have ea_ := Option.some.inj (hx108_2.symm.trans hx110_2)
                      injection ea_ with ea_ en_ ec_
                      subst ea_
                      subst ec_
                      clear en_
                      have p111 : 0 ≤ (x5_1 : Int) := of_decide_eq_true (by first | (with_reducible assumption) | assumption)
                      have q111 : x5_1 < (l1.length : Int) := of_decide_eq_true (by first | (with_reducible assumption) | assumption)
                      obtain ⟨ad111, A111_2, c111_2, e111, hx111_0, hx111_1, hx111_2, hx111_3, hl111_2, hi111_2⟩ := at_T33 HR1.out x5_1 p111 q111
                      obtain rfl : ad109 = ad111 := (by injection e111)
                      have HR111_2 := Aside0.mk hi111_2
                      have HC111_2 := Aside0.mk hl111_2
                      clear hi111_2 hl111_2
                      replace p111 := eq_true p111
                      replace q111 := eq_true q111
                      have ea_ := Option.some.inj (hx109_2.symm.trans hx111_2)
                      injection ea_ with ea_ en_ ec_
                      subst ea_
                      subst ec_
                      clear en_
                      have p112 : 0 ≤ (x5_1 : Int) := of_decide_eq_true (by first | (with_reducible assumption) | assumption)
                      have q112 : x5_1 < (l0.length : Int) := of_decide_eq_true (by first | (with_reducible assumption) | assumption)
                      obtain ⟨ad112, A112_2, c112_2, e112, hx112_0, hx112_1, hx112_2, hx112_3, hl112_2, hi112_2⟩ := at_T33 HR0.out x5_1 p112 q112
                      obtain rfl : ad108 = ad112 := (by injection e112)
                      have HR112_2 := Aside0.mk hi112_2
                      have HC112_2 := Aside0.mk hl112_2
                      clear hi112_2 hl112_2
                      replace p112 := eq_true p112
                      replace q112 := eq_true q112
                      have ea_ := Option.some.inj (hx108_2.symm.trans hx112_2)
                      injection ea_ with ea_ en_ ec_
                      subst ea_
                      subst ec_
                      clear en_
                      have p113 : 0 ≤ (x5_1 : Int) := of_decide_eq_true (by first | (with_reducible assumption) | assumption)
                      have q113 : x5_1 < (l1.length : Int) := of_decide_eq_true (by first | (with_reducible assumption) | assumption)
                      obtain ⟨ad113, A113_2, c113_2, e113, hx113_0, hx113_1, hx113_2, hx113_3, hl113_2, hi113_2⟩ := at_T33 HR1.out x5_1 p113 q113
                      obtain rfl : ad109 = ad113 := (by injection e113)
                      have HR113_2 := Aside0.mk hi113_2
                      have HC113_2 := Aside0.mk hl113_2
                      clear hi113_2 hl113_2
                      replace p113 := eq_true p113
                      replace q113 := eq_true q113
                      have ea_ := Option.some.inj (hx109_2.symm.trans hx113_2)
                      injection ea_ with ea_ en_ ec_
                      subst ea_
                      subst ec_
                      clear en_
                      have p114 : 0 ≤ (x5_1 : Int) := of_decide_eq_true (by first | (with_reducible assumption) | assumption)
                      have q114 : x5_1 < (l0.length : Int) := of_decide_eq_true (by first | (with_reducible assumption) | assumption)
                      obtain ⟨ad114, A114_2, c114_2, e114, hx114_0, hx114_1, hx114_2, hx114_3, hl114_2, hi114_2⟩ := at_T33 HR0.out x5_1 p114 q114
                      obtain rfl : ad108 = ad114 := (by injection e114)
                      have HR114_2 := Aside0.mk hi114_2
                      have HC114_2 := Aside0.mk hl114_2
                      clear hi114_2 hl114_2
                      replace p114 := eq_true p114
                      replace q114 := eq_true q114
                      have ea_ := Option.some.inj (hx108_2.symm.trans hx114_2)
                      injection ea_ with ea_ en_ ec_
                      subst ea_
                      subst ec_
                      clear en_
                      have p115 : 0 ≤ (x5_1 : Int) := of_decide_eq_true (by first | (with_reducible assumption) | assumption)
                      have q115 : x5_1 < (l1.length : Int) := of_decide_eq_true (by first | (with_reducible assumption) | assumption)
                      obtain ⟨ad115, A115_2, c115_2, e115, hx115_0, hx115_1, hx115_2, hx115_3, hl115_2, hi115_2⟩ := at_T33 HR1.out x5_1 p115 q115
                      obtain rfl : ad109 = ad115 := (by injection e115)
                      have HR115_2 := Aside0.mk hi115_2
                      have HC115_2 := Aside0.mk hl115_2
                      clear hi115_2 hl115_2
                      replace p115 := eq_true p115
                      replace q115 := eq_true q115
                      have ea_ := Option.some.inj (hx109_2.symm.trans hx115_2)
                      injection ea_ with ea_ en_ ec_
                      subst ea_
                      subst ec_
                      clear en_
                      go_wp2
                      repeat (go_quiet (fail); try go_wp2)
                      go_meet
                      case rel => exact ⟨_, (((((rd_T33 l0 x5_1).f2).length : Int) != (((rd_T33 l1 x5_1).f2).length : Int))), (by first | rfl | (simp; done) | (simp [*]; done)), H', ⟨by have := HK1.out; first | omega | exact Nat.le_refl _⟩, by repeat (first | exact Drawn0.refl _ | apply Drawn0.step)⟩
                    · rw [if_neg c10] at H
                      have c10b0 : (((rd_T33 l0 x5_1).f3) == ((rd_T33 l1 x5_1).f3)) = false := beq_eq_false_iff_ne.mpr c10
                      have c10b1 : (((rd_T33 l0 x5_1).f3) != ((rd_T33 l1 x5_1).f3)) = true := bne_iff_ne.mpr c10
                      have H' := Aside0.mk H
                      clear H
                      have p108 : 0 ≤ (x5_1 : Int) := of_decide_eq_true (by first | (with_reducible assumption) | assumption)
                      have q108 : x5_1 < (l0.length : Int) := of_decide_eq_true (by first | (with_reducible assumption) | assumption)
                      obtain ⟨ad108, A108_2, c108_2, e108, hx108_0, hx108_1, hx108_2, hx108_3, hl108_2, hi108_2⟩ := at_T33 HR0.out x5_1 p108 q108
                      cases e108
                      have HR108_2 := Aside0.mk hi108_2
                      have HC108_2 := Aside0.mk hl108_2
                      clear hi108_2 hl108_2
                      replace p108 := eq_true p108
                      replace q108 := eq_true q108
                      have p109 : 0 ≤ (x5_1 : Int) := of_decide_eq_true (by first | (with_reducible assumption) | assumption)
                      have q109 : x5_1 < (l1.length : Int) := of_decide_eq_true (by first | (with_reducible assumption) | assumption)
                      obtain ⟨ad109, A109_2, c109_2, e109, hx109_0, hx109_1, hx109_2, hx109_3, hl109_2, hi109_2⟩ := at_T33 HR1.out x5_1 p109 q109
                      cases e109
                      have HR109_2 := Aside0.mk hi109_2
                      have HC109_2 := Aside0.mk hl109_2
                      clear hi109_2 hl109_2
                      replace p109 := eq_true p109
                      replace q109 := eq_true q109
                      have p110 : 0 ≤ (x5_1 : Int) := of_decide_eq_true (by first | (with_reducible assumption) | assumption)
                      have q110 : x5_1 < (l0.length : Int) := of_decide_eq_true (by first | (with_reducible assumption) | assumption)
                      obtain ⟨ad110, A110_2, c110_2, e110, hx110_0, hx110_1, hx110_2, hx110_3, hl110_2, hi110_2⟩ := at_T33 HR0.out x5_1 p110 q110
                      obtain rfl : ad108 = ad110 := (by injection e110)
                      have HR110_2 := Aside0.mk hi110_2
                      have HC110_2 := Aside0.mk hl110_2
                      clear hi110_2 hl110_2
                      replace p110 := eq_true p110
                      replace q110 := eq_true q110
                      have ea_ := Option.some.inj (hx108_2.symm.trans hx110_2)
                      injection ea_ with ea_ en_ ec_
                      subst ea_
                      subst ec_
                      clear en_
                      have p111 : 0 ≤ (x5_1 : Int) := of_decide_eq_true (by first | (with_reducible assumption) | assumption)
                      have q111 : x5_1 < (l1.length : Int) := of_decide_eq_true (by first | (with_reducible assumption) | assumption)
                      obtain ⟨ad111, A111_2, c111_2, e111, hx111_0, hx111_1, hx111_2, hx111_3, hl111_2, hi111_2⟩ := at_T33 HR1.out x5_1 p111 q111
                      obtain rfl : ad109 = ad111 := (by injection e111)
                      have HR111_2 := Aside0.mk hi111_2
                      have HC111_2 := Aside0.mk hl111_2
                      clear hi111_2 hl111_2
                      replace p111 := eq_true p111
                      replace q111 := eq_true q111
                      have ea_ := Option.some.inj (hx109_2.symm.trans hx111_2)
                      injection ea_ with ea_ en_ ec_
                      subst ea_
                      subst ec_
                      clear en_
                      have p112 : 0 ≤ (x5_1 : Int) := of_decide_eq_true (by first | (with_reducible assumption) | assumption)
                      have q112 : x5_1 < (l0.length : Int) := of_decide_eq_true (by first | (with_reducible assumption) | assumption)
                      obtain ⟨ad112, A112_2, c112_2, e112, hx112_0, hx112_1, hx112_2, hx112_3, hl112_2, hi112_2⟩ := at_T33 HR0.out x5_1 p112 q112
                      obtain rfl : ad108 = ad112 := (by injection e112)
                      have HR112_2 := Aside0.mk hi112_2
                      have HC112_2 := Aside0.mk hl112_2
                      clear hi112_2 hl112_2
                      replace p112 := eq_true p112
                      replace q112 := eq_true q112
                      have ea_ := Option.some.inj (hx108_2.symm.trans hx112_2)
                      injection ea_ with ea_ en_ ec_
                      subst ea_
                      subst ec_
                      clear en_
                      have p113 : 0 ≤ (x5_1 : Int) := of_decide_eq_true (by first | (with_reducible assumption) | assumption)
                      have q113 : x5_1 < (l1.length : Int) := of_decide_eq_true (by first | (with_reducible assumption) | assumption)
                      obtain ⟨ad113, A113_2, c113_2, e113, hx113_0, hx113_1, hx113_2, hx113_3, hl113_2, hi113_2⟩ := at_T33 HR1.out x5_1 p113 q113
                      obtain rfl : ad109 = ad113 := (by injection e113)
                      have HR113_2 := Aside0.mk hi113_2
                      have HC113_2 := Aside0.mk hl113_2
                      clear hi113_2 hl113_2
                      replace p113 := eq_true p113
                      replace q113 := eq_true q113
                      have ea_ := Option.some.inj (hx109_2.symm.trans hx113_2)
                      injection ea_ with ea_ en_ ec_
                      subst ea_
                      subst ec_
                      clear en_
                      go_wp2
                      repeat (go_quiet (fail); try go_wp2)
                      go_meet
                      case rel => exact ⟨_, (true), (by first | rfl | (simp; done) | (simp [*]; done)), H', ⟨by have := HK1.out; first | omega | exact Nat.le_refl _⟩, by repeat (first | exact Drawn0.refl _ | apply Drawn0.step)⟩
                  · rw [if_neg c9] at H
                    have c9b0 : (((rd_T33 l0 x5_1).f1) == ((rd_T33 l1 x5_1).f1)) = false := beq_eq_false_iff_ne.mpr c9
                    have c9b1 : (((rd_T33 l0 x5_1).f1) != ((rd_T33 l1 x5_1).f1)) = true := bne_iff_ne.mpr c9
                    have H' := Aside0.mk H
                    clear H
                    have p108 : 0 ≤ (x5_1 : Int) := of_decide_eq_true (by first | (with_reducible assumption) | assumption)
                    have q108 : x5_1 < (l0.length : Int) := of_decide_eq_true (by first | (with_reducible assumption) | assumption)
                    obtain ⟨ad108, A108_2, c108_2, e108, hx108_0, hx108_1, hx108_2, hx108_3, hl108_2, hi108_2⟩ := at_T33 HR0.out x5_1 p108 q108
                    cases e108
                    have HR108_2 := Aside0.mk hi108_2
                    have HC108_2 := Aside0.mk hl108_2
                    clear hi108_2 hl108_2
                    replace p108 := eq_true p108
                    replace q108 := eq_true q108
                    have p109 : 0 ≤ (x5_1 : Int) := of_decide_eq_true (by first | (with_reducible assumption) | assumption)
                    have q109 : x5_1 < (l1.length : Int) := of_decide_eq_true (by first | (with_reducible assumption) | assumption)
                    obtain ⟨ad109, A109_2, c109_2, e109, hx109_0, hx109_1, hx109_2, hx109_3, hl109_2, hi109_2⟩ := at_T33 HR1.out x5_1 p109 q109
                    cases e109
                    have HR109_2 := Aside0.mk hi109_2
                    have HC109_2 := Aside0.mk hl109_2
                    clear hi109_2 hl109_2
                    replace p109 := eq_true p109
                    replace q109 := eq_true q109
                    have p110 : 0 ≤ (x5_1 : Int) := of_decide_eq_true (by first | (with_reducible assumption) | assumption)
                    have q110 : x5_1 < (l0.length : Int) := of_decide_eq_true (by first | (with_reducible assumption) | assumption)
                    obtain ⟨ad110, A110_2, c110_2, e110, hx110_0, hx110_1, hx110_2, hx110_3, hl110_2, hi110_2⟩ := at_T33 HR0.out x5_1 p110 q110
                    obtain rfl : ad108 = ad110 := (by injection e110)
                    have HR110_2 := Aside0.mk hi110_2
                    have HC110_2 := Aside0.mk hl110_2
                    clear hi110_2 hl110_2
                    replace p110 := eq_true p110
                    replace q110 := eq_true q110
                    have ea_ := Option.some.inj (hx108_2.symm.trans hx110_2)
                    injection ea_ with ea_ en_ ec_
                    subst ea_
                    subst ec_
                    clear en_
                    have p111 : 0 ≤ (x5_1 : Int) := of_decide_eq_true (by first | (with_reducible assumption) | assumption)
                    have q111 : x5_1 < (l1.length : Int) := of_decide_eq_true (by first | (with_reducible assumption) | assumption)
                    obtain ⟨ad111, A111_2, c111_2, e111, hx111_0, hx111_1, hx111_2, hx111_3, hl111_2, hi111_2⟩ := at_T33 HR1.out x5_1 p111 q111
                    obtain rfl : ad109 = ad111 := (by injection e111)
                    have HR111_2 := Aside0.mk hi111_2
                    have HC111_2 := Aside0.mk hl111_2
                    clear hi111_2 hl111_2
                    replace p111 := eq_true p111
                    replace q111 := eq_true q111
                    have ea_ := Option.some.inj (hx109_2.symm.trans hx111_2)
                    injection ea_ with ea_ en_ ec_
                    subst ea_
                    subst ec_
                    clear en_
                    go_wp2
                    repeat (go_quiet (fail); try go_wp2)
                    go_meet
                    case rel => exact ⟨_, (true), (by first | rfl | (simp; done) | (simp [*]; done)), H', ⟨by have := HK1.out; first | omega | exact Nat.le_refl _⟩, by repeat (first | exact Drawn0.refl _ | apply Drawn0.step)⟩
                · rw [if_neg c8] at H
                  have c8b0 : (((rd_T33 l0 x5_1).f0).toList == ((rd_T33 l1 x5_1).f0).toList) = false := beq_eq_false_iff_ne.mpr c8
                  have c8b1 : (((rd_T33 l0 x5_1).f0).toList != ((rd_T33 l1 x5_1).f0).toList) = true := bne_iff_ne.mpr c8
                  have H' := Aside0.mk H
                  clear H
                  have p108 : 0 ≤ (x5_1 : Int) := of_decide_eq_true (by first | (with_reducible assumption) | assumption)
                  have q108 : x5_1 < (l0.length : Int) := of_decide_eq_true (by first | (with_reducible assumption) | assumption)
                  obtain ⟨ad108, A108_2, c108_2, e108, hx108_0, hx108_1, hx108_2, hx108_3, hl108_2, hi108_2⟩ := at_T33 HR0.out x5_1 p108 q108
                  cases e108
                  have HR108_2 := Aside0.mk hi108_2
                  have HC108_2 := Aside0.mk hl108_2
                  clear hi108_2 hl108_2
                  replace p108 := eq_true p108
                  replace q108 := eq_true q108
                  have p109 : 0 ≤ (x5_1 : Int) := of_decide_eq_true (by first | (with_reducible assumption) | assumption)
                  have q109 : x5_1 < (l1.length : Int) := of_decide_eq_true (by first | (with_reducible assumption) | assumption)
                  obtain ⟨ad109, A109_2, c109_2, e109, hx109_0, hx109_1, hx109_2, hx109_3, hl109_2, hi109_2⟩ := at_T33 HR1.out x5_1 p109 q109
                  cases e109
                  have HR109_2 := Aside0.mk hi109_2
                  have HC109_2 := Aside0.mk hl109_2
                  clear hi109_2 hl109_2
                  replace p109 := eq_true p109
                  replace q109 := eq_true q109
                  go_wp2
                  repeat (go_quiet (fail); try go_wp2)
                  go_meet
                  case rel => exact ⟨_, (true), (by first | rfl | (simp; done) | (simp [*]; done)), H', ⟨by have := HK1.out; first | omega | exact Nat.le_refl _⟩, by repeat (first | exact Drawn0.refl _ | apply Drawn0.step)⟩
              · rw [if_neg c7] at H
                exact absurd H (by simp)
            · rw [if_neg c6] at H
              exact absurd H (by simp)
          case rest =>
            clear HC5
            try clear c1
            try clear p1
            try clear q1
            try clear hx1
            try clear p2
            try clear c3
            try clear c3b0
            try clear c3b1
            try clear c3b2
            try clear c4
            try clear c4b0
            try clear c6
            try clear c6b0
            try clear c7
            try clear c7b0
            try clear c8
            try clear c8b0
            try clear c8b1
            try clear c9
            try clear c9b0
            try clear c9b1
            try clear c10
            try clear c10b0
            try clear c10b1
            try clear p10
            try clear q10
            try clear hx10
            try clear hx108_0
            try clear hx108_1
            try clear hx108_2
            try clear hx108_3
            try clear hx109_0
            try clear hx109_1
            try clear hx109_2
            try clear hx109_3
            try clear hx110_0
            try clear hx110_1
            try clear hx110_2
            try clear hx110_3
            try clear hx111_0
            try clear hx111_1
            try clear hx111_2
            try clear hx111_3
            try clear hx112_0
            try clear hx112_1
            try clear hx112_2
            try clear hx112_3
            try clear hx113_0
            try clear hx113_1
            try clear hx113_2
            try clear hx113_3
            try clear hx114_0
            try clear hx114_1
            try clear hx114_2
            try clear hx114_3
            try clear hx115_0
            try clear hx115_1
            try clear hx115_2
            try clear hx115_3
            try clear p108
            try clear p109
            try clear p110
            try clear p111
            try clear p112
            try clear p113
            try clear p114
            try clear p115
            try clear p2
            try clear q108
            try clear q109
            try clear q110
            try clear q111
            try clear q112
            try clear q113
            try clear q114
            try clear q115
            obtain ⟨kq, x69_4, rfl, HA, HJ4, ⟨mc4, rfl⟩⟩ := hcut
            cases kq with
            | zero => exact absurd HA.out (by simp [spec_SameFound.j1])
            | succ kj4 =>
              have H := HA.out
              clear HA
              simp only [spec_SameFound.j1] at H
              by_cases c11 : x69_4 = true
              · subst c11
                have H1 : (some false) = some r := by rw [if_pos rfl] at H; exact H
                clear H
                have H := H1
                clear H1
                obtain rfl := Option.some.inj H
                go_wp2
                repeat (go_quiet (fail); try go_wp2)
                go_ret
                exact ⟨by first | rfl | (simp; done) | (simp [*]; done), by repeat (first | exact Drawn0.refl _ | apply Drawn0.step)⟩
              · replace c11 := Bool.eq_false_iff.mpr c11
                subst c11
                have H1 : (spec_SameFound.l1 kj4 l0 l1 x5_1 0) = some r := by rw [if_neg (show ¬ (false = true) by decide)] at H; exact H
                clear H
                have H := H1
                clear H1
                have H' := Aside0.mk H
                clear H
                go_wp2
                repeat (go_quiet (fail); try go_wp2)
                go_loopg [6] kj4 (fun kq v6 w' => ∃ (x6_3 : Int), v6 = .int .i64 x6_3 ∧ Aside0 (spec_SameFound.l1 kq l0 l1 x5_1 x6_3 = some r) ∧ Aside0 (kq ≤ kj4) ∧ Drawn0 w w')
                case atStart => exact ⟨(0), (by first | rfl | (simp; done) | (simp [*]; done)), H', ⟨Nat.le_refl _⟩, by repeat (first | exact Drawn0.refl _ | apply Drawn0.step)⟩
                case round =>
                  clear H'
                  try clear c1
                  try clear p1
                  try clear q1
                  try clear hx1
                  try clear p2
                  try clear c3
                  try clear c3b0
                  try clear c3b1
                  try clear c3b2
                  try clear c4
                  try clear c4b0
                  try clear c6
                  try clear c6b0
                  try clear c7
                  try clear c7b0
                  try clear c8
                  try clear c8b0
                  try clear c8b1
                  try clear c9
                  try clear c9b0
                  try clear c9b1
                  try clear c10
                  try clear c10b0
                  try clear c10b1
                  try clear p10
                  try clear q10
                  try clear hx10
                  try clear c11
                  try clear p11
                  try clear q11
                  try clear hx11
                  try clear hx108_0
                  try clear hx108_1
                  try clear hx108_2
                  try clear hx108_3
                  try clear hx109_0
                  try clear hx109_1
                  try clear hx109_2
                  try clear hx109_3
                  try clear hx110_0
                  try clear hx110_1
                  try clear hx110_2
                  try clear hx110_3
                  try clear hx111_0
                  try clear hx111_1
                  try clear hx111_2
                  try clear hx111_3
                  try clear hx112_0
                  try clear hx112_1
                  try clear hx112_2
                  try clear hx112_3
                  try clear hx113_0
                  try clear hx113_1
                  try clear hx113_2
                  try clear hx113_3
                  try clear hx114_0
                  try clear hx114_1
                  try clear hx114_2
                  try clear hx114_3
                  try clear hx115_0
                  try clear hx115_1
                  try clear hx115_2
                  try clear hx115_3
                  try clear p1
                  try clear p10
                  try clear p108
                  try clear p109
                  try clear p110
                  try clear p111
                  try clear p112
                  try clear p113
                  try clear p114
                  try clear p115
                  try clear p2
                  try clear q1
                  try clear q10
                  try clear q108
                  try clear q109
                  try clear q110
                  try clear q111
                  try clear q112
                  try clear q113
                  try clear q114
                  try clear q115
                  obtain ⟨x6_3, rfl, HA, HK3, ⟨m3, rfl⟩⟩ := hrel
                  cases gk with
                  | zero => exact absurd HA.out (by simp [spec_SameFound.l1])
                  | succ k3 =>
                    have H := HA.out
                    clear HA
                    simp only [spec_SameFound.l1] at H
                    by_cases c12 : 0 ≤ x5_1
                    · rw [if_pos c12] at H
                      have c12b0 : decide (0 ≤ x5_1) = true := decide_eq_true c12
                      clear c12
                      by_cases c13 : x5_1 < (l0.length : Int)
                      · rw [if_pos c13] at H
                        have c13b0 : decide (x5_1 < (l0.length : Int)) = true := decide_eq_true c13
                        clear c13
                        by_cases c14 : x6_3 < (((rd_T33 l0 x5_1).f2).length : Int)
                        · rw [if_pos c14] at H
                          have c14b0 : decide (x6_3 < (((rd_T33 l0 x5_1).f2).length : Int)) = true := decide_eq_true c14
                          clear c14
                          by_cases c15 : 0 ≤ x6_3
                          · rw [if_pos c15] at H
                            have c15b0 : decide (0 ≤ x6_3) = true := decide_eq_true c15
                            clear c15
                            by_cases c16 : x5_1 < (l1.length : Int)
                            · rw [if_pos c16] at H
                              have c16b0 : decide (x5_1 < (l1.length : Int)) = true := decide_eq_true c16
                              clear c16
                              by_cases c17 : x6_3 < (((rd_T33 l1 x5_1).f2).length : Int)
                              · rw [if_pos c17] at H
                                have c17b0 : decide (x6_3 < (((rd_T33 l1 x5_1).f2).length : Int)) = true := decide_eq_true c17
                                clear c17
                                by_cases c18 : (rd ((rd_T33 l0 x5_1).f2) x6_3) = (rd ((rd_T33 l1 x5_1).f2) x6_3)
                                · rw [if_pos c18] at H
                                  have c18b0 : ((rd ((rd_T33 l0 x5_1).f2) x6_3) == (rd ((rd_T33 l1 x5_1).f2) x6_3)) = true := beq_iff_eq.mpr c18
                                  have c18b1 : ((rd ((rd_T33 l0 x5_1).f2) x6_3) != (rd ((rd_T33 l1 x5_1).f2) x6_3)) = false := bne_eq_false_iff_eq.mpr c18
                                  clear c18
                                  have H' := Aside0.mk H
                                  clear H
                                  have p116 : 0 ≤ (x5_1 : Int) := of_decide_eq_true (by first | (with_reducible assumption) | assumption)
                                  have q116 : x5_1 < (l0.length : Int) := of_decide_eq_true (by first | (with_reducible assumption) | assumption)
                                  obtain ⟨ad116, A116_2, c116_2, e116, hx116_0, hx116_1, hx116_2, hx116_3, hl116_2, hi116_2⟩ := at_T33 HR0.out x5_1 p116 q116
                                  cases e116
                                  have HR116_2 := Aside0.mk hi116_2
                                  have HC116_2 := Aside0.mk hl116_2
                                  clear hi116_2 hl116_2
                                  replace p116 := eq_true p116
                                  replace q116 := eq_true q116
                                  have p117 : 0 ≤ (x5_1 : Int) := of_decide_eq_true (by first | (with_reducible assumption) | assumption)
                                  have q117 : x5_1 < (l0.length : Int) := of_decide_eq_true (by first | (with_reducible assumption) | assumption)
                                  obtain ⟨ad117, A117_2, c117_2, e117, hx117_0, hx117_1, hx117_2, hx117_3, hl117_2, hi117_2⟩ := at_T33 HR0.out x5_1 p117 q117
                                  obtain rfl : ad116 = ad117 := (by injection e117)
                                  have HR117_2 := Aside0.mk hi117_2
                                  have HC117_2 := Aside0.mk hl117_2
                                  clear hi117_2 hl117_2
                                  replace p117 := eq_true p117
                                  replace q117 := eq_true q117
                                  have ea_ := Option.some.inj (hx116_2.symm.trans hx117_2)
                                  injection ea_ with ea_ en_ ec_
                                  subst ea_
                                  subst ec_
                                  clear en_
                                  have p118 : 0 ≤ (x6_3 : Int) := of_decide_eq_true (by first | (with_reducible assumption) | assumption)
                                  have q118 : x6_3 < (((rd_T33 l0 x5_1).f2).length : Int) := of_decide_eq_true (by first | (with_reducible assumption) | assumption)
                                  obtain ⟨ad118, e118, hx118_0⟩ := Kd.at_int HR117_2.out x6_3 p118 q118
                                  cases e118
                                  replace p118 := eq_true p118
                                  replace q118 := eq_true q118
                                  have p119 : 0 ≤ (x5_1 : Int) := of_decide_eq_true (by first | (with_reducible assumption) | assumption)
                                  have q119 : x5_1 < (l1.length : Int) := of_decide_eq_true (by first | (with_reducible assumption) | assumption)
                                  obtain ⟨ad119, A119_2, c119_2, e119, hx119_0, hx119_1, hx119_2, hx119_3, hl119_2, hi119_2⟩ := at_T33 HR1.out x5_1 p119 q119
                                  cases e119
                                  have HR119_2 := Aside0.mk hi119_2
                                  have HC119_2 := Aside0.mk hl119_2
                                  clear hi119_2 hl119_2
                                  replace p119 := eq_true p119
                                  replace q119 := eq_true q119
                                  have p120 : 0 ≤ (x6_3 : Int) := of_decide_eq_true (by first | (with_reducible assumption) | assumption)
                                  have q120 : x6_3 < (((rd_T33 l1 x5_1).f2).length : Int) := of_decide_eq_true (by first | (with_reducible assumption) | assumption)
                                  obtain ⟨ad120, e120, hx120_0⟩ := Kd.at_int HR119_2.out x6_3 p120 q120
                                  cases e120
                                  replace p120 := eq_true p120
                                  replace q120 := eq_true q120
                                  go_wp2
                                  repeat (go_quiet (fail); try go_wp2)
                                  go_roundg k3
                                  case measure => have := HK1.out; have := HJ4.out; have := HK3.out; omega
                                  case rel => exact ⟨(wrap64 (x6_3 + 1)), (by first | rfl | (simp; done) | (simp [*]; done)), H', ⟨by have := HK1.out; have := HJ4.out; have := HK3.out; omega⟩, by repeat (first | exact Drawn0.refl _ | apply Drawn0.step)⟩
                                · rw [if_neg c18] at H
                                  have c18b0 : ((rd ((rd_T33 l0 x5_1).f2) x6_3) == (rd ((rd_T33 l1 x5_1).f2) x6_3)) = false := beq_eq_false_iff_ne.mpr c18
                                  have c18b1 : ((rd ((rd_T33 l0 x5_1).f2) x6_3) != (rd ((rd_T33 l1 x5_1).f2) x6_3)) = true := bne_iff_ne.mpr c18
                                  obtain rfl := Option.some.inj H
                                  have p116 : 0 ≤ (x5_1 : Int) := of_decide_eq_true (by first | (with_reducible assumption) | assumption)
                                  have q116 : x5_1 < (l0.length : Int) := of_decide_eq_true (by first | (with_reducible assumption) | assumption)
                                  obtain ⟨ad116, A116_2, c116_2, e116, hx116_0, hx116_1, hx116_2, hx116_3, hl116_2, hi116_2⟩ := at_T33 HR0.out x5_1 p116 q116
                                  cases e116
                                  have HR116_2 := Aside0.mk hi116_2
                                  have HC116_2 := Aside0.mk hl116_2
                                  clear hi116_2 hl116_2
                                  replace p116 := eq_true p116
                                  replace q116 := eq_true q116
                                  have p117 : 0 ≤ (x5_1 : Int) := of_decide_eq_true (by first | (with_reducible assumption) | assumption)
                                  have q117 : x5_1 < (l0.length : Int) := of_decide_eq_true (by first | (with_reducible assumption) | assumption)
                                  obtain ⟨ad117, A117_2, c117_2, e117, hx117_0, hx117_1, hx117_2, hx117_3, hl117_2, hi117_2⟩ := at_T33 HR0.out x5_1 p117 q117
                                  obtain rfl : ad116 = ad117 := (by injection e117)
                                  have HR117_2 := Aside0.mk hi117_2
                                  have HC117_2 := Aside0.mk hl117_2
                                  clear hi117_2 hl117_2
                                  replace p117 := eq_true p117
                                  replace q117 := eq_true q117
                                  have ea_ := Option.some.inj (hx116_2.symm.trans hx117_2)
                                  injection ea_ with ea_ en_ ec_
                                  subst ea_
                                  subst ec_
                                  clear en_
                                  have p118 : 0 ≤ (x6_3 : Int) := of_decide_eq_true (by first | (with_reducible assumption) | assumption)
                                  have q118 : x6_3 < (((rd_T33 l0 x5_1).f2).length : Int) := of_decide_eq_true (by first | (with_reducible assumption) | assumption)
                                  obtain ⟨ad118, e118, hx118_0⟩ := Kd.at_int HR117_2.out x6_3 p118 q118
                                  cases e118
                                  replace p118 := eq_true p118
                                  replace q118 := eq_true q118
                                  have p119 : 0 ≤ (x5_1 : Int) := of_decide_eq_true (by first | (with_reducible assumption) | assumption)
                                  have q119 : x5_1 < (l1.length : Int) := of_decide_eq_true (by first | (with_reducible assumption) | assumption)
                                  obtain ⟨ad119, A119_2, c119_2, e119, hx119_0, hx119_1, hx119_2, hx119_3, hl119_2, hi119_2⟩ := at_T33 HR1.out x5_1 p119 q119
                                  cases e119
                                  have HR119_2 := Aside0.mk hi119_2
                                  have HC119_2 := Aside0.mk hl119_2
                                  clear hi119_2 hl119_2
                                  replace p119 := eq_true p119
                                  replace q119 := eq_true q119
                                  have p120 : 0 ≤ (x6_3 : Int) := of_decide_eq_true (by first | (with_reducible assumption) | assumption)
                                  have q120 : x6_3 < (((rd_T33 l1 x5_1).f2).length : Int) := of_decide_eq_true (by first | (with_reducible assumption) | assumption)
                                  obtain ⟨ad120, e120, hx120_0⟩ := Kd.at_int HR119_2.out x6_3 p120 q120
                                  cases e120
                                  replace p120 := eq_true p120
                                  replace q120 := eq_true q120
                                  go_wp2
                                  repeat (go_quiet (fail); try go_wp2)
                                  go_ret
                                  exact ⟨by first | rfl | (simp; done) | (simp [*]; done), by repeat (first | exact Drawn0.refl _ | apply Drawn0.step)⟩
                              · rw [if_neg c17] at H
                                exact absurd H (by simp)
                            · rw [if_neg c16] at H
                              exact absurd H (by simp)
                          · rw [if_neg c15] at H
                            exact absurd H (by simp)
                        · rw [if_neg c14] at H
                          have c14b0 : decide (x6_3 < (((rd_T33 l0 x5_1).f2).length : Int)) = false := decide_eq_false c14
                          clear c14
                          have H' := Aside0.mk H
                          clear H
                          have p116 : 0 ≤ (x5_1 : Int) := of_decide_eq_true (by first | (with_reducible assumption) | assumption)
                          have q116 : x5_1 < (l0.length : Int) := of_decide_eq_true (by first | (with_reducible assumption) | assumption)
                          obtain ⟨ad116, A116_2, c116_2, e116, hx116_0, hx116_1, hx116_2, hx116_3, hl116_2, hi116_2⟩ := at_T33 HR0.out x5_1 p116 q116
                          cases e116
                          have HR116_2 := Aside0.mk hi116_2
                          have HC116_2 := Aside0.mk hl116_2
                          clear hi116_2 hl116_2
                          replace p116 := eq_true p116
                          replace q116 := eq_true q116
                          go_wp2
                          repeat (go_quiet (fail); try go_wp2)
                          go_roundg k3
                          case measure => have := HK1.out; have := HJ4.out; have := HK3.out; omega
                          case rel => exact ⟨(wrap64 (x5_1 + 1)), (by first | rfl | (simp; done) | (simp [*]; done)), H', ⟨by have := HK1.out; have := HJ4.out; have := HK3.out; omega⟩, by repeat (first | exact Drawn0.refl _ | apply Drawn0.step)⟩
                      · rw [if_neg c13] at H
                        exact absurd H (by simp)
                    · rw [if_neg c12] at H
                      exact absurd H (by simp)
        · rw [if_neg c4] at H
          have c4b0 : decide (x5_1 < (l0.length : Int)) = false := decide_eq_false c4
          clear c4
          obtain rfl := Option.some.inj H
          go_wp2
          repeat (go_quiet (fail); try go_wp2)
          go_ret
          exact ⟨by first | rfl | (simp; done) | (simp [*]; done), by repeat (first | exact Drawn0.refl _ | apply Drawn0.step)⟩
  · rw [if_neg c3] at H
    have c3b0 : ((l0.length : Int) == (l1.length : Int)) = false := beq_eq_false_iff_ne.mpr c3
    have c3b1 : ((l0.length : Int) != (l1.length : Int)) = true := bne_iff_ne.mpr c3
    have c3b2 : (l0.length == l1.length) = false := by first | simpa using c3 | (simp at c3 ⊢; omega)
    obtain rfl := Option.some.inj H
    go_enter Tryd.func10, Tryd.ntmps10
    go_wp2
    repeat (go_quiet (fail); try go_wp2)
    go_ret
    exact ⟨by first | rfl | (simp; done) | (simp [*]; done), by repeat (first | exact Drawn0.refl _ | apply Drawn0.step)⟩

end Go.Proofs.YtgeimklpcfepaaaDoor.P
