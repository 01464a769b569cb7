-- written by a program of this session (wip/tools), out of the translation
import Derived.Test.YtgeimklpcfepaaaDoorP0
import Derived.Test.YtgeimklpcfepaaaDoorP6
import Derived.Test.YtgeimklpcfepaaaDoorExtLetters
import Derived.Test.YtgeimklpcfepaaaDoorP3
import Derived.Test.YtgeimklpcfepaaaDoorP8
import Derived.Test.YtgeimklpcfepaaaDoorP11
namespace Go.Proofs.YtgeimklpcfepaaaDoor.P
open Go.RowKit Go.Proofs.YtgeimklpcfepaaaDoorW.PrintWords Go.Proofs.YtgeimklpcfepaaaDoorW.PrintLast Go.Proofs.YtgeimklpcfepaaaDoorW.PrintMore
attribute [local go_sem] max2_int min2_int max_two min_two max_three min_three max_four min_four   -- for this text's walks alone
set_option linter.unusedVariables false
set_option linter.unusedSimpArgs false

/-! ### spec_Stand: function 17 -/
mutual
def spec_Stand.l0 : Nat → List Int → List (S45) → List (S45) → Int → Int → Option (Bool)
 | 0, _, _, _, _, _ => none
 | k + 1, x2, x7, x8, x9, x10 => if x10 < (x8.length : Int) then (spec_Stand.j1 k x2 x7 x8 x9 x10 (decide (x9 < (x2.length : Int)))) else (spec_Stand.j1 k x2 x7 x8 x9 x10 false)
def spec_Stand.j1 : Nat → List Int → List (S45) → List (S45) → Int → Int → Bool → Option (Bool)
 | 0, _, _, _, _, _, _ => none
 | k + 1, x2, x7, x8, x9, x10, x29 => if x29 = true then (if 0 ≤ x10 then (if x10 < (x8.length : Int) then (if 0 ≤ x9 then (if x9 < (x2.length : Int) then (if ((rd_T45 x8 x10).f1) = (rd x2 x9) then (if x9 < (x7.length : Int) then ((spec_Alike.f k ((rd_T45 x8 x10).f0) ((rd_T45 x7 x9).f0)).bind fun t285 => (if t285 = true then (spec_Stand.l0 k x2 x7 x8 (wrap64 (x9 + 1)) (wrap64 (x10 + 1))) else (some false))) else (none)) else (spec_Stand.l0 k x2 x7 x8 x9 (wrap64 (x10 + 1)))) else (none)) else (none)) else (none)) else (none)) else (some (x9 == (x2.length : Int)))
end
def spec_Stand.f (k : Nat) (a0 : ByteArray) (a1 : ByteArray) (l2 : List Int) : Option (Bool) := (spec_Letters.f a0).bind fun t275 => ((spec_Letters.f a1).bind fun t278 => (if (l2.length : Int) = (t275.length : Int) then (spec_Stand.l0 k l2 t275 t278 0 0) else (some false)))
theorem spec_Stand.mono_l : ∀ k, (∀ y0 y1 y2 y3 y4, LeO (spec_Stand.l0 k y0 y1 y2 y3 y4) (spec_Stand.l0 (k + 1) y0 y1 y2 y3 y4)) ∧ (∀ y0 y1 y2 y3 y4 y5, LeO (spec_Stand.j1 k y0 y1 y2 y3 y4 y5) (spec_Stand.j1 (k + 1) y0 y1 y2 y3 y4 y5))
 | 0 => ⟨fun _ _ _ _ _ r h => by simp [spec_Stand.l0] at h, fun _ _ _ _ _ _ r h => by simp [spec_Stand.j1] at h⟩
 | k + 1 => by
  obtain ⟨ih0, ih1⟩ := spec_Stand.mono_l k
  refine ⟨?_, ?_⟩
  · intro y0 y1 y2 y3 y4
    unfold spec_Stand.l0
    repeat' first
    | (with_reducible exact ih0 _ _ _ _ _)
    | (with_reducible exact ih1 _ _ _ _ _ _)
    | (with_reducible exact spec_Alike.mono _ _ _)
    | (with_reducible exact LeO.refl _)
    | (with_reducible exact LeO.none _)
    | (with_reducible refine LeO.ite ?_ ?_)
    | (with_reducible refine LeO.bind ?_ (fun _ => ?_))
    | exact ih0 _ _ _ _ _
    | exact ih1 _ _ _ _ _ _
    | exact spec_Alike.mono _ _ _
    | exact LeO.none _
    | refine LeO.ite ?_ ?_
    | refine LeO.bind ?_ (fun _ => ?_)
  · intro y0 y1 y2 y3 y4 y5
    unfold spec_Stand.j1
    repeat' first
    | (with_reducible exact ih0 _ _ _ _ _)
    | (with_reducible exact ih1 _ _ _ _ _ _)
    | (with_reducible exact spec_Alike.mono _ _ _)
    | (with_reducible exact LeO.refl _)
    | (with_reducible exact LeO.none _)
    | (with_reducible refine LeO.ite ?_ ?_)
    | (with_reducible refine LeO.bind ?_ (fun _ => ?_))
    | exact ih0 _ _ _ _ _
    | exact ih1 _ _ _ _ _ _
    | exact spec_Alike.mono _ _ _
    | exact LeO.none _
    | refine LeO.ite ?_ ?_
    | refine LeO.bind ?_ (fun _ => ?_)
theorem spec_Stand.mono : ∀ a0 a1 a2 k, LeO (spec_Stand.f k a0 a1 a2) (spec_Stand.f (k + 1) a0 a1 a2) := by
 intro a0 a1 a2 k
 obtain ⟨ih0, ih1⟩ := spec_Stand.mono_l k
 unfold spec_Stand.f
 repeat' first
  | (with_reducible exact ih0 _ _ _ _ _)
  | (with_reducible exact ih1 _ _ _ _ _ _)
  | (with_reducible exact spec_Alike.mono _ _ _)
  | (with_reducible exact LeO.refl _)
  | (with_reducible exact LeO.none _)
  | (with_reducible refine LeO.ite ?_ ?_)
  | (with_reducible refine LeO.bind ?_ (fun _ => ?_))
  | exact ih0 _ _ _ _ _
  | exact ih1 _ _ _ _ _ _
  | exact spec_Alike.mono _ _ _
  | exact LeO.none _
  | refine LeO.ite ?_ ?_
  | refine LeO.bind ?_ (fun _ => ?_)
def spec_Stand.T9 : Bool × List (List Nat × List Nat) := (true, [([], []), ([], []), ([0, 1], [0, 1]), ([2], [2]), ([3], [3]), ([], []), ([], []), ([5, 6], [5, 6]), ([7], [7]), ([4, 8], [4, 8])])
def spec_Stand.B9 : List Nat := [0, 0, 3, 7, 15, 0, 0, 96, 224, 511]
theorem spec_Stand.tab9 : rtab .any (opsOf Tryd.f17 9) = spec_Stand.T9 := by kernel_rfl
theorem spec_Stand.bits9 : waitsOk spec_Stand.T9.2 spec_Stand.B9 = true := by kernel_rfl
def spec_Stand.T10 : Bool × List (List Nat × List Nat) := (true, [([], []), ([], []), ([0, 1], [0, 1]), ([2], [2]), ([3], [3]), ([], []), ([], []), ([5, 6], [5, 6]), ([7], [7]), ([8], [8]), ([4, 9], [4, 9]), ([10], [10])])
def spec_Stand.B10 : List Nat := [0, 0, 3, 7, 15, 0, 0, 96, 224, 480, 1023, 2047]
theorem spec_Stand.tab10 : rtab .any (opsOf Tryd.f17 10) = spec_Stand.T10 := by kernel_rfl
theorem spec_Stand.bits10 : waitsOk spec_Stand.T10.2 spec_Stand.B10 = true := by kernel_rfl
set_option maxHeartbeats 8000000 in
set_option maxRecDepth 100000 in
theorem spec_Stand.calls (k : Nat) (a0 : ByteArray) (a1 : ByteArray) (A2 : Option Addr) (c2 : Nat) (l2 : List Int) (r : Bool) (w : World) (hr2 : Kd.C (Kd.int .i64) w A2 l2.length l2) (hc2 : l2.length ≤ c2) (hA_ : Amb w) (h : spec_Stand.f k a0 a1 l2 = some r) :
 Calls Tryd.prog 17 #[.string a0, .string a1, .slice A2 l2.length c2] w fun e w' => e = .returned (.bool r) ∧ Below w.heap.size w w' := by
 have HR2 := Aside0.mk hr2
 have HC2 := Aside0.mk hc2
 clear hr2 hc2
 have HAMB := Aside0.mk hA_
 clear hA_
 have HB := Aside0.mk (Below.refl w.heap.size w)
 have H : ((spec_Letters.f a0).bind fun t275 => ((spec_Letters.f a1).bind fun t278 => (if (l2.length : Int) = (t275.length : Int) then (spec_Stand.l0 k l2 t275 t278 0 0) else (some false)))) = some r := h
 clear h
 replace H := Option.bind_eq_some_iff.mp H
 obtain ⟨t275, A40, H⟩ := H
 replace H : ((spec_Letters.f a1).bind fun t278 => (if (l2.length : Int) = (t275.length : Int) then (spec_Stand.l0 k l2 t275 t278 0 0) else (some false))) = some r := H
 have A4 := Aside0.mk A40
 clear A40
 replace H := Option.bind_eq_some_iff.mp H
 obtain ⟨t278, A50, H⟩ := H
 replace H : (if (l2.length : Int) = (t275.length : Int) then (spec_Stand.l0 k l2 t275 t278 0 0) else (some false)) = some r := H
 have A5 := Aside0.mk A50
 clear A50
 by_cases c6 : (l2.length : Int) = (t275.length : Int)
 · rw [if_pos c6] at H
   have c6b0 : ((l2.length : Int) == (t275.length : Int)) = true := beq_iff_eq.mpr c6
   have c6b1 : ((l2.length : Int) != (t275.length : Int)) = false := bne_eq_false_iff_eq.mpr c6
   have c6b2 : (l2.length == t275.length) = true := by first | simpa using c6 | (simp at c6 ⊢; omega)
   clear c6
   have H' := Aside0.mk H
   clear H
   go_enter Tryd.func17, Tryd.ntmps17
   go_wp2_with (first | ((with_reducible refine gate_callee (f := 19) rfl ?_); refine goesL_ (some 12) rfl rfl Tryd.func19 (by kernel_rfl) rfl #[.string a0] rfl (by (try simp only [List.map_toArray, List.map_cons, List.map_nil]); first | done | rfl | (simp only [List.length_drop, List.length_take]; rfl)) ?_; (with_reducible refine (spec_Letters.calls a0 t275 _ A4.out).mono ?_); rintro e w7 ⟨v276, rfl, ho0, hb⟩; refine ⟨_, rfl, ?_⟩; have n0_ := Aside0.mk (Kd.R_lower ho0 (below_size (by repeat (first | (with_reducible first | exact HB.out | apply below_alloc | apply pw_below_drewN | apply below_drew1) | exact HB.out)))); have n1_ := Aside0.mk (below_step (by repeat (first | (with_reducible first | exact HB.out | apply below_alloc | apply pw_below_drewN | apply below_drew1) | exact HB.out)) hb); clear HB; have HO277 := n0_; have HB := n1_; clear n0_ n1_; (try clear hb); (try clear hb2); (try clear hk); (try clear hi); (try clear ho0)) | ((with_reducible refine gate_callee (f := 19) rfl ?_); refine goesL_ (some 14) rfl rfl Tryd.func19 (by kernel_rfl) rfl #[.string a1] rfl (by (try simp only [List.map_toArray, List.map_cons, List.map_nil]); first | done | rfl | (simp only [List.length_drop, List.length_take]; rfl)) ?_; (with_reducible refine (spec_Letters.calls a1 t278 _ A5.out).mono ?_); rintro e w8 ⟨v279, rfl, ho0, hb⟩; refine ⟨_, rfl, ?_⟩; have n0_ := Aside0.mk (Kd.R_elder' (by (with_reducible repeat (first | apply Kd.R_alloc | apply Kd.R_drewN | apply Kd.R_drew)); exact HO277.out) (Kd.R_base ho0) hb); have n1_ := Aside0.mk (Kd.R_lower (Kd.R_new' ho0 (Kd.R_lt (by (with_reducible repeat (first | apply Kd.R_alloc | apply Kd.R_drewN | apply Kd.R_drew)); exact HO277.out))) (below_size (by repeat (first | (with_reducible first | exact HB.out | apply below_alloc | apply pw_below_drewN | apply below_drew1) | exact HB.out)))); have n2_ := Aside0.mk (below_step (by repeat (first | (with_reducible first | exact HB.out | apply below_alloc | apply pw_below_drewN | apply below_drew1) | exact HB.out)) hb); clear HO277; clear HB; have HO277 := n0_; have HO280 := n1_; have HB := n2_; clear n0_ n1_ n2_; (try clear hb); (try clear hb2); (try clear hk); (try clear hi); (try clear ho0); obtain ⟨Ao9, co9, eo9⟩ := Kd.R_slice HO277.out; subst eo9))
   go_loopg [9, 10] k (fun kq v9 v10 w' => ∃ (x9_1 : Int) (x10_1 : Int), v9 = .int .i64 x9_1 ∧ v10 = .int .i64 x10_1 ∧ Aside0 (spec_Stand.l0 kq l2 t275 t278 x9_1 x10_1 = some r) ∧ Aside0 (kq ≤ k) ∧ Aside0 (Kd.R k45 45 w' w.heap.size (fun k_ => some k_ ≠ (v279 : Value).ownBlock) (.slice Ao9 t275.length co9) t275) ∧ Aside0 (Kd.R k45 45 w' w.heap.size (fun k_ => some k_ ≠ ((.slice Ao9 t275.length co9) : Value).ownBlock) v279 t278) ∧ Aside0 (Below w.heap.size w w'))
   case atStart => exact ⟨(0), (0), (by first | rfl | (simp; done) | (simp [*]; done)), (by first | rfl | (simp; done) | (simp [*]; done)), H', ⟨Nat.le_refl _⟩, ⟨by (with_reducible repeat (first | apply Kd.R_alloc | apply Kd.R_drewN | apply Kd.R_drew)); exact Kd.R_mono HO277.out (fun _ hk => hk.2)⟩, ⟨by (with_reducible repeat (first | apply Kd.R_alloc | apply Kd.R_drewN | apply Kd.R_drew)); exact Kd.R_mono HO280.out (fun _ hk => hk.2)⟩, ⟨by repeat (first | (with_reducible first | exact HB.out | apply below_alloc | apply pw_below_drewN | apply below_drew1) | exact HB.out)⟩⟩
   case round =>
    clear H'
    try clear c1
    try clear c2
    try clear p2
    try clear c6
    try clear c6b0
    try clear c6b1
    try clear c6b2
    obtain ⟨x9_1, x10_1, rfl, rfl, HA, HK1, HO_7, HO_8, HB⟩ := hrel
    cases gk with
    | zero => exact absurd HA.out (by simp [spec_Stand.l0])
    | succ k1 =>
     have H := HA.out
     clear HA
     simp only [spec_Stand.l0] at H
     have HC10 := Aside0.mk H
     clear H
     go_upto_region 7 with (fail)
     go_cut [29] (fun v29 wc => ∃ (kq : Nat) (x29_9 : Bool), v29 = .bool x29_9 ∧ Aside0 (spec_Stand.j1 kq l2 t275 t278 x9_1 x10_1 x29_9 = some r) ∧ Aside0 (kq ≤ k1) ∧ Aside0 (Kd.R k45 45 wc w.heap.size (fun k_ => some k_ ≠ (v279 : Value).ownBlock) (.slice Ao9 t275.length co9) t275) ∧ Aside0 (Kd.R k45 45 wc w.heap.size (fun k_ => some k_ ≠ ((.slice Ao9 t275.length co9) : Value).ownBlock) v279 t278) ∧ Aside0 (Below w.heap.size w wc))
     case first =>
      have H := HC10.out
      clear HC10
      by_cases c11 : x10_1 < (t278.length : Int)
      · rw [if_pos c11] at H
        have c11b0 : decide (x10_1 < (t278.length : Int)) = true := decide_eq_true c11
        clear c11
        (first | rw [c11b0] | (simp only [i64_w, i32_w]; rw [c11b0]) | skip)
        have H' := Aside0.mk H
        clear H
        obtain ⟨Ao12, co12, eo12⟩ := Kd.R_slice HO_8.out
        subst eo12
        go_wp2
        go_meet
        case rel => exact ⟨_, (decide (x9_1 < (l2.length : Int))), (by first | rfl | (simp; done) | (simp [*]; done)), H', ⟨by have := HK1.out; first | omega | exact Nat.le_refl _⟩, ⟨by (with_reducible repeat (first | apply Kd.R_alloc | apply Kd.R_drewN | apply Kd.R_drew)); exact HO_7.out⟩, ⟨by (with_reducible repeat (first | apply Kd.R_alloc | apply Kd.R_drewN | apply Kd.R_drew)); exact HO_8.out⟩, ⟨by repeat (first | (with_reducible first | exact HB.out | apply below_alloc | apply pw_below_drewN | apply below_drew1) | exact HB.out)⟩⟩
      · rw [if_neg c11] at H
        have c11b0 : decide (x10_1 < (t278.length : Int)) = false := decide_eq_false c11
        clear c11
        (first | rw [c11b0] | (simp only [i64_w, i32_w]; rw [c11b0]) | skip)
        have H' := Aside0.mk H
        clear H
        obtain ⟨Ao13, co13, eo13⟩ := Kd.R_slice HO_8.out
        subst eo13
        go_wp2
        go_meet
        case rel => exact ⟨_, (false), (by first | rfl | (simp; done) | (simp [*]; done)), H', ⟨by have := HK1.out; first | omega | exact Nat.le_refl _⟩, ⟨by (with_reducible repeat (first | apply Kd.R_alloc | apply Kd.R_drewN | apply Kd.R_drew)); exact HO_7.out⟩, ⟨by (with_reducible repeat (first | apply Kd.R_alloc | apply Kd.R_drewN | apply Kd.R_drew)); exact HO_8.out⟩, ⟨by repeat (first | (with_reducible first | exact HB.out | apply below_alloc | apply pw_below_drewN | apply below_drew1) | exact HB.out)⟩⟩
     case rest =>
      clear HC10
      try clear c1
      try clear c2
      try clear p2
      try clear c6
      try clear c6b0
      try clear c6b1
      try clear c6b2
      try clear c11
      try clear c11b0
      try clear p2
      obtain ⟨kq, x29_9, rfl, HA, HJ9, HO_7, HO_8, HB⟩ := hcut
      cases kq with
      | zero => exact absurd HA.out (by simp [spec_Stand.j1])
      | succ kj9 =>
       have H := HA.out
       clear HA
       simp only [spec_Stand.j1] at H
       by_cases c14 : x29_9 = true
       · subst c14
         have H1 : (if 0 ≤ x10_1 then (if x10_1 < (t278.length : Int) then (if 0 ≤ x9_1 then (if x9_1 < (l2.length : Int) then (if ((rd_T45 t278 x10_1).f1) = (rd l2 x9_1) then (if x9_1 < (t275.length : Int) then ((spec_Alike.f kj9 ((rd_T45 t278 x10_1).f0) ((rd_T45 t275 x9_1).f0)).bind fun t285 => (if t285 = true then (spec_Stand.l0 kj9 l2 t275 t278 (wrap64 (x9_1 + 1)) (wrap64 (x10_1 + 1))) else (some false))) else (none)) else (spec_Stand.l0 kj9 l2 t275 t278 x9_1 (wrap64 (x10_1 + 1)))) else (none)) else (none)) else (none)) else (none)) = some r := by rw [if_pos rfl] at H; exact H
         clear H
         have H := H1
         clear H1
         by_cases c15 : 0 ≤ x10_1
         · rw [if_pos c15] at H
           have c15b0 : decide (0 ≤ x10_1) = true := decide_eq_true c15
           clear c15
           by_cases c16 : x10_1 < (t278.length : Int)
           · rw [if_pos c16] at H
             have c16b0 : decide (x10_1 < (t278.length : Int)) = true := decide_eq_true c16
             clear c16
             by_cases c17 : 0 ≤ x9_1
             · rw [if_pos c17] at H
               have c17b0 : decide (0 ≤ x9_1) = true := decide_eq_true c17
               clear c17
               by_cases c18 : x9_1 < (l2.length : Int)
               · rw [if_pos c18] at H
                 have c18b0 : decide (x9_1 < (l2.length : Int)) = true := decide_eq_true c18
                 clear c18
                 by_cases c19 : ((rd_T45 t278 x10_1).f1) = (rd l2 x9_1)
                 · rw [if_pos c19] at H
                   have c19b0 : (((rd_T45 t278 x10_1).f1) == (rd l2 x9_1)) = true := beq_iff_eq.mpr c19
                   have c19b1 : (((rd_T45 t278 x10_1).f1) != (rd l2 x9_1)) = false := bne_eq_false_iff_eq.mpr c19
                   clear c19
                   by_cases c20 : x9_1 < (t275.length : Int)
                   · rw [if_pos c20] at H
                     have c20b0 : decide (x9_1 < (t275.length : Int)) = true := decide_eq_true c20
                     clear c20
                     replace H := Option.bind_eq_some_iff.mp H
                     obtain ⟨t285, A210, H⟩ := H
                     replace H : (if t285 = true then (spec_Stand.l0 kj9 l2 t275 t278 (wrap64 (x9_1 + 1)) (wrap64 (x10_1 + 1))) else (some false)) = some r := H
                     have A21 := Aside0.mk A210
                     clear A210
                     by_cases c22 : t285 = true
                     · subst c22
                       have H1 : (spec_Stand.l0 kj9 l2 t275 t278 (wrap64 (x9_1 + 1)) (wrap64 (x10_1 + 1))) = some r := by rw [if_pos rfl] at H; exact H
                       clear H
                       have H := H1
                       clear H1
                       have H' := Aside0.mk H
                       clear H
                       try go_wp2
                       have n0_ := Aside0.mk (Kd.R_drew HO_7.out)
                       have n1_ := Aside0.mk (Kd.R_drew HO_8.out)
                       have n2_ := Aside0.mk (below_drew1 HB.out)
                       clear HO_7
                       clear HO_8
                       clear HB
                       have HO_7 := n0_
                       have HO_8 := n1_
                       have HB := n2_
                       clear n0_ n1_ n2_
                       obtain ⟨Ao24, co24, eo24⟩ := Kd.R_slice HO_8.out
                       (first | subst eo24 | (injection eo24 with f1_ f2_ f3_; have f4_ := f1_.symm; have f5_ := f3_.symm; clear f1_ f2_ f3_; subst f4_; subst f5_))
                       have p281 : 0 ≤ (x10_1 : Int) := of_decide_eq_true (by first | (with_reducible assumption) | assumption)
                       have q281 : x10_1 < (t278.length : Int) := of_decide_eq_true (by first | (with_reducible assumption) | assumption)
                       obtain ⟨ad281, e281, hx281_0, hx281_1⟩ := at_T45 (Kd.R_reads' HO_8.out).2.2 x10_1 p281 q281
                       cases e281
                       replace p281 := eq_true p281
                       replace q281 := eq_true q281
                       have p282 : 0 ≤ (x9_1 : Int) := of_decide_eq_true (by first | (with_reducible assumption) | assumption)
                       have q282 : x9_1 < (l2.length : Int) := of_decide_eq_true (by first | (with_reducible assumption) | assumption)
                       obtain ⟨ad282, e282, hx282_0⟩ := Kd.at_int HR2.out x9_1 p282 q282
                       have hw282_0 := hx282_0
                       cases e282
                       replace hx282_0 := (HB.out.cell (World.block_lt_of_cell? w _ hx282_0)).trans hx282_0
                       replace p282 := eq_true p282
                       replace q282 := eq_true q282
                       refine start_ (n := 10) (S := fun w' => w'.cell? (ad281.add ((x10_1).toNat * 2)) = some (.int .i32 ((rd_T45 t278 x10_1).f0)) ∧ w'.cell? ⟨(ad281.add ((x10_1).toNat * 2)).block, (ad281.add ((x10_1).toNat * 2)).off + 1, none⟩ = some (.int .i64 ((rd_T45 t278 x10_1).f1)) ∧ w'.cell? (ad282.add (x9_1).toNat) = some (.int .i64 (rd l2 x9_1))) (ds := []) #[false, false, false, false, false, false, false, false, false, false] (by kernel_rfl) rfl rfl ⟨hx281_0, hx281_1, ((HB.out.cell (World.block_lt_of_cell? w _ hw282_0)).trans hw282_0)⟩ (fun hHeld => ?_); refine with_tabW spec_Stand.tab9 spec_Stand.bits9 (fun HT_ HW_ => ?_)
                       generalize wc.drew = w23 at HO_7 HO_8 HB hx281_0 hx281_1 hx282_0 hHeld ⊢
                       refine pure_ (i := 0) (N := some 32) (v := ?_) (a' := ?_) #[true, false, false, false, false, false, false, false, false, false] rfl rfl (any_of HT_.out (by kernel_rfl)) (fun _ _ _ h => h) (Or.inl ⟨by rfl, ?_⟩) ?_ ?_
                       rotate_left
                       · intro w'
                         go_simp
                         with_reducible rfl
                       rotate_left
                       · simp only [Act.put, List.setIfInBounds_toArray, List.set_cons_zero, List.set_cons_succ, i64_w, i32_w]
                         rfl
                       refine pure_ (i := 1) (N := some 33) (v := ?_) (a' := ?_) #[true, true, false, false, false, false, false, false, false, false] rfl rfl (any_of HT_.out (by kernel_rfl)) (fun _ _ _ h => h) (Or.inl ⟨by rfl, ?_⟩) ?_ ?_
                       rotate_left
                       · intro w'
                         go_simp
                         with_reducible rfl
                       rotate_left
                       · simp only [Act.put, List.setIfInBounds_toArray, List.set_cons_zero, List.set_cons_succ, i64_w, i32_w]
                         rfl
                       refine pure_ (i := 2) (N := some 34) (v := ?_) (a' := ?_) #[true, true, true, false, false, false, false, false, false, false] rfl rfl (any_of HT_.out (by kernel_rfl)) (fun _ _ _ h => h) (Or.inl ⟨by rfl, ?_⟩) ?_ ?_
                       rotate_left
                       · intro w'
                         go_simp
                         with_reducible rfl
                       rotate_left
                       · simp only [Act.put, List.setIfInBounds_toArray, List.set_cons_zero, List.set_cons_succ, i64_w, i32_w]
                         rfl
                       refine pure_ (i := 3) (N := some 35) (v := ?_) (a' := ?_) #[true, true, true, true, false, false, false, false, false, false] rfl rfl (any_of HT_.out (by kernel_rfl)) (fun _ _ _ h => h) (Or.inl ⟨by rfl, ?_⟩) ?_ ?_
                       rotate_left
                       · intro w'
                         go_simp
                         with_reducible rfl
                       rotate_left
                       · simp only [Act.put, List.setIfInBounds_toArray, List.set_cons_zero, List.set_cons_succ, i64_w, i32_w]
                         rfl
                       refine pure_ (i := 5) (N := some 37) (v := ?_) (a' := ?_) #[true, true, true, true, false, true, false, false, false, false] rfl rfl (any_of HT_.out (by kernel_rfl)) (fun _ _ _ h => h) (Or.inl ⟨by rfl, ?_⟩) ?_ ?_
                       rotate_left
                       · intro w'
                         go_simp
                         with_reducible rfl
                       rotate_left
                       · simp only [Act.put, List.setIfInBounds_toArray, List.set_cons_zero, List.set_cons_succ, i64_w, i32_w]
                         rfl
                       refine pure_ (i := 6) (N := some 38) (v := ?_) (a' := ?_) #[true, true, true, true, false, true, true, false, false, false] rfl rfl (any_of HT_.out (by kernel_rfl)) (fun _ _ _ h => h) (Or.inl ⟨by rfl, ?_⟩) ?_ ?_
                       rotate_left
                       · intro w'
                         go_simp
                         with_reducible rfl
                       rotate_left
                       · simp only [Act.put, List.setIfInBounds_toArray, List.set_cons_zero, List.set_cons_succ, i64_w, i32_w]
                         rfl
                       refine pure_ (i := 7) (N := some 39) (v := ?_) (a' := ?_) #[true, true, true, true, false, true, true, true, false, false] rfl rfl (any_of HT_.out (by kernel_rfl)) (fun _ _ _ h => h) (Or.inl ⟨by rfl, ?_⟩) ?_ ?_
                       rotate_left
                       · intro w'
                         go_simp
                         with_reducible rfl
                       rotate_left
                       · simp only [Act.put, List.setIfInBounds_toArray, List.set_cons_zero, List.set_cons_succ, i64_w, i32_w]
                         rfl
                       refine take_ (i := 4) (N := some 36) (v := ?_) (a' := ?_) #[true, true, true, true, true, true, true, true, false, false] rfl rfl (take_ofW HT_.out HW_.out (by kernel_rfl)) (fun _ _ _ h => h) (Or.inl ⟨by rfl, ?_⟩) hHeld ?_ ?_
                       rotate_left
                       · rintro w' ⟨s0, s1, s2⟩
                         go_simp
                         with_reducible rfl
                       rotate_left
                       · simp only [Act.put, List.setIfInBounds_toArray, List.set_cons_zero, List.set_cons_succ, i64_w, i32_w]
                         rfl
                       refine take_ (i := 8) (N := some 40) (v := ?_) (a' := ?_) #[true, true, true, true, true, true, true, true, true, false] rfl rfl (take_ofW HT_.out HW_.out (by kernel_rfl)) (fun _ _ _ h => h) (Or.inl ⟨by rfl, ?_⟩) hHeld ?_ ?_
                       rotate_left
                       · rintro w' ⟨s0, s1, s2⟩
                         go_simp
                         with_reducible rfl
                       rotate_left
                       · simp only [Act.put, List.setIfInBounds_toArray, List.set_cons_zero, List.set_cons_succ, i64_w, i32_w]
                         rfl
                       refine pure_ (i := 9) (N := some 41) (v := ?_) (a' := ?_) #[true, true, true, true, true, true, true, true, true, true] rfl rfl (any_of HT_.out (by kernel_rfl)) (fun _ _ _ h => h) (Or.inl ⟨by rfl, ?_⟩) ?_ ?_
                       rotate_left
                       · intro w'
                         go_simp
                         with_reducible rfl
                       rotate_left
                       · simp only [Act.put, List.setIfInBounds_toArray, List.set_cons_zero, List.set_cons_succ, i64_w, i32_w]
                         rfl
                       refine done_ (done_of HT_.out (by kernel_rfl)) ?_
                       try go_wp2
                       have n0_ := Aside0.mk (Kd.R_drew HO_7.out)
                       have n1_ := Aside0.mk (Kd.R_drew HO_8.out)
                       have n2_ := Aside0.mk (below_drew1 HB.out)
                       clear HO_7
                       clear HO_8
                       clear HB
                       have HO_7 := n0_
                       have HO_8 := n1_
                       have HB := n2_
                       clear n0_ n1_ n2_
                       have p283 : 0 ≤ (x10_1 : Int) := of_decide_eq_true (by first | (with_reducible assumption) | assumption)
                       have q283 : x10_1 < (t278.length : Int) := of_decide_eq_true (by first | (with_reducible assumption) | assumption)
                       obtain ⟨ad283, e283, hx283_0, hx283_1⟩ := at_T45 (Kd.R_reads' HO_8.out).2.2 x10_1 p283 q283
                       obtain rfl : ad281 = ad283 := (by injection e283)
                       replace p283 := eq_true p283
                       replace q283 := eq_true q283
                       have p284 : 0 ≤ (x9_1 : Int) := of_decide_eq_true (by first | (with_reducible assumption) | assumption)
                       have q284 : x9_1 < (t275.length : Int) := of_decide_eq_true (by first | (with_reducible assumption) | assumption)
                       obtain ⟨ad284, e284, hx284_0, hx284_1⟩ := at_T45 (Kd.R_reads' HO_7.out).2.2 x9_1 p284 q284
                       cases e284
                       replace p284 := eq_true p284
                       replace q284 := eq_true q284
                       refine start_ (n := 12) (S := fun w' => w'.cell? (ad281.add ((x10_1).toNat * 2)) = some (.int .i32 ((rd_T45 t278 x10_1).f0)) ∧ w'.cell? ⟨(ad281.add ((x10_1).toNat * 2)).block, (ad281.add ((x10_1).toNat * 2)).off + 1, none⟩ = some (.int .i64 ((rd_T45 t278 x10_1).f1)) ∧ w'.cell? (ad284.add ((x9_1).toNat * 2)) = some (.int .i32 ((rd_T45 t275 x9_1).f0)) ∧ w'.cell? ⟨(ad284.add ((x9_1).toNat * 2)).block, (ad284.add ((x9_1).toNat * 2)).off + 1, none⟩ = some (.int .i64 ((rd_T45 t275 x9_1).f1))) (ds := []) #[false, false, false, false, false, false, false, false, false, false, false, false] (by kernel_rfl) rfl rfl ⟨hx283_0, hx283_1, hx284_0, hx284_1⟩ (fun hHeld => ?_); refine with_tabW spec_Stand.tab10 spec_Stand.bits10 (fun HT_ HW_ => ?_)
                       generalize w23.drew = w25 at HO_7 HO_8 HB hx283_0 hx283_1 hx284_0 hx284_1 hHeld ⊢
                       refine pure_ (i := 0) (N := some 42) (v := ?_) (a' := ?_) #[true, false, false, false, false, false, false, false, false, false, false, false] rfl rfl (any_of HT_.out (by kernel_rfl)) (fun _ _ _ h => h) (Or.inl ⟨by rfl, ?_⟩) ?_ ?_
                       rotate_left
                       · intro w'
                         go_simp
                         with_reducible rfl
                       rotate_left
                       · simp only [Act.put, List.setIfInBounds_toArray, List.set_cons_zero, List.set_cons_succ, i64_w, i32_w]
                         rfl
                       refine pure_ (i := 1) (N := some 43) (v := ?_) (a' := ?_) #[true, true, false, false, false, false, false, false, false, false, false, false] rfl rfl (any_of HT_.out (by kernel_rfl)) (fun _ _ _ h => h) (Or.inl ⟨by rfl, ?_⟩) ?_ ?_
                       rotate_left
                       · intro w'
                         go_simp
                         with_reducible rfl
                       rotate_left
                       · simp only [Act.put, List.setIfInBounds_toArray, List.set_cons_zero, List.set_cons_succ, i64_w, i32_w]
                         rfl
                       refine pure_ (i := 2) (N := some 44) (v := ?_) (a' := ?_) #[true, true, true, false, false, false, false, false, false, false, false, false] rfl rfl (any_of HT_.out (by kernel_rfl)) (fun _ _ _ h => h) (Or.inl ⟨by rfl, ?_⟩) ?_ ?_
                       rotate_left
                       · intro w'
                         go_simp
                         with_reducible rfl
                       rotate_left
                       · simp only [Act.put, List.setIfInBounds_toArray, List.set_cons_zero, List.set_cons_succ, i64_w, i32_w]
                         rfl
                       refine pure_ (i := 3) (N := some 45) (v := ?_) (a' := ?_) #[true, true, true, true, false, false, false, false, false, false, false, false] rfl rfl (any_of HT_.out (by kernel_rfl)) (fun _ _ _ h => h) (Or.inl ⟨by rfl, ?_⟩) ?_ ?_
                       rotate_left
                       · intro w'
                         go_simp
                         with_reducible rfl
                       rotate_left
                       · simp only [Act.put, List.setIfInBounds_toArray, List.set_cons_zero, List.set_cons_succ, i64_w, i32_w]
                         rfl
                       refine pure_ (i := 5) (N := some 47) (v := ?_) (a' := ?_) #[true, true, true, true, false, true, false, false, false, false, false, false] rfl rfl (any_of HT_.out (by kernel_rfl)) (fun _ _ _ h => h) (Or.inl ⟨by rfl, ?_⟩) ?_ ?_
                       rotate_left
                       · intro w'
                         go_simp
                         with_reducible rfl
                       rotate_left
                       · simp only [Act.put, List.setIfInBounds_toArray, List.set_cons_zero, List.set_cons_succ, i64_w, i32_w]
                         rfl
                       refine pure_ (i := 6) (N := some 48) (v := ?_) (a' := ?_) #[true, true, true, true, false, true, true, false, false, false, false, false] rfl rfl (any_of HT_.out (by kernel_rfl)) (fun _ _ _ h => h) (Or.inl ⟨by rfl, ?_⟩) ?_ ?_
                       rotate_left
                       · intro w'
                         go_simp
                         with_reducible rfl
                       rotate_left
                       · simp only [Act.put, List.setIfInBounds_toArray, List.set_cons_zero, List.set_cons_succ, i64_w, i32_w]
                         rfl
                       refine pure_ (i := 7) (N := some 49) (v := ?_) (a' := ?_) #[true, true, true, true, false, true, true, true, false, false, false, false] rfl rfl (any_of HT_.out (by kernel_rfl)) (fun _ _ _ h => h) (Or.inl ⟨by rfl, ?_⟩) ?_ ?_
                       rotate_left
                       · intro w'
                         go_simp
                         with_reducible rfl
                       rotate_left
                       · simp only [Act.put, List.setIfInBounds_toArray, List.set_cons_zero, List.set_cons_succ, i64_w, i32_w]
                         rfl
                       refine pure_ (i := 8) (N := some 50) (v := ?_) (a' := ?_) #[true, true, true, true, false, true, true, true, true, false, false, false] rfl rfl (any_of HT_.out (by kernel_rfl)) (fun _ _ _ h => h) (Or.inl ⟨by rfl, ?_⟩) ?_ ?_
                       rotate_left
                       · intro w'
                         go_simp
                         with_reducible rfl
                       rotate_left
                       · simp only [Act.put, List.setIfInBounds_toArray, List.set_cons_zero, List.set_cons_succ, i64_w, i32_w]
                         rfl
                       refine take_ (i := 4) (N := some 46) (v := ?_) (a' := ?_) #[true, true, true, true, true, true, true, true, true, false, false, false] rfl rfl (take_ofW HT_.out HW_.out (by kernel_rfl)) (fun _ _ _ h => h) (Or.inl ⟨by rfl, ?_⟩) hHeld ?_ ?_
                       rotate_left
                       · rintro w' ⟨s0, s1, s2, s3⟩
                         go_simp
                         with_reducible rfl
                       rotate_left
                       · simp only [Act.put, List.setIfInBounds_toArray, List.set_cons_zero, List.set_cons_succ, i64_w, i32_w]
                         rfl
                       refine take_ (i := 9) (N := some 51) (v := ?_) (a' := ?_) #[true, true, true, true, true, true, true, true, true, true, false, false] rfl rfl (take_ofW HT_.out HW_.out (by kernel_rfl)) (fun _ _ _ h => h) (Or.inl ⟨by rfl, ?_⟩) hHeld ?_ ?_
                       rotate_left
                       · rintro w' ⟨s0, s1, s2, s3⟩
                         go_simp
                         with_reducible rfl
                       rotate_left
                       · simp only [Act.put, List.setIfInBounds_toArray, List.set_cons_zero, List.set_cons_succ, i64_w, i32_w]
                         rfl
                       refine one_ (i := 10) (N := some 52) #[true, true, true, true, true, true, true, true, true, true, true, false] rfl rfl (one_of HT_.out (by kernel_rfl)) (by decide) (fun K hK => ?_)
                       refine goes_ Tryd.func25 (by kernel_rfl) rfl #[.int .i32 ((rd_T45 t278 x10_1).f0), .int .i32 ((rd_T45 t275 x9_1).f0)] (by rfl) rfl rfl (by (try simp only [List.map_toArray, List.map_cons, List.map_nil]); first | done | rfl | (simp only [List.length_drop, List.length_take]; rfl)) ?_
                       with_reducible refine (spec_Alike.calls kj9 ((rd_T45 t278 x10_1).f0) ((rd_T45 t275 x9_1).f0) true _ (by first | (with_reducible exact HAMB.out) | exact Amb.below HAMB.out (by repeat (first | (with_reducible first | exact HB.out | apply below_alloc | apply pw_below_drewN | apply below_drew1) | exact HB.out)) | exact Amb.below HAMB.out (by repeat (first | (with_reducible first | exact Below.refl _ _ | apply pw_below_drewN | apply below_drew1 | apply below_alloc)))) A21.out).mono ?_
                       rintro e w26 ⟨rfl, hb⟩
                       have HS0_ := (hb.cell (World.block_lt_of_cell? _ _ (hHeld.1))).trans (hHeld.1)
                       have HS1_ := (hb.cell (World.block_lt_of_cell? _ _ (hHeld.2.1))).trans (hHeld.2.1)
                       have HS2_ := (hb.cell (World.block_lt_of_cell? _ _ (hHeld.2.2.1))).trans (hHeld.2.2.1)
                       have HS3_ := (hb.cell (World.block_lt_of_cell? _ _ (hHeld.2.2.2))).trans (hHeld.2.2.2)
                       refine ⟨_, rfl, ?_⟩
                       have n0_ := Aside0.mk (Kd.R_below (by (with_reducible repeat (first | apply Kd.R_alloc | apply Kd.R_drewN | apply Kd.R_drew)); exact HO_7.out) hb)
                       have n1_ := Aside0.mk (Kd.R_below (by (with_reducible repeat (first | apply Kd.R_alloc | apply Kd.R_drewN | apply Kd.R_drew)); exact HO_8.out) hb)
                       have n2_ := Aside0.mk (below_step (by repeat (first | (with_reducible first | exact HB.out | apply below_alloc | apply pw_below_drewN | apply below_drew1) | exact HB.out)) hb)
                       clear HO_7
                       clear HO_8
                       clear HB
                       have HO_7 := n0_
                       have HO_8 := n1_
                       have HB := n2_
                       clear n0_ n1_ n2_
                       (try clear hb)
                       (try clear hb2)
                       (try clear hk)
                       (try clear hi)
                       refine hK.out _ _ ⟨HS0_, HS1_, HS2_, HS3_⟩ (fun hHeld => ?_)
                       clear hK K
                       refine norm_ (a' := ?_) ?_ ?_
                       rotate_left
                       · show Act.put _ (some 52) _ = _
                         simp only [Act.put, List.setIfInBounds_toArray, List.set_cons_zero, List.set_cons_succ, i64_w, i32_w]
                         rfl
                       refine pure_ (i := 11) (N := some 53) (v := ?_) (a' := ?_) #[true, true, true, true, true, true, true, true, true, true, true, true] rfl rfl (any_of HT_.out (by kernel_rfl)) (fun _ _ _ h => h) (Or.inl ⟨by rfl, ?_⟩) ?_ ?_
                       rotate_left
                       · intro w'
                         go_simp
                         with_reducible rfl
                       rotate_left
                       · simp only [Act.put, List.setIfInBounds_toArray, List.set_cons_zero, List.set_cons_succ, i64_w, i32_w]
                         rfl
                       refine done_ (done_of HT_.out (by kernel_rfl)) ?_
                       try go_wp2
                       go_roundg kj9
                       case measure => have := HK1.out; have := HJ9.out; omega
                       case rel => exact ⟨(wrap64 (x9_1 + 1)), (wrap64 (x10_1 + 1)), (by first | rfl | (simp; done) | (simp [*]; done)), (by first | rfl | (simp; done) | (simp [*]; done)), H', ⟨by have := HK1.out; have := HJ9.out; omega⟩, ⟨by (with_reducible repeat (first | apply Kd.R_alloc | apply Kd.R_drewN | apply Kd.R_drew)); exact HO_7.out⟩, ⟨by (with_reducible repeat (first | apply Kd.R_alloc | apply Kd.R_drewN | apply Kd.R_drew)); exact HO_8.out⟩, ⟨by repeat (first | (with_reducible first | exact HB.out | apply below_alloc | apply pw_below_drewN | apply below_drew1) | exact HB.out)⟩⟩
                     · replace c22 := Bool.eq_false_iff.mpr c22
                       subst c22
                       have H1 : (some false) = some r := by rw [if_neg (show ¬ (false = true) by decide)] at H; exact H
                       clear H
                       have H := H1
                       clear H1
                       obtain rfl := Option.some.inj H
                       try go_wp2
                       have n0_ := Aside0.mk (Kd.R_drew HO_7.out)
                       have n1_ := Aside0.mk (Kd.R_drew HO_8.out)
                       have n2_ := Aside0.mk (below_drew1 HB.out)
                       clear HO_7
                       clear HO_8
                       clear HB
                       have HO_7 := n0_
                       have HO_8 := n1_
                       have HB := n2_
                       clear n0_ n1_ n2_
                       obtain ⟨Ao28, co28, eo28⟩ := Kd.R_slice HO_8.out
                       (first | subst eo28 | (injection eo28 with f1_ f2_ f3_; have f4_ := f1_.symm; have f5_ := f3_.symm; clear f1_ f2_ f3_; subst f4_; subst f5_))
                       have p281 : 0 ≤ (x10_1 : Int) := of_decide_eq_true (by first | (with_reducible assumption) | assumption)
                       have q281 : x10_1 < (t278.length : Int) := of_decide_eq_true (by first | (with_reducible assumption) | assumption)
                       obtain ⟨ad281, e281, hx281_0, hx281_1⟩ := at_T45 (Kd.R_reads' HO_8.out).2.2 x10_1 p281 q281
                       cases e281
                       replace p281 := eq_true p281
                       replace q281 := eq_true q281
                       have p282 : 0 ≤ (x9_1 : Int) := of_decide_eq_true (by first | (with_reducible assumption) | assumption)
                       have q282 : x9_1 < (l2.length : Int) := of_decide_eq_true (by first | (with_reducible assumption) | assumption)
                       obtain ⟨ad282, e282, hx282_0⟩ := Kd.at_int HR2.out x9_1 p282 q282
                       have hw282_0 := hx282_0
                       cases e282
                       replace hx282_0 := (HB.out.cell (World.block_lt_of_cell? w _ hx282_0)).trans hx282_0
                       replace p282 := eq_true p282
                       replace q282 := eq_true q282
                       refine start_ (n := 10) (S := fun w' => w'.cell? (ad281.add ((x10_1).toNat * 2)) = some (.int .i32 ((rd_T45 t278 x10_1).f0)) ∧ w'.cell? ⟨(ad281.add ((x10_1).toNat * 2)).block, (ad281.add ((x10_1).toNat * 2)).off + 1, none⟩ = some (.int .i64 ((rd_T45 t278 x10_1).f1)) ∧ w'.cell? (ad282.add (x9_1).toNat) = some (.int .i64 (rd l2 x9_1))) (ds := []) #[false, false, false, false, false, false, false, false, false, false] (by kernel_rfl) rfl rfl ⟨hx281_0, hx281_1, ((HB.out.cell (World.block_lt_of_cell? w _ hw282_0)).trans hw282_0)⟩ (fun hHeld => ?_); refine with_tabW spec_Stand.tab9 spec_Stand.bits9 (fun HT_ HW_ => ?_)
                       generalize wc.drew = w27 at HO_7 HO_8 HB hx281_0 hx281_1 hx282_0 hHeld ⊢
                       refine pure_ (i := 0) (N := some 32) (v := ?_) (a' := ?_) #[true, false, false, false, false, false, false, false, false, false] rfl rfl (any_of HT_.out (by kernel_rfl)) (fun _ _ _ h => h) (Or.inl ⟨by rfl, ?_⟩) ?_ ?_
                       rotate_left
                       · intro w'
                         go_simp
                         with_reducible rfl
                       rotate_left
                       · simp only [Act.put, List.setIfInBounds_toArray, List.set_cons_zero, List.set_cons_succ, i64_w, i32_w]
                         rfl
                       refine pure_ (i := 1) (N := some 33) (v := ?_) (a' := ?_) #[true, true, false, false, false, false, false, false, false, false] rfl rfl (any_of HT_.out (by kernel_rfl)) (fun _ _ _ h => h) (Or.inl ⟨by rfl, ?_⟩) ?_ ?_
                       rotate_left
                       · intro w'
                         go_simp
                         with_reducible rfl
                       rotate_left
                       · simp only [Act.put, List.setIfInBounds_toArray, List.set_cons_zero, List.set_cons_succ, i64_w, i32_w]
                         rfl
                       refine pure_ (i := 2) (N := some 34) (v := ?_) (a' := ?_) #[true, true, true, false, false, false, false, false, false, false] rfl rfl (any_of HT_.out (by kernel_rfl)) (fun _ _ _ h => h) (Or.inl ⟨by rfl, ?_⟩) ?_ ?_
                       rotate_left
                       · intro w'
                         go_simp
                         with_reducible rfl
                       rotate_left
                       · simp only [Act.put, List.setIfInBounds_toArray, List.set_cons_zero, List.set_cons_succ, i64_w, i32_w]
                         rfl
                       refine pure_ (i := 3) (N := some 35) (v := ?_) (a' := ?_) #[true, true, true, true, false, false, false, false, false, false] rfl rfl (any_of HT_.out (by kernel_rfl)) (fun _ _ _ h => h) (Or.inl ⟨by rfl, ?_⟩) ?_ ?_
                       rotate_left
                       · intro w'
                         go_simp
                         with_reducible rfl
                       rotate_left
                       · simp only [Act.put, List.setIfInBounds_toArray, List.set_cons_zero, List.set_cons_succ, i64_w, i32_w]
                         rfl
                       refine pure_ (i := 5) (N := some 37) (v := ?_) (a' := ?_) #[true, true, true, true, false, true, false, false, false, false] rfl rfl (any_of HT_.out (by kernel_rfl)) (fun _ _ _ h => h) (Or.inl ⟨by rfl, ?_⟩) ?_ ?_
                       rotate_left
                       · intro w'
                         go_simp
                         with_reducible rfl
                       rotate_left
                       · simp only [Act.put, List.setIfInBounds_toArray, List.set_cons_zero, List.set_cons_succ, i64_w, i32_w]
                         rfl
                       refine pure_ (i := 6) (N := some 38) (v := ?_) (a' := ?_) #[true, true, true, true, false, true, true, false, false, false] rfl rfl (any_of HT_.out (by kernel_rfl)) (fun _ _ _ h => h) (Or.inl ⟨by rfl, ?_⟩) ?_ ?_
                       rotate_left
                       · intro w'
                         go_simp
                         with_reducible rfl
                       rotate_left
                       · simp only [Act.put, List.setIfInBounds_toArray, List.set_cons_zero, List.set_cons_succ, i64_w, i32_w]
                         rfl
                       refine pure_ (i := 7) (N := some 39) (v := ?_) (a' := ?_) #[true, true, true, true, false, true, true, true, false, false] rfl rfl (any_of HT_.out (by kernel_rfl)) (fun _ _ _ h => h) (Or.inl ⟨by rfl, ?_⟩) ?_ ?_
                       rotate_left
                       · intro w'
                         go_simp
                         with_reducible rfl
                       rotate_left
                       · simp only [Act.put, List.setIfInBounds_toArray, List.set_cons_zero, List.set_cons_succ, i64_w, i32_w]
                         rfl
                       refine take_ (i := 4) (N := some 36) (v := ?_) (a' := ?_) #[true, true, true, true, true, true, true, true, false, false] rfl rfl (take_ofW HT_.out HW_.out (by kernel_rfl)) (fun _ _ _ h => h) (Or.inl ⟨by rfl, ?_⟩) hHeld ?_ ?_
                       rotate_left
                       · rintro w' ⟨s0, s1, s2⟩
                         go_simp
                         with_reducible rfl
                       rotate_left
                       · simp only [Act.put, List.setIfInBounds_toArray, List.set_cons_zero, List.set_cons_succ, i64_w, i32_w]
                         rfl
                       refine take_ (i := 8) (N := some 40) (v := ?_) (a' := ?_) #[true, true, true, true, true, true, true, true, true, false] rfl rfl (take_ofW HT_.out HW_.out (by kernel_rfl)) (fun _ _ _ h => h) (Or.inl ⟨by rfl, ?_⟩) hHeld ?_ ?_
                       rotate_left
                       · rintro w' ⟨s0, s1, s2⟩
                         go_simp
                         with_reducible rfl
                       rotate_left
                       · simp only [Act.put, List.setIfInBounds_toArray, List.set_cons_zero, List.set_cons_succ, i64_w, i32_w]
                         rfl
                       refine pure_ (i := 9) (N := some 41) (v := ?_) (a' := ?_) #[true, true, true, true, true, true, true, true, true, true] rfl rfl (any_of HT_.out (by kernel_rfl)) (fun _ _ _ h => h) (Or.inl ⟨by rfl, ?_⟩) ?_ ?_
                       rotate_left
                       · intro w'
                         go_simp
                         with_reducible rfl
                       rotate_left
                       · simp only [Act.put, List.setIfInBounds_toArray, List.set_cons_zero, List.set_cons_succ, i64_w, i32_w]
                         rfl
                       refine done_ (done_of HT_.out (by kernel_rfl)) ?_
                       try go_wp2
                       have n0_ := Aside0.mk (Kd.R_drew HO_7.out)
                       have n1_ := Aside0.mk (Kd.R_drew HO_8.out)
                       have n2_ := Aside0.mk (below_drew1 HB.out)
                       clear HO_7
                       clear HO_8
                       clear HB
                       have HO_7 := n0_
                       have HO_8 := n1_
                       have HB := n2_
                       clear n0_ n1_ n2_
                       have p283 : 0 ≤ (x10_1 : Int) := of_decide_eq_true (by first | (with_reducible assumption) | assumption)
                       have q283 : x10_1 < (t278.length : Int) := of_decide_eq_true (by first | (with_reducible assumption) | assumption)
                       obtain ⟨ad283, e283, hx283_0, hx283_1⟩ := at_T45 (Kd.R_reads' HO_8.out).2.2 x10_1 p283 q283
                       obtain rfl : ad281 = ad283 := (by injection e283)
                       replace p283 := eq_true p283
                       replace q283 := eq_true q283
                       have p284 : 0 ≤ (x9_1 : Int) := of_decide_eq_true (by first | (with_reducible assumption) | assumption)
                       have q284 : x9_1 < (t275.length : Int) := of_decide_eq_true (by first | (with_reducible assumption) | assumption)
                       obtain ⟨ad284, e284, hx284_0, hx284_1⟩ := at_T45 (Kd.R_reads' HO_7.out).2.2 x9_1 p284 q284
                       cases e284
                       replace p284 := eq_true p284
                       replace q284 := eq_true q284
                       refine start_ (n := 12) (S := fun w' => w'.cell? (ad281.add ((x10_1).toNat * 2)) = some (.int .i32 ((rd_T45 t278 x10_1).f0)) ∧ w'.cell? ⟨(ad281.add ((x10_1).toNat * 2)).block, (ad281.add ((x10_1).toNat * 2)).off + 1, none⟩ = some (.int .i64 ((rd_T45 t278 x10_1).f1)) ∧ w'.cell? (ad284.add ((x9_1).toNat * 2)) = some (.int .i32 ((rd_T45 t275 x9_1).f0)) ∧ w'.cell? ⟨(ad284.add ((x9_1).toNat * 2)).block, (ad284.add ((x9_1).toNat * 2)).off + 1, none⟩ = some (.int .i64 ((rd_T45 t275 x9_1).f1))) (ds := []) #[false, false, false, false, false, false, false, false, false, false, false, false] (by kernel_rfl) rfl rfl ⟨hx283_0, hx283_1, hx284_0, hx284_1⟩ (fun hHeld => ?_); refine with_tabW spec_Stand.tab10 spec_Stand.bits10 (fun HT_ HW_ => ?_)
                       generalize w27.drew = w29 at HO_7 HO_8 HB hx283_0 hx283_1 hx284_0 hx284_1 hHeld ⊢
                       refine pure_ (i := 0) (N := some 42) (v := ?_) (a' := ?_) #[true, false, false, false, false, false, false, false, false, false, false, false] rfl rfl (any_of HT_.out (by kernel_rfl)) (fun _ _ _ h => h) (Or.inl ⟨by rfl, ?_⟩) ?_ ?_
                       rotate_left
                       · intro w'
                         go_simp
                         with_reducible rfl
                       rotate_left
                       · simp only [Act.put, List.setIfInBounds_toArray, List.set_cons_zero, List.set_cons_succ, i64_w, i32_w]
                         rfl
                       refine pure_ (i := 1) (N := some 43) (v := ?_) (a' := ?_) #[true, true, false, false, false, false, false, false, false, false, false, false] rfl rfl (any_of HT_.out (by kernel_rfl)) (fun _ _ _ h => h) (Or.inl ⟨by rfl, ?_⟩) ?_ ?_
                       rotate_left
                       · intro w'
                         go_simp
                         with_reducible rfl
                       rotate_left
                       · simp only [Act.put, List.setIfInBounds_toArray, List.set_cons_zero, List.set_cons_succ, i64_w, i32_w]
                         rfl
                       refine pure_ (i := 2) (N := some 44) (v := ?_) (a' := ?_) #[true, true, true, false, false, false, false, false, false, false, false, false] rfl rfl (any_of HT_.out (by kernel_rfl)) (fun _ _ _ h => h) (Or.inl ⟨by rfl, ?_⟩) ?_ ?_
                       rotate_left
                       · intro w'
                         go_simp
                         with_reducible rfl
                       rotate_left
                       · simp only [Act.put, List.setIfInBounds_toArray, List.set_cons_zero, List.set_cons_succ, i64_w, i32_w]
                         rfl
                       refine pure_ (i := 3) (N := some 45) (v := ?_) (a' := ?_) #[true, true, true, true, false, false, false, false, false, false, false, false] rfl rfl (any_of HT_.out (by kernel_rfl)) (fun _ _ _ h => h) (Or.inl ⟨by rfl, ?_⟩) ?_ ?_
                       rotate_left
                       · intro w'
                         go_simp
                         with_reducible rfl
                       rotate_left
                       · simp only [Act.put, List.setIfInBounds_toArray, List.set_cons_zero, List.set_cons_succ, i64_w, i32_w]
                         rfl
                       refine pure_ (i := 5) (N := some 47) (v := ?_) (a' := ?_) #[true, true, true, true, false, true, false, false, false, false, false, false] rfl rfl (any_of HT_.out (by kernel_rfl)) (fun _ _ _ h => h) (Or.inl ⟨by rfl, ?_⟩) ?_ ?_
                       rotate_left
                       · intro w'
                         go_simp
                         with_reducible rfl
                       rotate_left
                       · simp only [Act.put, List.setIfInBounds_toArray, List.set_cons_zero, List.set_cons_succ, i64_w, i32_w]
                         rfl
                       refine pure_ (i := 6) (N := some 48) (v := ?_) (a' := ?_) #[true, true, true, true, false, true, true, false, false, false, false, false] rfl rfl (any_of HT_.out (by kernel_rfl)) (fun _ _ _ h => h) (Or.inl ⟨by rfl, ?_⟩) ?_ ?_
                       rotate_left
                       · intro w'
                         go_simp
                         with_reducible rfl
                       rotate_left
                       · simp only [Act.put, List.setIfInBounds_toArray, List.set_cons_zero, List.set_cons_succ, i64_w, i32_w]
                         rfl
                       refine pure_ (i := 7) (N := some 49) (v := ?_) (a' := ?_) #[true, true, true, true, false, true, true, true, false, false, false, false] rfl rfl (any_of HT_.out (by kernel_rfl)) (fun _ _ _ h => h) (Or.inl ⟨by rfl, ?_⟩) ?_ ?_
                       rotate_left
                       · intro w'
                         go_simp
                         with_reducible rfl
                       rotate_left
                       · simp only [Act.put, List.setIfInBounds_toArray, List.set_cons_zero, List.set_cons_succ, i64_w, i32_w]
                         rfl
                       refine pure_ (i := 8) (N := some 50) (v := ?_) (a' := ?_) #[true, true, true, true, false, true, true, true, true, false, false, false] rfl rfl (any_of HT_.out (by kernel_rfl)) (fun _ _ _ h => h) (Or.inl ⟨by rfl, ?_⟩) ?_ ?_
                       rotate_left
                       · intro w'
                         go_simp
                         with_reducible rfl
                       rotate_left
                       · simp only [Act.put, List.setIfInBounds_toArray, List.set_cons_zero, List.set_cons_succ, i64_w, i32_w]
                         rfl
                       refine take_ (i := 4) (N := some 46) (v := ?_) (a' := ?_) #[true, true, true, true, true, true, true, true, true, false, false, false] rfl rfl (take_ofW HT_.out HW_.out (by kernel_rfl)) (fun _ _ _ h => h) (Or.inl ⟨by rfl, ?_⟩) hHeld ?_ ?_
                       rotate_left
                       · rintro w' ⟨s0, s1, s2, s3⟩
                         go_simp
                         with_reducible rfl
                       rotate_left
                       · simp only [Act.put, List.setIfInBounds_toArray, List.set_cons_zero, List.set_cons_succ, i64_w, i32_w]
                         rfl
                       refine take_ (i := 9) (N := some 51) (v := ?_) (a' := ?_) #[true, true, true, true, true, true, true, true, true, true, false, false] rfl rfl (take_ofW HT_.out HW_.out (by kernel_rfl)) (fun _ _ _ h => h) (Or.inl ⟨by rfl, ?_⟩) hHeld ?_ ?_
                       rotate_left
                       · rintro w' ⟨s0, s1, s2, s3⟩
                         go_simp
                         with_reducible rfl
                       rotate_left
                       · simp only [Act.put, List.setIfInBounds_toArray, List.set_cons_zero, List.set_cons_succ, i64_w, i32_w]
                         rfl
                       refine one_ (i := 10) (N := some 52) #[true, true, true, true, true, true, true, true, true, true, true, false] rfl rfl (one_of HT_.out (by kernel_rfl)) (by decide) (fun K hK => ?_)
                       refine goes_ Tryd.func25 (by kernel_rfl) rfl #[.int .i32 ((rd_T45 t278 x10_1).f0), .int .i32 ((rd_T45 t275 x9_1).f0)] (by rfl) rfl rfl (by (try simp only [List.map_toArray, List.map_cons, List.map_nil]); first | done | rfl | (simp only [List.length_drop, List.length_take]; rfl)) ?_
                       with_reducible refine (spec_Alike.calls kj9 ((rd_T45 t278 x10_1).f0) ((rd_T45 t275 x9_1).f0) false _ (by first | (with_reducible exact HAMB.out) | exact Amb.below HAMB.out (by repeat (first | (with_reducible first | exact HB.out | apply below_alloc | apply pw_below_drewN | apply below_drew1) | exact HB.out)) | exact Amb.below HAMB.out (by repeat (first | (with_reducible first | exact Below.refl _ _ | apply pw_below_drewN | apply below_drew1 | apply below_alloc)))) A21.out).mono ?_
                       rintro e w30 ⟨rfl, hb⟩
                       have HS0_ := (hb.cell (World.block_lt_of_cell? _ _ (hHeld.1))).trans (hHeld.1)
                       have HS1_ := (hb.cell (World.block_lt_of_cell? _ _ (hHeld.2.1))).trans (hHeld.2.1)
                       have HS2_ := (hb.cell (World.block_lt_of_cell? _ _ (hHeld.2.2.1))).trans (hHeld.2.2.1)
                       have HS3_ := (hb.cell (World.block_lt_of_cell? _ _ (hHeld.2.2.2))).trans (hHeld.2.2.2)
                       refine ⟨_, rfl, ?_⟩
                       have n0_ := Aside0.mk (Kd.R_below (by (with_reducible repeat (first | apply Kd.R_alloc | apply Kd.R_drewN | apply Kd.R_drew)); exact HO_7.out) hb)
                       have n1_ := Aside0.mk (Kd.R_below (by (with_reducible repeat (first | apply Kd.R_alloc | apply Kd.R_drewN | apply Kd.R_drew)); exact HO_8.out) hb)
                       have n2_ := Aside0.mk (below_step (by repeat (first | (with_reducible first | exact HB.out | apply below_alloc | apply pw_below_drewN | apply below_drew1) | exact HB.out)) hb)
                       clear HO_7
                       clear HO_8
                       clear HB
                       have HO_7 := n0_
                       have HO_8 := n1_
                       have HB := n2_
                       clear n0_ n1_ n2_
                       (try clear hb)
                       (try clear hb2)
                       (try clear hk)
                       (try clear hi)
                       refine hK.out _ _ ⟨HS0_, HS1_, HS2_, HS3_⟩ (fun hHeld => ?_)
                       clear hK K
                       refine norm_ (a' := ?_) ?_ ?_
                       rotate_left
                       · show Act.put _ (some 52) _ = _
                         simp only [Act.put, List.setIfInBounds_toArray, List.set_cons_zero, List.set_cons_succ, i64_w, i32_w]
                         rfl
                       refine pure_ (i := 11) (N := some 53) (v := ?_) (a' := ?_) #[true, true, true, true, true, true, true, true, true, true, true, true] rfl rfl (any_of HT_.out (by kernel_rfl)) (fun _ _ _ h => h) (Or.inl ⟨by rfl, ?_⟩) ?_ ?_
                       rotate_left
                       · intro w'
                         go_simp
                         with_reducible rfl
                       rotate_left
                       · simp only [Act.put, List.setIfInBounds_toArray, List.set_cons_zero, List.set_cons_succ, i64_w, i32_w]
                         rfl
                       refine done_ (done_of HT_.out (by kernel_rfl)) ?_
                       try go_wp2
                       go_ret
                       exact ⟨by first | rfl | (simp [errW_none, errW_some] <;> rfl) | (simp [*, errW_none, errW_some] <;> rfl), by repeat (first | (with_reducible first | exact HB.out | apply below_alloc | apply pw_below_drewN | apply below_drew1) | exact HB.out)⟩
                   · rw [if_neg c20] at H
                     exact absurd H (by simp)
                 · rw [if_neg c19] at H
                   have c19b0 : (((rd_T45 t278 x10_1).f1) == (rd l2 x9_1)) = false := beq_eq_false_iff_ne.mpr c19
                   have c19b1 : (((rd_T45 t278 x10_1).f1) != (rd l2 x9_1)) = true := bne_iff_ne.mpr c19
                   have H' := Aside0.mk H
                   clear H
                   try go_wp2
                   have n0_ := Aside0.mk (Kd.R_drew HO_7.out)
                   have n1_ := Aside0.mk (Kd.R_drew HO_8.out)
                   have n2_ := Aside0.mk (below_drew1 HB.out)
                   clear HO_7
                   clear HO_8
                   clear HB
                   have HO_7 := n0_
                   have HO_8 := n1_
                   have HB := n2_
                   clear n0_ n1_ n2_
                   obtain ⟨Ao32, co32, eo32⟩ := Kd.R_slice HO_8.out
                   (first | subst eo32 | (injection eo32 with f1_ f2_ f3_; have f4_ := f1_.symm; have f5_ := f3_.symm; clear f1_ f2_ f3_; subst f4_; subst f5_))
                   have p281 : 0 ≤ (x10_1 : Int) := of_decide_eq_true (by first | (with_reducible assumption) | assumption)
                   have q281 : x10_1 < (t278.length : Int) := of_decide_eq_true (by first | (with_reducible assumption) | assumption)
                   obtain ⟨ad281, e281, hx281_0, hx281_1⟩ := at_T45 (Kd.R_reads' HO_8.out).2.2 x10_1 p281 q281
                   cases e281
                   replace p281 := eq_true p281
                   replace q281 := eq_true q281
                   have p282 : 0 ≤ (x9_1 : Int) := of_decide_eq_true (by first | (with_reducible assumption) | assumption)
                   have q282 : x9_1 < (l2.length : Int) := of_decide_eq_true (by first | (with_reducible assumption) | assumption)
                   obtain ⟨ad282, e282, hx282_0⟩ := Kd.at_int HR2.out x9_1 p282 q282
                   have hw282_0 := hx282_0
                   cases e282
                   replace hx282_0 := (HB.out.cell (World.block_lt_of_cell? w _ hx282_0)).trans hx282_0
                   replace p282 := eq_true p282
                   replace q282 := eq_true q282
                   refine start_ (n := 10) (S := fun w' => w'.cell? (ad281.add ((x10_1).toNat * 2)) = some (.int .i32 ((rd_T45 t278 x10_1).f0)) ∧ w'.cell? ⟨(ad281.add ((x10_1).toNat * 2)).block, (ad281.add ((x10_1).toNat * 2)).off + 1, none⟩ = some (.int .i64 ((rd_T45 t278 x10_1).f1)) ∧ w'.cell? (ad282.add (x9_1).toNat) = some (.int .i64 (rd l2 x9_1))) (ds := []) #[false, false, false, false, false, false, false, false, false, false] (by kernel_rfl) rfl rfl ⟨hx281_0, hx281_1, ((HB.out.cell (World.block_lt_of_cell? w _ hw282_0)).trans hw282_0)⟩ (fun hHeld => ?_); refine with_tabW spec_Stand.tab9 spec_Stand.bits9 (fun HT_ HW_ => ?_)
                   generalize wc.drew = w31 at HO_7 HO_8 HB hx281_0 hx281_1 hx282_0 hHeld ⊢
                   refine pure_ (i := 0) (N := some 32) (v := ?_) (a' := ?_) #[true, false, false, false, false, false, false, false, false, false] rfl rfl (any_of HT_.out (by kernel_rfl)) (fun _ _ _ h => h) (Or.inl ⟨by rfl, ?_⟩) ?_ ?_
                   rotate_left
                   · intro w'
                     go_simp
                     with_reducible rfl
                   rotate_left
                   · simp only [Act.put, List.setIfInBounds_toArray, List.set_cons_zero, List.set_cons_succ, i64_w, i32_w]
                     rfl
                   refine pure_ (i := 1) (N := some 33) (v := ?_) (a' := ?_) #[true, true, false, false, false, false, false, false, false, false] rfl rfl (any_of HT_.out (by kernel_rfl)) (fun _ _ _ h => h) (Or.inl ⟨by rfl, ?_⟩) ?_ ?_
                   rotate_left
                   · intro w'
                     go_simp
                     with_reducible rfl
                   rotate_left
                   · simp only [Act.put, List.setIfInBounds_toArray, List.set_cons_zero, List.set_cons_succ, i64_w, i32_w]
                     rfl
                   refine pure_ (i := 2) (N := some 34) (v := ?_) (a' := ?_) #[true, true, true, false, false, false, false, false, false, false] rfl rfl (any_of HT_.out (by kernel_rfl)) (fun _ _ _ h => h) (Or.inl ⟨by rfl, ?_⟩) ?_ ?_
                   rotate_left
                   · intro w'
                     go_simp
                     with_reducible rfl
                   rotate_left
                   · simp only [Act.put, List.setIfInBounds_toArray, List.set_cons_zero, List.set_cons_succ, i64_w, i32_w]
                     rfl
                   refine pure_ (i := 3) (N := some 35) (v := ?_) (a' := ?_) #[true, true, true, true, false, false, false, false, false, false] rfl rfl (any_of HT_.out (by kernel_rfl)) (fun _ _ _ h => h) (Or.inl ⟨by rfl, ?_⟩) ?_ ?_
                   rotate_left
                   · intro w'
                     go_simp
                     with_reducible rfl
                   rotate_left
                   · simp only [Act.put, List.setIfInBounds_toArray, List.set_cons_zero, List.set_cons_succ, i64_w, i32_w]
                     rfl
                   refine pure_ (i := 5) (N := some 37) (v := ?_) (a' := ?_) #[true, true, true, true, false, true, false, false, false, false] rfl rfl (any_of HT_.out (by kernel_rfl)) (fun _ _ _ h => h) (Or.inl ⟨by rfl, ?_⟩) ?_ ?_
                   rotate_left
                   · intro w'
                     go_simp
                     with_reducible rfl
                   rotate_left
                   · simp only [Act.put, List.setIfInBounds_toArray, List.set_cons_zero, List.set_cons_succ, i64_w, i32_w]
                     rfl
                   refine pure_ (i := 6) (N := some 38) (v := ?_) (a' := ?_) #[true, true, true, true, false, true, true, false, false, false] rfl rfl (any_of HT_.out (by kernel_rfl)) (fun _ _ _ h => h) (Or.inl ⟨by rfl, ?_⟩) ?_ ?_
                   rotate_left
                   · intro w'
                     go_simp
                     with_reducible rfl
                   rotate_left
                   · simp only [Act.put, List.setIfInBounds_toArray, List.set_cons_zero, List.set_cons_succ, i64_w, i32_w]
                     rfl
                   refine pure_ (i := 7) (N := some 39) (v := ?_) (a' := ?_) #[true, true, true, true, false, true, true, true, false, false] rfl rfl (any_of HT_.out (by kernel_rfl)) (fun _ _ _ h => h) (Or.inl ⟨by rfl, ?_⟩) ?_ ?_
                   rotate_left
                   · intro w'
                     go_simp
                     with_reducible rfl
                   rotate_left
                   · simp only [Act.put, List.setIfInBounds_toArray, List.set_cons_zero, List.set_cons_succ, i64_w, i32_w]
                     rfl
                   refine take_ (i := 4) (N := some 36) (v := ?_) (a' := ?_) #[true, true, true, true, true, true, true, true, false, false] rfl rfl (take_ofW HT_.out HW_.out (by kernel_rfl)) (fun _ _ _ h => h) (Or.inl ⟨by rfl, ?_⟩) hHeld ?_ ?_
                   rotate_left
                   · rintro w' ⟨s0, s1, s2⟩
                     go_simp
                     with_reducible rfl
                   rotate_left
                   · simp only [Act.put, List.setIfInBounds_toArray, List.set_cons_zero, List.set_cons_succ, i64_w, i32_w]
                     rfl
                   refine take_ (i := 8) (N := some 40) (v := ?_) (a' := ?_) #[true, true, true, true, true, true, true, true, true, false] rfl rfl (take_ofW HT_.out HW_.out (by kernel_rfl)) (fun _ _ _ h => h) (Or.inl ⟨by rfl, ?_⟩) hHeld ?_ ?_
                   rotate_left
                   · rintro w' ⟨s0, s1, s2⟩
                     go_simp
                     with_reducible rfl
                   rotate_left
                   · simp only [Act.put, List.setIfInBounds_toArray, List.set_cons_zero, List.set_cons_succ, i64_w, i32_w]
                     rfl
                   refine pure_ (i := 9) (N := some 41) (v := ?_) (a' := ?_) #[true, true, true, true, true, true, true, true, true, true] rfl rfl (any_of HT_.out (by kernel_rfl)) (fun _ _ _ h => h) (Or.inl ⟨by rfl, ?_⟩) ?_ ?_
                   rotate_left
                   · intro w'
                     go_simp
                     with_reducible rfl
                   rotate_left
                   · simp only [Act.put, List.setIfInBounds_toArray, List.set_cons_zero, List.set_cons_succ, i64_w, i32_w]
                     rfl
                   refine done_ (done_of HT_.out (by kernel_rfl)) ?_
                   try go_wp2
                   go_roundg kj9
                   case measure => have := HK1.out; have := HJ9.out; omega
                   case rel => exact ⟨(x9_1), (wrap64 (x10_1 + 1)), (by first | rfl | (simp; done) | (simp [*]; done)), (by first | rfl | (simp; done) | (simp [*]; done)), H', ⟨by have := HK1.out; have := HJ9.out; omega⟩, ⟨by (with_reducible repeat (first | apply Kd.R_alloc | apply Kd.R_drewN | apply Kd.R_drew)); exact HO_7.out⟩, ⟨by (with_reducible repeat (first | apply Kd.R_alloc | apply Kd.R_drewN | apply Kd.R_drew)); exact HO_8.out⟩, ⟨by repeat (first | (with_reducible first | exact HB.out | apply below_alloc | apply pw_below_drewN | apply below_drew1) | exact HB.out)⟩⟩
               · rw [if_neg c18] at H
                 exact absurd H (by simp)
             · rw [if_neg c17] at H
               exact absurd H (by simp)
           · rw [if_neg c16] at H
             exact absurd H (by simp)
         · rw [if_neg c15] at H
           exact absurd H (by simp)
       · replace c14 := Bool.eq_false_iff.mpr c14
         subst c14
         have H1 : (some (x9_1 == (l2.length : Int))) = some r := by rw [if_neg (show ¬ (false = true) by decide)] at H; exact H
         clear H
         have H := H1
         clear H1
         obtain rfl := Option.some.inj H
         go_wp2
         go_ret
         exact ⟨by first | rfl | (simp [errW_none, errW_some] <;> rfl) | (simp [*, errW_none, errW_some] <;> rfl), by repeat (first | (with_reducible first | exact HB.out | apply below_alloc | apply pw_below_drewN | apply below_drew1) | exact HB.out)⟩
 · rw [if_neg c6] at H
   have c6b0 : ((l2.length : Int) == (t275.length : Int)) = false := beq_eq_false_iff_ne.mpr c6
   have c6b1 : ((l2.length : Int) != (t275.length : Int)) = true := bne_iff_ne.mpr c6
   have c6b2 : (l2.length == t275.length) = false := by first | simpa using c6 | (simp at c6 ⊢; omega)
   obtain rfl := Option.some.inj H
   go_enter Tryd.func17, Tryd.ntmps17
   go_wp2_with (first | ((with_reducible refine gate_callee (f := 19) rfl ?_); refine goesL_ (some 12) rfl rfl Tryd.func19 (by kernel_rfl) rfl #[.string a0] rfl (by (try simp only [List.map_toArray, List.map_cons, List.map_nil]); first | done | rfl | (simp only [List.length_drop, List.length_take]; rfl)) ?_; (with_reducible refine (spec_Letters.calls a0 t275 _ A4.out).mono ?_); rintro e w33 ⟨v276, rfl, ho0, hb⟩; refine ⟨_, rfl, ?_⟩; have n0_ := Aside0.mk (Kd.R_lower ho0 (below_size (by repeat (first | (with_reducible first | exact HB.out | apply below_alloc | apply pw_below_drewN | apply below_drew1) | exact HB.out)))); have n1_ := Aside0.mk (below_step (by repeat (first | (with_reducible first | exact HB.out | apply below_alloc | apply pw_below_drewN | apply below_drew1) | exact HB.out)) hb); clear HB; have HO277 := n0_; have HB := n1_; clear n0_ n1_; (try clear hb); (try clear hb2); (try clear hk); (try clear hi); (try clear ho0)) | ((with_reducible refine gate_callee (f := 19) rfl ?_); refine goesL_ (some 14) rfl rfl Tryd.func19 (by kernel_rfl) rfl #[.string a1] rfl (by (try simp only [List.map_toArray, List.map_cons, List.map_nil]); first | done | rfl | (simp only [List.length_drop, List.length_take]; rfl)) ?_; (with_reducible refine (spec_Letters.calls a1 t278 _ A5.out).mono ?_); rintro e w34 ⟨v279, rfl, ho0, hb⟩; refine ⟨_, rfl, ?_⟩; have n0_ := Aside0.mk (Kd.R_elder' (by (with_reducible repeat (first | apply Kd.R_alloc | apply Kd.R_drewN | apply Kd.R_drew)); exact HO277.out) (Kd.R_base ho0) hb); have n1_ := Aside0.mk (Kd.R_lower (Kd.R_new' ho0 (Kd.R_lt (by (with_reducible repeat (first | apply Kd.R_alloc | apply Kd.R_drewN | apply Kd.R_drew)); exact HO277.out))) (below_size (by repeat (first | (with_reducible first | exact HB.out | apply below_alloc | apply pw_below_drewN | apply below_drew1) | exact HB.out)))); have n2_ := Aside0.mk (below_step (by repeat (first | (with_reducible first | exact HB.out | apply below_alloc | apply pw_below_drewN | apply below_drew1) | exact HB.out)) hb); clear HO277; clear HB; have HO277 := n0_; have HO280 := n1_; have HB := n2_; clear n0_ n1_ n2_; (try clear hb); (try clear hb2); (try clear hk); (try clear hi); (try clear ho0); obtain ⟨Ao35, co35, eo35⟩ := Kd.R_slice HO277.out; subst eo35))
   go_ret
   exact ⟨by first | rfl | (simp [errW_none, errW_some] <;> rfl) | (simp [*, errW_none, errW_some] <;> rfl), by repeat (first | (with_reducible first | exact HB.out | apply below_alloc | apply pw_below_drewN | apply below_drew1) | exact HB.out)⟩

end Go.Proofs.YtgeimklpcfepaaaDoor.P
namespace Go.Proofs.YtgeimklpcfepaaaDoor.P
open Go.RowKit Go.Proofs.YtgeimklpcfepaaaDoorW.PrintWords Go.Proofs.YtgeimklpcfepaaaDoorW.PrintLast Go.Proofs.YtgeimklpcfepaaaDoorW.PrintMore
attribute [local go_sem] max2_int min2_int max_two min_two max_three min_three max_four min_four   -- for this text's walks alone
set_option linter.unusedVariables false
set_option linter.unusedSimpArgs false

/-! ### laws_FnPlaces: function 7 -/
mutual
def laws_FnPlaces.j0 : Nat → ByteArray → List ByteArray → Bool → Option (Bool)
 | 0, _, _, _ => none
 | k + 1, x0, x1, x15 => if x15 = true then (some true) else ((spec_Short.f k x0 x1).bind fun t287 => (if t287 = true then ((impl_Find.f k x0 x1).bind fun t288 => ((spec_Found.f k x0 x1).bind fun t291 => (if (t288.length : Int) = (t291.length : Int) then (laws_FnPlaces.l0 k x0 x1 t288 0) else (some false)))) else (some true)))
def laws_FnPlaces.l0 : Nat → ByteArray → List ByteArray → List (S33) → Int → Option (Bool)
 | 0, _, _, _, _ => none
 | k + 1, x0, x1, x5, x6 => if x6 < (x5.length : Int) then (if 0 ≤ x6 then (if ((rd_T33 x5 x6).f1) < 0 then (some false) else (if ((rd_T33 x5 x6).f1) ≥ (x1.length : Int) then (some false) else (if 0 ≤ ((rd_T33 x5 x6).f1) then (if ((rd_T33 x5 x6).f1) < (x1.length : Int) then (if (rdOf ByteArray.empty x1 ((rd_T33 x5 x6).f1)).toList = ((rd_T33 x5 x6).f0).toList then ((spec_Stand.f k x0 ((rd_T33 x5 x6).f0) ((rd_T33 x5 x6).f2)).bind fun t297 => (if t297 = true then (laws_FnPlaces.l0 k x0 x1 x5 (wrap64 (x6 + 1))) else (some false))) else (some false)) else (none)) else (none)))) else (none)) else (some true)
end
def laws_FnPlaces.f (k : Nat) (a0 : ByteArray) (l1 : List ByteArray) : Option (Bool) := if (a0.size : Int) > 2147483647 then (laws_FnPlaces.j0 k a0 l1 true) else ((laws_zzFits1.f k l1).bind fun t286 => (laws_FnPlaces.j0 k a0 l1 (!t286)))
theorem laws_FnPlaces.mono_l : ∀ k, (∀ y0 y1 y2, LeO (laws_FnPlaces.j0 k y0 y1 y2) (laws_FnPlaces.j0 (k + 1) y0 y1 y2)) ∧ (∀ y0 y1 y2 y3, LeO (laws_FnPlaces.l0 k y0 y1 y2 y3) (laws_FnPlaces.l0 (k + 1) y0 y1 y2 y3))
 | 0 => ⟨fun _ _ _ r h => by simp [laws_FnPlaces.j0] at h, fun _ _ _ _ r h => by simp [laws_FnPlaces.l0] at h⟩
 | k + 1 => by
  obtain ⟨ih0, ih1⟩ := laws_FnPlaces.mono_l k
  refine ⟨?_, ?_⟩
  · intro y0 y1 y2
    unfold laws_FnPlaces.j0
    repeat' first
    | (with_reducible exact ih0 _ _ _)
    | (with_reducible exact ih1 _ _ _ _)
    | (with_reducible exact impl_Find.mono _ _ _)
    | (with_reducible exact laws_zzFits1.mono _ _)
    | (with_reducible exact spec_Found.mono _ _ _)
    | (with_reducible exact spec_Short.mono _ _ _)
    | (with_reducible exact spec_Stand.mono _ _ _ _)
    | (with_reducible exact LeO.refl _)
    | (with_reducible exact LeO.none _)
    | (with_reducible refine LeO.ite ?_ ?_)
    | (with_reducible refine LeO.bind ?_ (fun _ => ?_))
    | exact ih0 _ _ _
    | exact ih1 _ _ _ _
    | exact impl_Find.mono _ _ _
    | exact laws_zzFits1.mono _ _
    | exact spec_Found.mono _ _ _
    | exact spec_Short.mono _ _ _
    | exact spec_Stand.mono _ _ _ _
    | exact LeO.none _
    | refine LeO.ite ?_ ?_
    | refine LeO.bind ?_ (fun _ => ?_)
  · intro y0 y1 y2 y3
    unfold laws_FnPlaces.l0
    repeat' first
    | (with_reducible exact ih0 _ _ _)
    | (with_reducible exact ih1 _ _ _ _)
    | (with_reducible exact impl_Find.mono _ _ _)
    | (with_reducible exact laws_zzFits1.mono _ _)
    | (with_reducible exact spec_Found.mono _ _ _)
    | (with_reducible exact spec_Short.mono _ _ _)
    | (with_reducible exact spec_Stand.mono _ _ _ _)
    | (with_reducible exact LeO.refl _)
    | (with_reducible exact LeO.none _)
    | (with_reducible refine LeO.ite ?_ ?_)
    | (with_reducible refine LeO.bind ?_ (fun _ => ?_))
    | exact ih0 _ _ _
    | exact ih1 _ _ _ _
    | exact impl_Find.mono _ _ _
    | exact laws_zzFits1.mono _ _
    | exact spec_Found.mono _ _ _
    | exact spec_Short.mono _ _ _
    | exact spec_Stand.mono _ _ _ _
    | exact LeO.none _
    | refine LeO.ite ?_ ?_
    | refine LeO.bind ?_ (fun _ => ?_)
theorem laws_FnPlaces.mono : ∀ a0 a1 k, LeO (laws_FnPlaces.f k a0 a1) (laws_FnPlaces.f (k + 1) a0 a1) := by
 intro a0 a1 k
 obtain ⟨ih0, ih1⟩ := laws_FnPlaces.mono_l k
 unfold laws_FnPlaces.f
 repeat' first
  | (with_reducible exact ih0 _ _ _)
  | (with_reducible exact ih1 _ _ _ _)
  | (with_reducible exact impl_Find.mono _ _ _)
  | (with_reducible exact laws_zzFits1.mono _ _)
  | (with_reducible exact spec_Found.mono _ _ _)
  | (with_reducible exact spec_Short.mono _ _ _)
  | (with_reducible exact spec_Stand.mono _ _ _ _)
  | (with_reducible exact LeO.refl _)
  | (with_reducible exact LeO.none _)
  | (with_reducible refine LeO.ite ?_ ?_)
  | (with_reducible refine LeO.bind ?_ (fun _ => ?_))
  | exact ih0 _ _ _
  | exact ih1 _ _ _ _
  | exact impl_Find.mono _ _ _
  | exact laws_zzFits1.mono _ _
  | exact spec_Found.mono _ _ _
  | exact spec_Short.mono _ _ _
  | exact spec_Stand.mono _ _ _ _
  | exact LeO.none _
  | refine LeO.ite ?_ ?_
  | refine LeO.bind ?_ (fun _ => ?_)
def laws_FnPlaces.T12 : Bool × List (List Nat × List Nat) := (true, [([], []), ([0], [0]), ([1], [1]), ([2], [2]), ([3], [3]), ([4, 3], [3, 4]), ([3], [3]), ([6, 3], [3, 6]), ([5, 7, 3], [3, 5, 7]), ([3, 8], [3, 8]), ([9, 3], [9]), ([10], [10]), ([10], [10]), ([12, 10], [10, 12]), ([11, 13, 10], [10, 11, 13]), ([14, 10], [10, 14]), ([10], [10]), ([16, 10], [10, 16]), ([15, 17, 10], [10, 15, 17]), ([10, 18], [10, 18]), ([19, 10], [19]), ([20], [20]), ([20], [20]), ([22, 20], [20, 22]), ([20], [20]), ([24, 20], [20, 24]), ([21, 23, 25, 20, 20], [20, 21, 23, 25]), ([26, 20], [20, 26]), ([20, 27], [20, 27])])
def laws_FnPlaces.B12 : List Nat := [0, 1, 3, 7, 15, 31, 15, 79, 255, 511, 1023, 2047, 2047, 6143, 16383, 32767, 2047, 67583, 262143, 524287, 1048575, 2097151, 2097151, 6291455, 2097151, 18874367, 67108863, 134217727, 268435455]
theorem laws_FnPlaces.tab12 : rtab .any (opsOf Tryd.f7 12) = laws_FnPlaces.T12 := by kernel_rfl
theorem laws_FnPlaces.bits12 : waitsOk laws_FnPlaces.T12.2 laws_FnPlaces.B12 = true := by kernel_rfl
set_option maxHeartbeats 8000000 in
set_option maxRecDepth 100000 in
theorem laws_FnPlaces.calls (k : Nat) (a0 : ByteArray) (A1 : Option Addr) (c1 : Nat) (l1 : List ByteArray) (r : Bool) (w : World) (hr1 : Kd.C Kd.string w A1 l1.length l1) (hc1 : l1.length ≤ c1) (hA_ : Amb w) (h : laws_FnPlaces.f k a0 l1 = some r) :
 Calls Tryd.prog 7 #[.string a0, .slice A1 l1.length c1] w fun e w' => e = .returned (.bool r) ∧ Below w.heap.size w w' := by
 have hu33 := Tryd.underlying33
 have HR1 := Aside0.mk hr1
 have HC1 := Aside0.mk hc1
 clear hr1 hc1
 have HAMB := Aside0.mk hA_
 clear hA_
 have HB := Aside0.mk (Below.refl w.heap.size w)
 have H : (if (a0.size : Int) > 2147483647 then (laws_FnPlaces.j0 k a0 l1 true) else ((laws_zzFits1.f k l1).bind fun t286 => (laws_FnPlaces.j0 k a0 l1 (!t286)))) = some r := h
 clear h
 have HC3 := Aside0.mk H
 clear H
 go_enter Tryd.func7, Tryd.ntmps7
 go_upto_region 1 with (fail)
 go_cut [15] (fun v15 wc => ∃ (kq : Nat) (x15_2 : Bool), v15 = .bool x15_2 ∧ Aside0 (laws_FnPlaces.j0 kq a0 l1 x15_2 = some r) ∧ Aside0 (kq ≤ k) ∧ Aside0 (Below w.heap.size w wc))
 case first =>
  have H := HC3.out
  clear HC3
  by_cases c4 : (a0.size : Int) > 2147483647
  · rw [if_pos c4] at H
    have c4b0 : decide (2147483647 < (a0.size : Int)) = true := decide_eq_true c4
    have c4b1 : decide (2147483647 < a0.size) = true := decide_eq_true (by omega)
    clear c4
    (first | rw [c4b0] | (simp only [i64_w, i32_w]; rw [c4b0]) | skip)
    have H' := Aside0.mk H
    clear H
    go_wp2
    go_meet
    case rel => exact ⟨_, (true), (by first | rfl | (simp; done) | (simp [*]; done)), H', ⟨by first | omega | exact Nat.le_refl _⟩, ⟨by repeat (first | (with_reducible first | exact HB.out | apply below_alloc | apply pw_below_drewN | apply below_drew1) | exact HB.out)⟩⟩
  · rw [if_neg c4] at H
    have c4b0 : decide (2147483647 < (a0.size : Int)) = false := decide_eq_false c4
    have c4b1 : decide (2147483647 < a0.size) = false := decide_eq_false (by omega)
    clear c4
    (first | rw [c4b0] | (simp only [i64_w, i32_w]; rw [c4b0]) | skip)
    replace H := Option.bind_eq_some_iff.mp H
    obtain ⟨t286, A50, H⟩ := H
    replace H : (laws_FnPlaces.j0 k a0 l1 (!t286)) = some r := H
    have A5 := Aside0.mk A50
    clear A50
    have H' := Aside0.mk H
    clear H
    go_wp2_with (first | (go_at_call 8; (with_reducible refine (laws_zzFits1.calls k _ _ l1 t286 _ ?side1 ?side2 A5.out).mono ?_); (case side1 => repeat (first | exact (Kd.C_below HR1.out HB.out) | (with_reducible refine Kd.C_alloc ?_ _) | (with_reducible refine Kd.C_drewN ?_ _) | (with_reducible refine Kd.C_drew ?_))); (case side2 => exact HC1.out); rintro e w' ⟨rfl, ⟨nd, rfl⟩⟩))
    go_meet
    case rel => exact ⟨_, (!t286), (by first | rfl | (simp; done) | (simp [*]; done)), H', ⟨by first | omega | exact Nat.le_refl _⟩, ⟨by repeat (first | (with_reducible first | exact HB.out | apply below_alloc | apply pw_below_drewN | apply below_drew1) | exact HB.out)⟩⟩
 case rest =>
  clear HC3
  try clear c1
  try clear p2
  try clear c4
  try clear c4b0
  try clear c4b1
  obtain ⟨kq, x15_2, rfl, HA, HJ2, HB⟩ := hcut
  cases kq with
  | zero => exact absurd HA.out (by simp [laws_FnPlaces.j0])
  | succ kj2 =>
   have H := HA.out
   clear HA
   simp only [laws_FnPlaces.j0] at H
   by_cases c6 : x15_2 = true
   · subst c6
     have H1 : (some true) = some r := by rw [if_pos rfl] at H; exact H
     clear H
     have H := H1
     clear H1
     obtain rfl := Option.some.inj H
     go_wp2
     go_ret
     exact ⟨by first | rfl | (simp [errW_none, errW_some] <;> rfl) | (simp [*, errW_none, errW_some] <;> rfl), by repeat (first | (with_reducible first | exact HB.out | apply below_alloc | apply pw_below_drewN | apply below_drew1) | exact HB.out)⟩
   · replace c6 := Bool.eq_false_iff.mpr c6
     subst c6
     have H1 : ((spec_Short.f kj2 a0 l1).bind fun t287 => (if t287 = true then ((impl_Find.f kj2 a0 l1).bind fun t288 => ((spec_Found.f kj2 a0 l1).bind fun t291 => (if (t288.length : Int) = (t291.length : Int) then (laws_FnPlaces.l0 kj2 a0 l1 t288 0) else (some false)))) else (some true))) = some r := by rw [if_neg (show ¬ (false = true) by decide)] at H; exact H
     clear H
     have H := H1
     clear H1
     replace H := Option.bind_eq_some_iff.mp H
     obtain ⟨t287, A70, H⟩ := H
     replace H : (if t287 = true then ((impl_Find.f kj2 a0 l1).bind fun t288 => ((spec_Found.f kj2 a0 l1).bind fun t291 => (if (t288.length : Int) = (t291.length : Int) then (laws_FnPlaces.l0 kj2 a0 l1 t288 0) else (some false)))) else (some true)) = some r := H
     have A7 := Aside0.mk A70
     clear A70
     by_cases c8 : t287 = true
     · subst c8
       have H1 : ((impl_Find.f kj2 a0 l1).bind fun t288 => ((spec_Found.f kj2 a0 l1).bind fun t291 => (if (t288.length : Int) = (t291.length : Int) then (laws_FnPlaces.l0 kj2 a0 l1 t288 0) else (some false)))) = some r := by rw [if_pos rfl] at H; exact H
       clear H
       have H := H1
       clear H1
       replace H := Option.bind_eq_some_iff.mp H
       obtain ⟨t288, A90, H⟩ := H
       replace H : ((spec_Found.f kj2 a0 l1).bind fun t291 => (if (t288.length : Int) = (t291.length : Int) then (laws_FnPlaces.l0 kj2 a0 l1 t288 0) else (some false))) = some r := H
       have A9 := Aside0.mk A90
       clear A90
       replace H := Option.bind_eq_some_iff.mp H
       obtain ⟨t291, A100, H⟩ := H
       replace H : (if (t288.length : Int) = (t291.length : Int) then (laws_FnPlaces.l0 kj2 a0 l1 t288 0) else (some false)) = some r := H
       have A10 := Aside0.mk A100
       clear A100
       by_cases c11 : (t288.length : Int) = (t291.length : Int)
       · rw [if_pos c11] at H
         have c11b0 : ((t288.length : Int) == (t291.length : Int)) = true := beq_iff_eq.mpr c11
         have c11b1 : ((t288.length : Int) != (t291.length : Int)) = false := bne_eq_false_iff_eq.mpr c11
         have c11b2 : (t288.length == t291.length) = true := by first | simpa using c11 | (simp at c11 ⊢; omega)
         clear c11
         have H' := Aside0.mk H
         clear H
         go_wp2_with (first | ((with_reducible refine gate_callee (f := 9) rfl ?_); refine goesL_ (some 18) rfl rfl Tryd.func9 (by kernel_rfl) rfl #[.string a0, .slice A1 l1.length c1] rfl (by (try simp only [List.map_toArray, List.map_cons, List.map_nil]); first | done | rfl | (simp only [List.length_drop, List.length_take]; rfl)) ?_; (with_reducible refine (spec_Short.calls kj2 a0 _ _ l1 true _ ?side1 ?side2 A7.out).mono ?_); (case side1 => repeat (first | exact (Kd.C_below HR1.out HB.out) | (with_reducible refine Kd.C_alloc ?_ _) | (with_reducible refine Kd.C_drewN ?_ _) | (with_reducible refine Kd.C_drew ?_))); (case side2 => exact HC1.out); rintro e w12 ⟨rfl, hb⟩; refine ⟨_, rfl, ?_⟩; have n0_ := Aside0.mk (below_step (by repeat (first | (with_reducible first | exact HB.out | apply below_alloc | apply pw_below_drewN | apply below_drew1) | exact HB.out)) hb); clear HB; have HB := n0_; clear n0_; (try clear hb); (try clear hb2); (try clear hk); (try clear hi)) | ((with_reducible refine gate_callee (f := 15) rfl ?_); refine goesL_ (some 22) rfl rfl Tryd.func15 (by kernel_rfl) rfl #[.string a0, .slice A1 l1.length c1] rfl (by (try simp only [List.map_toArray, List.map_cons, List.map_nil]); first | done | rfl | (simp only [List.length_drop, List.length_take]; rfl)) ?_; (with_reducible refine (impl_Find.calls kj2 a0 _ _ l1 t288 _ ?side1 ?side2 (by first | (with_reducible exact HAMB.out) | exact Amb.below HAMB.out (by repeat (first | (with_reducible first | exact HB.out | apply below_alloc | apply pw_below_drewN | apply below_drew1) | exact HB.out)) | exact Amb.below HAMB.out (by repeat (first | (with_reducible first | exact Below.refl _ _ | apply pw_below_drewN | apply below_drew1 | apply below_alloc)))) A9.out).mono ?_); (case side1 => repeat (first | exact (Kd.C_below HR1.out HB.out) | (with_reducible refine Kd.C_alloc ?_ _) | (with_reducible refine Kd.C_drewN ?_ _) | (with_reducible refine Kd.C_drew ?_))); (case side2 => exact HC1.out); rintro e w13 ⟨v289, rfl, ho0, hb⟩; refine ⟨_, rfl, ?_⟩; have n0_ := Aside0.mk (Kd.S_lower ho0 (below_size (by repeat (first | (with_reducible first | exact HB.out | apply below_alloc | apply pw_below_drewN | apply below_drew1) | exact HB.out)))); have n1_ := Aside0.mk (below_step (by repeat (first | (with_reducible first | exact HB.out | apply below_alloc | apply pw_below_drewN | apply below_drew1) | exact HB.out)) hb); clear HB; have HO290 := n0_; have HB := n1_; clear n0_ n1_; (try clear hb); (try clear hb2); (try clear hk); (try clear hi); (try clear ho0); obtain ⟨Ao14, co14, eo14⟩ := Kd.S_slice HO290.out; subst eo14) | ((with_reducible refine gate_callee (f := 12) rfl ?_); refine goesL_ (some 27) rfl rfl Tryd.func12 (by kernel_rfl) rfl #[.string a0, .slice A1 l1.length c1] rfl (by (try simp only [List.map_toArray, List.map_cons, List.map_nil]); first | done | rfl | (simp only [List.length_drop, List.length_take]; rfl)) ?_; (with_reducible refine (spec_Found.calls kj2 a0 _ _ l1 t291 _ ?side1 ?side2 (by first | (with_reducible exact HAMB.out) | exact Amb.below HAMB.out (by repeat (first | (with_reducible first | exact HB.out | apply below_alloc | apply pw_below_drewN | apply below_drew1) | exact HB.out)) | exact Amb.below HAMB.out (by repeat (first | (with_reducible first | exact Below.refl _ _ | apply pw_below_drewN | apply below_drew1 | apply below_alloc)))) A10.out).mono ?_); (case side1 => repeat (first | exact (Kd.C_below HR1.out HB.out) | (with_reducible refine Kd.C_alloc ?_ _) | (with_reducible refine Kd.C_drewN ?_ _) | (with_reducible refine Kd.C_drew ?_))); (case side2 => exact HC1.out); rintro e w15 ⟨v292, rfl, ho0, hb⟩; refine ⟨_, rfl, ?_⟩; have n0_ := Aside0.mk (Kd.S_elder' (by (with_reducible repeat (first | apply Kd.S_alloc | apply Kd.S_drewN | apply Kd.S_drew)); exact HO290.out) (Kd.S_base ho0) hb); have n1_ := Aside0.mk (Kd.S_lower (Kd.S_new' ho0 (Kd.S_lt (by (with_reducible repeat (first | apply Kd.S_alloc | apply Kd.S_drewN | apply Kd.S_drew)); exact HO290.out))) (below_size (by repeat (first | (with_reducible first | exact HB.out | apply below_alloc | apply pw_below_drewN | apply below_drew1) | exact HB.out)))); have n2_ := Aside0.mk (below_step (by repeat (first | (with_reducible first | exact HB.out | apply below_alloc | apply pw_below_drewN | apply below_drew1) | exact HB.out)) hb); clear HO290; clear HB; have HO290 := n0_; have HO293 := n1_; have HB := n2_; clear n0_ n1_ n2_; (try clear hb); (try clear hb2); (try clear hk); (try clear hi); (try clear ho0); obtain ⟨Ao16, co16, eo16⟩ := Kd.S_slice HO293.out; subst eo16))
         go_loopg [6] kj2 (fun kq v6 w' => ∃ (x6_2 : Int), v6 = .int .i64 x6_2 ∧ Aside0 (laws_FnPlaces.l0 kq a0 l1 t288 x6_2 = some r) ∧ Aside0 (kq ≤ kj2) ∧ Aside0 (Kd.S k33 33 w' w.heap.size (fun _ => True) (.slice Ao14 t288.length co14) t288) ∧ Aside0 (Below w.heap.size w w'))
         case atStart => exact ⟨(0), (by first | rfl | (simp; done) | (simp [*]; done)), H', ⟨Nat.le_refl _⟩, ⟨by (with_reducible repeat (first | apply Kd.S_alloc | apply Kd.S_drewN | apply Kd.S_drew)); exact Kd.S_mono HO290.out (fun _ hk => trivial)⟩, ⟨by repeat (first | (with_reducible first | exact HB.out | apply below_alloc | apply pw_below_drewN | apply below_drew1) | exact HB.out)⟩⟩
         case round =>
          clear H'
          try clear c1
          try clear p2
          try clear c4
          try clear c4b0
          try clear c4b1
          try clear c6
          try clear c7
          try clear c8
          try clear c9
          try clear c11
          try clear c11b0
          try clear c11b1
          try clear c11b2
          try clear c12
          try clear c15
          try clear p2
          obtain ⟨x6_2, rfl, HA, HK2, HO_5, HB⟩ := hrel
          cases gk with
          | zero => exact absurd HA.out (by simp [laws_FnPlaces.l0])
          | succ k2 =>
           have H := HA.out
           clear HA
           simp only [laws_FnPlaces.l0] at H
           by_cases c17 : x6_2 < (t288.length : Int)
           · rw [if_pos c17] at H
             have c17b0 : decide (x6_2 < (t288.length : Int)) = true := decide_eq_true c17
             clear c17
             by_cases c18 : 0 ≤ x6_2
             · rw [if_pos c18] at H
               have c18b0 : decide (0 ≤ x6_2) = true := decide_eq_true c18
               clear c18
               by_cases c19 : ((rd_T33 t288 x6_2).f1) < 0
               · rw [if_pos c19] at H
                 have c19b0 : decide (((rd_T33 t288 x6_2).f1) < 0) = true := decide_eq_true c19
                 clear c19
                 obtain rfl := Option.some.inj H
                 have p294 : 0 ≤ (x6_2 : Int) := of_decide_eq_true (by first | (with_reducible assumption) | assumption)
                 have q294 : x6_2 < (t288.length : Int) := of_decide_eq_true (by first | (with_reducible assumption) | assumption)
                 obtain ⟨ad294, A294_2, c294_2, e294, hx294_0, hx294_1, hx294_2, hx294_3, hl294_2, hi294_2⟩ := at_T33 (Kd.S_reads' HO_5.out).2.2 x6_2 p294 q294
                 cases e294
                 obtain ⟨ce294, hce294, hMe294, hcc294⟩ := Kd.S_get HO_5.out z33 x6_2 p294 (by first | exact q294 | exact of_decide_eq_true (by first | (with_reducible assumption) | assumption) | (have e_ := (Kd.S_reads' HO_5.out).1; omega))
                 obtain ⟨ve294_2, rfl, ge294_2⟩ := k33_openM hMe294
                 have hv294_2 := hcc294 2 _ rfl
                 rw [add_field _ _ 2 (by omega)] at hv294_2
                 replace hv294_2 := Option.some.inj (hv294_2.symm.trans hx294_2)
                 rw [hv294_2] at ge294_2
                 have HL294_2 := Aside0.mk (show Kd.R (Kd.int .i64) 3 _ _ _ _ ((rd_T33 t288 x6_2).f2) from ge294_2)
                 clear hv294_2 ge294_2
                 clear hcc294 hce294
                 have HR294_2 := Aside0.mk hi294_2
                 have HC294_2 := Aside0.mk hl294_2
                 clear hi294_2 hl294_2
                 replace p294 := eq_true p294
                 replace q294 := eq_true q294
                 try go_wp2_with (first | ((with_reducible refine gate_dst (N := 7) rfl ?_); (try (refine gate_guard (by rfl) ?_; dsimp only)); refine box_event ?hg (N := 7) ?hd (cs := #[.string (⟨#[]⟩ : ByteArray), .int .i64 0, .slice none 0 0, .int .i64 0]) (t := 33) ?hr ?_; (case hd => rfl); (case hg => rfl); (case hr => first | (go_simp; done) | (go_simp; rfl)); intro gb295 hg w20 hbox hb; have n0_ := Aside0.mk (Kd.S_below (Kd.S_elderB (by (with_reducible repeat (first | apply Kd.S_alloc | apply Kd.S_drewN | apply Kd.S_drew)); exact HO_5.out) gb295 (Nat.le_of_eq hg.symm)) hb); have n1_ := Aside0.mk (Kd.R_below (by (with_reducible repeat (first | apply Kd.R_alloc | apply Kd.R_drewN | apply Kd.R_drew)); exact HL294_2.out) hb); have n2_ := Aside0.mk (Kd.C_below (by repeat (first | (with_reducible exact HR294_2.out) | (with_reducible refine Kd.C_alloc ?_ _) | (with_reducible refine Kd.C_drewN ?_ _) | (with_reducible refine Kd.C_drew ?_) | exact HR294_2.out)) hb); have n3_ := Aside0.mk (below_step (by repeat (first | (with_reducible first | exact HB.out | apply below_alloc | apply pw_below_drewN | apply below_drew1) | exact HB.out)) hb); have n4_ := Aside0.mk (hbox); have n5_ := Aside0.mk ((by rw [hg]; exact (below_size (by repeat (first | (with_reducible first | exact HB.out | apply below_alloc | apply pw_below_drewN | apply below_drew1) | exact HB.out))) : w.heap.size ≤ gb295)); have n6_ := Aside0.mk ((by rw [hg]; exact (below_size (by repeat (first | (with_reducible first | exact HB.out | apply below_alloc | apply pw_below_drewN | apply below_drew1) | exact HB.out))) : w.heap.size ≤ gb295)); clear HO_5; clear HL294_2; clear HR294_2; clear HB; have HO_5 := n0_; have HL294_2 := n1_; have HR294_2 := n2_; have HB := n3_; have BK295 := n4_; have GW295 := n5_; have GE295 := n6_; clear n0_ n1_ n2_ n3_ n4_ n5_ n6_; clear hb hbox hg; have hcz21_0 : w20.cell? ⟨gb295, 0, none⟩ = some (.string (⟨#[]⟩ : ByteArray)) := (blk_cell BK295.out 0).trans rfl; have hcz21_1 : w20.cell? ⟨gb295, 1, none⟩ = some (.int .i64 0) := (blk_cell BK295.out 1).trans rfl; have hcz21_2 : w20.cell? ⟨gb295, 2, none⟩ = some (.slice none 0 0) := (blk_cell BK295.out 2).trans rfl; have hcz21_3 : w20.cell? ⟨gb295, 3, none⟩ = some (.int .i64 0) := (blk_cell BK295.out 3).trans rfl; have hfz21_0 := blk_frozen BK295.out 0; have hfz21_1 := blk_frozen BK295.out 1; have hfz21_2 := blk_frozen BK295.out 2; have hfz21_3 := blk_frozen BK295.out 3))
                 have n0_ : Aside0 (Kd.S k33 33 ((((w20.setCell ⟨gb295, 0, none⟩ (.string ((rd_T33 t288 x6_2).f0))).setCell ⟨gb295, 1, none⟩ (.int .i64 ((rd_T33 t288 x6_2).f1))).setCell ⟨gb295, 2, none⟩ (.slice A294_2 ((rd_T33 t288 x6_2).f2).length c294_2)).setCell ⟨gb295, 3, none⟩ (.int .i64 ((rd_T33 t288 x6_2).f3))) w.heap.size (fun k_ => k_ ≠ gb295) (.slice (some ad294) t288.length co14) t288) := ⟨by (with_reducible repeat (first | apply Kd.S_alloc | apply Kd.S_drewN | apply Kd.S_drew)); exact Kd.S_mono (Kd.S_far (p := ⟨gb295, 3, none⟩) (Kd.S_far (p := ⟨gb295, 2, none⟩) (Kd.S_far (p := ⟨gb295, 1, none⟩) (Kd.S_far (p := ⟨gb295, 0, none⟩) (Kd.S_mono HO_5.out (fun k_ hk => (⟨hk, hk.2⟩ : _ ∧ k_ ≠ gb295))) (fun _ hk => hk.2) (.string ((rd_T33 t288 x6_2).f0))) (fun _ hk => hk.2) (.int .i64 ((rd_T33 t288 x6_2).f1))) (fun _ hk => hk.2) (.slice A294_2 ((rd_T33 t288 x6_2).f2).length c294_2)) (fun _ hk => hk.2) (.int .i64 ((rd_T33 t288 x6_2).f3))) (fun _ hk => hk.1.2)⟩
                 have n1_ : Aside0 (Kd.R (Kd.int .i64) 3 ((((w20.setCell ⟨gb295, 0, none⟩ (.string ((rd_T33 t288 x6_2).f0))).setCell ⟨gb295, 1, none⟩ (.int .i64 ((rd_T33 t288 x6_2).f1))).setCell ⟨gb295, 2, none⟩ (.slice A294_2 ((rd_T33 t288 x6_2).f2).length c294_2)).setCell ⟨gb295, 3, none⟩ (.int .i64 ((rd_T33 t288 x6_2).f3))) w.heap.size (fun k_ => some k_ ≠ (.slice (some ad294) t288.length co14 : Value).ownBlock) (.slice A294_2 ((rd_T33 t288 x6_2).f2).length c294_2) ((rd_T33 t288 x6_2).f2)) := ⟨by (with_reducible repeat (first | apply Kd.R_alloc | apply Kd.R_drewN | apply Kd.R_drew)); exact Kd.R_mono (Kd.R_far (p := ⟨gb295, 3, none⟩) (Kd.R_far (p := ⟨gb295, 2, none⟩) (Kd.R_far (p := ⟨gb295, 1, none⟩) (Kd.R_far (p := ⟨gb295, 0, none⟩) (Kd.R_types HL294_2.out BK295.out (by decide)) (fun _ hk => hk.2) (.string ((rd_T33 t288 x6_2).f0))) (fun _ hk => hk.2) (.int .i64 ((rd_T33 t288 x6_2).f1))) (fun _ hk => hk.2) (.slice A294_2 ((rd_T33 t288 x6_2).f2).length c294_2)) (fun _ hk => hk.2) (.int .i64 ((rd_T33 t288 x6_2).f3))) (fun _ hk => hk.1.2)⟩
                 have n2_ : Aside0 (((((w20.setCell ⟨gb295, 0, none⟩ (.string ((rd_T33 t288 x6_2).f0))).setCell ⟨gb295, 1, none⟩ (.int .i64 ((rd_T33 t288 x6_2).f1))).setCell ⟨gb295, 2, none⟩ (.slice A294_2 ((rd_T33 t288 x6_2).f2).length c294_2)).setCell ⟨gb295, 3, none⟩ (.int .i64 ((rd_T33 t288 x6_2).f3))).heap[gb295]? = some (.cells #[.string ((rd_T33 t288 x6_2).f0), .int .i64 ((rd_T33 t288 x6_2).f1), .slice A294_2 ((rd_T33 t288 x6_2).f2).length c294_2, .int .i64 ((rd_T33 t288 x6_2).f3)] 33 (0, 0))) := ⟨by (with_reducible repeat (first | refine blk_drewN ?_ _ | refine blk_drew ?_ | refine blk_alloc ?_ _)); refine blk_put (cs := #[.string ((rd_T33 t288 x6_2).f0), .int .i64 ((rd_T33 t288 x6_2).f1), .slice A294_2 ((rd_T33 t288 x6_2).f2).length c294_2, .int .i64 0]) ?_ 3 _ rfl; (with_reducible repeat (first | refine blk_drewN ?_ _ | refine blk_drew ?_ | refine blk_alloc ?_ _)); refine blk_put (cs := #[.string ((rd_T33 t288 x6_2).f0), .int .i64 ((rd_T33 t288 x6_2).f1), .slice none 0 0, .int .i64 0]) ?_ 2 _ rfl; (with_reducible repeat (first | refine blk_drewN ?_ _ | refine blk_drew ?_ | refine blk_alloc ?_ _)); refine blk_put (cs := #[.string ((rd_T33 t288 x6_2).f0), .int .i64 0, .slice none 0 0, .int .i64 0]) ?_ 1 _ rfl; (with_reducible repeat (first | refine blk_drewN ?_ _ | refine blk_drew ?_ | refine blk_alloc ?_ _)); refine blk_put (cs := #[.string (⟨#[]⟩ : ByteArray), .int .i64 0, .slice none 0 0, .int .i64 0]) ?_ 0 _ rfl; (with_reducible repeat (first | refine blk_drewN ?_ _ | refine blk_drew ?_ | refine blk_alloc ?_ _)); exact BK295.out⟩
                 have n3_ : Aside0 (Below w.heap.size w ((((w20.setCell ⟨gb295, 0, none⟩ (.string ((rd_T33 t288 x6_2).f0))).setCell ⟨gb295, 1, none⟩ (.int .i64 ((rd_T33 t288 x6_2).f1))).setCell ⟨gb295, 2, none⟩ (.slice A294_2 ((rd_T33 t288 x6_2).f2).length c294_2)).setCell ⟨gb295, 3, none⟩ (.int .i64 ((rd_T33 t288 x6_2).f3)))) := ⟨by repeat (first | (with_reducible first | exact HB.out | apply below_alloc | apply pw_below_drewN | apply below_drew1 | refine below_set ?_ GE295.out) | exact HB.out)⟩
                 (try clear HO_5)
                 (try clear HL294_2)
                 (try clear BK295)
                 (try clear HB)
                 generalize ((((w20.setCell ⟨gb295, 0, none⟩ (.string ((rd_T33 t288 x6_2).f0))).setCell ⟨gb295, 1, none⟩ (.int .i64 ((rd_T33 t288 x6_2).f1))).setCell ⟨gb295, 2, none⟩ (.slice A294_2 ((rd_T33 t288 x6_2).f2).length c294_2)).setCell ⟨gb295, 3, none⟩ (.int .i64 ((rd_T33 t288 x6_2).f3))) = w22 at n0_ n1_ n2_ n3_ ⊢
                 have HO_5 := n0_
                 have HL294_2 := n1_
                 have BK295 := n2_
                 have HB := n3_
                 clear n0_ n1_ n2_ n3_
                 have n0_ := Aside0.mk (Kd.S_drew HO_5.out)
                 have n1_ := Aside0.mk (Kd.R_drew HL294_2.out)
                 have n2_ := Aside0.mk (blk_drew BK295.out)
                 have n3_ := Aside0.mk (below_drew1 HB.out)
                 clear HO_5
                 clear HL294_2
                 clear BK295
                 clear HB
                 have HO_5 := n0_
                 have HL294_2 := n1_
                 have BK295 := n2_
                 have HB := n3_
                 clear n0_ n1_ n2_ n3_
                 refine start_ (n := 29) (S := fun w' => w'.cell? ⟨gb295, 0, none⟩ = some (.string ((rd_T33 t288 x6_2).f0)) ∧ w'.cell? ⟨gb295, 1, none⟩ = some (.int .i64 ((rd_T33 t288 x6_2).f1)) ∧ w'.cell? ⟨gb295, 2, none⟩ = some (.slice A294_2 ((rd_T33 t288 x6_2).f2).length c294_2) ∧ w'.cell? ⟨gb295, 3, none⟩ = some (.int .i64 ((rd_T33 t288 x6_2).f3))) (ds := []) #[false, false, false, false, false, false, false, false, false, false, false, false, false, false, false, false, false, false, false, false, false, false, false, false, false, false, false, false, false] (by kernel_rfl) rfl rfl ⟨(blk_cell BK295.out 0).trans rfl, (blk_cell BK295.out 1).trans rfl, (blk_cell BK295.out 2).trans rfl, (blk_cell BK295.out 3).trans rfl⟩ (fun hHeld => ?_); refine with_tabW laws_FnPlaces.tab12 laws_FnPlaces.bits12 (fun HT_ HW_ => ?_)
                 generalize w22.drew = w23 at HO_5 HL294_2 BK295 HB hHeld ⊢
                 refine pure_ (i := 0) (N := some 40) (v := ?_) (a' := ?_) #[true, false, false, false, false, false, false, false, false, false, false, false, false, false, false, false, false, false, false, false, false, false, false, false, false, false, false, false, false] rfl rfl (any_of HT_.out (by kernel_rfl)) (fun _ _ _ h => h) (Or.inl ⟨by rfl, ?_⟩) ?_ ?_
                 rotate_left
                 · intro w'
                   go_simp
                   with_reducible rfl
                 rotate_left
                 · simp only [Act.put, List.setIfInBounds_toArray, List.set_cons_zero, List.set_cons_succ, i64_w, i32_w]
                   rfl
                 refine take_ (i := 1) (N := some 41) (v := ?_) (a' := ?_) #[true, true, false, false, false, false, false, false, false, false, false, false, false, false, false, false, false, false, false, false, false, false, false, false, false, false, false, false, false] rfl rfl (take_ofW HT_.out HW_.out (by kernel_rfl)) (fun _ _ _ h => h) (Or.inl ⟨by rfl, ?_⟩) hHeld ?_ ?_
                 rotate_left
                 · rintro w' ⟨s0, s1, s2, s3⟩
                   go_simp
                   with_reducible rfl
                 rotate_left
                 · simp only [Act.put, List.setIfInBounds_toArray, List.set_cons_zero, List.set_cons_succ, i64_w, i32_w]
                   rfl
                 refine pure_ (i := 2) (N := some 42) (v := ?_) (a' := ?_) #[true, true, true, false, false, false, false, false, false, false, false, false, false, false, false, false, false, false, false, false, false, false, false, false, false, false, false, false, false] rfl rfl (any_of HT_.out (by kernel_rfl)) (fun _ _ _ h => h) (Or.inl ⟨by rfl, ?_⟩) ?_ ?_
                 rotate_left
                 · intro w'
                   go_simp
                   with_reducible rfl
                 rotate_left
                 · simp only [Act.put, List.setIfInBounds_toArray, List.set_cons_zero, List.set_cons_succ, i64_w, i32_w]
                   rfl
                 refine pure_ (i := 3) (N := some 43) (v := ?_) (a' := ?_) #[true, true, true, true, false, false, false, false, false, false, false, false, false, false, false, false, false, false, false, false, false, false, false, false, false, false, false, false, false] rfl rfl (any_of HT_.out (by kernel_rfl)) (fun _ _ _ h => h) (Or.inl ⟨by rfl, ?_⟩) ?_ ?_
                 rotate_left
                 · intro w'
                   go_simp
                   with_reducible rfl
                 rotate_left
                 · simp only [Act.put, List.setIfInBounds_toArray, List.set_cons_zero, List.set_cons_succ, i64_w, i32_w]
                   rfl
                 refine pure_ (i := 4) (N := some 44) (v := undef) (a' := ?_) #[true, true, true, true, true, false, false, false, false, false, false, false, false, false, false, false, false, false, false, false, false, false, false, false, false, false, false, false, false] rfl rfl (any_of HT_.out (by kernel_rfl)) (fun _ _ _ h => h) (Or.inr ⟨by rfl, rfl⟩) ?_ ?_
                 rotate_left
                 · simp only [Act.put, List.setIfInBounds_toArray, List.set_cons_zero, List.set_cons_succ, i64_w, i32_w]
                   rfl
                 refine pure_ (i := 5) (N := some 45) (v := undef) (a' := ?_) #[true, true, true, true, true, true, false, false, false, false, false, false, false, false, false, false, false, false, false, false, false, false, false, false, false, false, false, false, false] rfl rfl (any_of HT_.out (by kernel_rfl)) (fun _ _ _ h => h) (Or.inr ⟨by rfl, rfl⟩) ?_ ?_
                 rotate_left
                 · simp only [Act.put, List.setIfInBounds_toArray, List.set_cons_zero, List.set_cons_succ, i64_w, i32_w]
                   rfl
                 refine pure_ (i := 6) (N := some 46) (v := undef) (a' := ?_) #[true, true, true, true, true, true, true, false, false, false, false, false, false, false, false, false, false, false, false, false, false, false, false, false, false, false, false, false, false] rfl rfl (any_of HT_.out (by kernel_rfl)) (fun _ _ _ h => h) (Or.inr ⟨by rfl, rfl⟩) ?_ ?_
                 rotate_left
                 · simp only [Act.put, List.setIfInBounds_toArray, List.set_cons_zero, List.set_cons_succ, i64_w, i32_w]
                   rfl
                 refine pure_ (i := 7) (N := some 47) (v := undef) (a' := ?_) #[true, true, true, true, true, true, true, true, false, false, false, false, false, false, false, false, false, false, false, false, false, false, false, false, false, false, false, false, false] rfl rfl (any_of HT_.out (by kernel_rfl)) (fun _ _ _ h => h) (Or.inr ⟨by rfl, rfl⟩) ?_ ?_
                 rotate_left
                 · simp only [Act.put, List.setIfInBounds_toArray, List.set_cons_zero, List.set_cons_succ, i64_w, i32_w]
                   rfl
                 refine pure_ (i := 8) (N := some 48) (v := undef) (a' := ?_) #[true, true, true, true, true, true, true, true, true, false, false, false, false, false, false, false, false, false, false, false, false, false, false, false, false, false, false, false, false] rfl rfl (any_of HT_.out (by kernel_rfl)) (fun _ _ _ h => h) (Or.inr ⟨by rfl, rfl⟩) ?_ ?_
                 rotate_left
                 · simp only [Act.put, List.setIfInBounds_toArray, List.set_cons_zero, List.set_cons_succ, i64_w, i32_w]
                   rfl
                 refine pure_ (i := 9) (N := some 49) (v := ?_) (a' := ?_) #[true, true, true, true, true, true, true, true, true, true, false, false, false, false, false, false, false, false, false, false, false, false, false, false, false, false, false, false, false] rfl rfl (any_of HT_.out (by kernel_rfl)) (fun _ _ _ h => h) (Or.inl ⟨by rfl, ?_⟩) ?_ ?_
                 rotate_left
                 · intro w'
                   go_simp
                   with_reducible rfl
                 rotate_left
                 · simp only [Act.put, List.setIfInBounds_toArray, List.set_cons_zero, List.set_cons_succ, i64_w, i32_w]
                   rfl
                 refine pure_ (i := 10) (N := some 50) (v := ?_) (a' := ?_) #[true, true, true, true, true, true, true, true, true, true, true, false, false, false, false, false, false, false, false, false, false, false, false, false, false, false, false, false, false] rfl rfl (any_of HT_.out (by kernel_rfl)) (fun _ _ _ h => h) (Or.inl ⟨by rfl, ?_⟩) ?_ ?_
                 rotate_left
                 · intro w'
                   go_simp
                   with_reducible rfl
                 rotate_left
                 · simp only [Act.put, List.setIfInBounds_toArray, List.set_cons_zero, List.set_cons_succ, i64_w, i32_w]
                   rfl
                 refine pure_ (i := 11) (N := some 51) (v := undef) (a' := ?_) #[true, true, true, true, true, true, true, true, true, true, true, true, false, false, false, false, false, false, false, false, false, false, false, false, false, false, false, false, false] rfl rfl (any_of HT_.out (by kernel_rfl)) (fun _ _ _ h => h) (Or.inr ⟨by rfl, rfl⟩) ?_ ?_
                 rotate_left
                 · simp only [Act.put, List.setIfInBounds_toArray, List.set_cons_zero, List.set_cons_succ, i64_w, i32_w]
                   rfl
                 refine pure_ (i := 12) (N := some 52) (v := undef) (a' := ?_) #[true, true, true, true, true, true, true, true, true, true, true, true, true, false, false, false, false, false, false, false, false, false, false, false, false, false, false, false, false] rfl rfl (any_of HT_.out (by kernel_rfl)) (fun _ _ _ h => h) (Or.inr ⟨by rfl, rfl⟩) ?_ ?_
                 rotate_left
                 · simp only [Act.put, List.setIfInBounds_toArray, List.set_cons_zero, List.set_cons_succ, i64_w, i32_w]
                   rfl
                 refine pure_ (i := 13) (N := some 53) (v := undef) (a' := ?_) #[true, true, true, true, true, true, true, true, true, true, true, true, true, true, false, false, false, false, false, false, false, false, false, false, false, false, false, false, false] rfl rfl (any_of HT_.out (by kernel_rfl)) (fun _ _ _ h => h) (Or.inr ⟨by rfl, rfl⟩) ?_ ?_
                 rotate_left
                 · simp only [Act.put, List.setIfInBounds_toArray, List.set_cons_zero, List.set_cons_succ, i64_w, i32_w]
                   rfl
                 refine pure_ (i := 14) (N := some 54) (v := undef) (a' := ?_) #[true, true, true, true, true, true, true, true, true, true, true, true, true, true, true, false, false, false, false, false, false, false, false, false, false, false, false, false, false] rfl rfl (any_of HT_.out (by kernel_rfl)) (fun _ _ _ h => h) (Or.inr ⟨by rfl, rfl⟩) ?_ ?_
                 rotate_left
                 · simp only [Act.put, List.setIfInBounds_toArray, List.set_cons_zero, List.set_cons_succ, i64_w, i32_w]
                   rfl
                 refine pure_ (i := 15) (N := some 55) (v := undef) (a' := ?_) #[true, true, true, true, true, true, true, true, true, true, true, true, true, true, true, true, false, false, false, false, false, false, false, false, false, false, false, false, false] rfl rfl (any_of HT_.out (by kernel_rfl)) (fun _ _ _ h => h) (Or.inr ⟨by rfl, rfl⟩) ?_ ?_
                 rotate_left
                 · simp only [Act.put, List.setIfInBounds_toArray, List.set_cons_zero, List.set_cons_succ, i64_w, i32_w]
                   rfl
                 refine pure_ (i := 16) (N := some 56) (v := undef) (a' := ?_) #[true, true, true, true, true, true, true, true, true, true, true, true, true, true, true, true, true, false, false, false, false, false, false, false, false, false, false, false, false] rfl rfl (any_of HT_.out (by kernel_rfl)) (fun _ _ _ h => h) (Or.inr ⟨by rfl, rfl⟩) ?_ ?_
                 rotate_left
                 · simp only [Act.put, List.setIfInBounds_toArray, List.set_cons_zero, List.set_cons_succ, i64_w, i32_w]
                   rfl
                 refine pure_ (i := 17) (N := some 57) (v := undef) (a' := ?_) #[true, true, true, true, true, true, true, true, true, true, true, true, true, true, true, true, true, true, false, false, false, false, false, false, false, false, false, false, false] rfl rfl (any_of HT_.out (by kernel_rfl)) (fun _ _ _ h => h) (Or.inr ⟨by rfl, rfl⟩) ?_ ?_
                 rotate_left
                 · simp only [Act.put, List.setIfInBounds_toArray, List.set_cons_zero, List.set_cons_succ, i64_w, i32_w]
                   rfl
                 refine pure_ (i := 18) (N := some 58) (v := undef) (a' := ?_) #[true, true, true, true, true, true, true, true, true, true, true, true, true, true, true, true, true, true, true, false, false, false, false, false, false, false, false, false, false] rfl rfl (any_of HT_.out (by kernel_rfl)) (fun _ _ _ h => h) (Or.inr ⟨by rfl, rfl⟩) ?_ ?_
                 rotate_left
                 · simp only [Act.put, List.setIfInBounds_toArray, List.set_cons_zero, List.set_cons_succ, i64_w, i32_w]
                   rfl
                 refine pure_ (i := 19) (N := some 59) (v := ?_) (a' := ?_) #[true, true, true, true, true, true, true, true, true, true, true, true, true, true, true, true, true, true, true, true, false, false, false, false, false, false, false, false, false] rfl rfl (any_of HT_.out (by kernel_rfl)) (fun _ _ _ h => h) (Or.inl ⟨by rfl, ?_⟩) ?_ ?_
                 rotate_left
                 · intro w'
                   go_simp
                   with_reducible rfl
                 rotate_left
                 · simp only [Act.put, List.setIfInBounds_toArray, List.set_cons_zero, List.set_cons_succ, i64_w, i32_w]
                   rfl
                 refine pure_ (i := 20) (N := some 60) (v := ?_) (a' := ?_) #[true, true, true, true, true, true, true, true, true, true, true, true, true, true, true, true, true, true, true, true, true, false, false, false, false, false, false, false, false] rfl rfl (any_of HT_.out (by kernel_rfl)) (fun _ _ _ h => h) (Or.inl ⟨by rfl, ?_⟩) ?_ ?_
                 rotate_left
                 · intro w'
                   go_simp
                   with_reducible rfl
                 rotate_left
                 · simp only [Act.put, List.setIfInBounds_toArray, List.set_cons_zero, List.set_cons_succ, i64_w, i32_w]
                   rfl
                 refine pure_ (i := 21) (N := some 61) (v := undef) (a' := ?_) #[true, true, true, true, true, true, true, true, true, true, true, true, true, true, true, true, true, true, true, true, true, true, false, false, false, false, false, false, false] rfl rfl (any_of HT_.out (by kernel_rfl)) (fun _ _ _ h => h) (Or.inr ⟨by rfl, rfl⟩) ?_ ?_
                 rotate_left
                 · simp only [Act.put, List.setIfInBounds_toArray, List.set_cons_zero, List.set_cons_succ, i64_w, i32_w]
                   rfl
                 refine pure_ (i := 22) (N := some 62) (v := undef) (a' := ?_) #[true, true, true, true, true, true, true, true, true, true, true, true, true, true, true, true, true, true, true, true, true, true, true, false, false, false, false, false, false] rfl rfl (any_of HT_.out (by kernel_rfl)) (fun _ _ _ h => h) (Or.inr ⟨by rfl, rfl⟩) ?_ ?_
                 rotate_left
                 · simp only [Act.put, List.setIfInBounds_toArray, List.set_cons_zero, List.set_cons_succ, i64_w, i32_w]
                   rfl
                 refine pure_ (i := 23) (N := some 63) (v := undef) (a' := ?_) #[true, true, true, true, true, true, true, true, true, true, true, true, true, true, true, true, true, true, true, true, true, true, true, true, false, false, false, false, false] rfl rfl (any_of HT_.out (by kernel_rfl)) (fun _ _ _ h => h) (Or.inr ⟨by rfl, rfl⟩) ?_ ?_
                 rotate_left
                 · simp only [Act.put, List.setIfInBounds_toArray, List.set_cons_zero, List.set_cons_succ, i64_w, i32_w]
                   rfl
                 refine pure_ (i := 24) (N := some 64) (v := undef) (a' := ?_) #[true, true, true, true, true, true, true, true, true, true, true, true, true, true, true, true, true, true, true, true, true, true, true, true, true, false, false, false, false] rfl rfl (any_of HT_.out (by kernel_rfl)) (fun _ _ _ h => h) (Or.inr ⟨by rfl, rfl⟩) ?_ ?_
                 rotate_left
                 · simp only [Act.put, List.setIfInBounds_toArray, List.set_cons_zero, List.set_cons_succ, i64_w, i32_w]
                   rfl
                 refine pure_ (i := 25) (N := some 65) (v := undef) (a' := ?_) #[true, true, true, true, true, true, true, true, true, true, true, true, true, true, true, true, true, true, true, true, true, true, true, true, true, true, false, false, false] rfl rfl (any_of HT_.out (by kernel_rfl)) (fun _ _ _ h => h) (Or.inr ⟨by rfl, rfl⟩) ?_ ?_
                 rotate_left
                 · simp only [Act.put, List.setIfInBounds_toArray, List.set_cons_zero, List.set_cons_succ, i64_w, i32_w]
                   rfl
                 refine pure_ (i := 26) (N := some 66) (v := undef) (a' := ?_) #[true, true, true, true, true, true, true, true, true, true, true, true, true, true, true, true, true, true, true, true, true, true, true, true, true, true, true, false, false] rfl rfl (any_of HT_.out (by kernel_rfl)) (fun _ _ _ h => h) (Or.inr ⟨by rfl, rfl⟩) ?_ ?_
                 rotate_left
                 · simp only [Act.put, List.setIfInBounds_toArray, List.set_cons_zero, List.set_cons_succ, i64_w, i32_w]
                   rfl
                 refine pure_ (i := 27) (N := some 67) (v := undef) (a' := ?_) #[true, true, true, true, true, true, true, true, true, true, true, true, true, true, true, true, true, true, true, true, true, true, true, true, true, true, true, true, false] rfl rfl (any_of HT_.out (by kernel_rfl)) (fun _ _ _ h => h) (Or.inr ⟨by rfl, rfl⟩) ?_ ?_
                 rotate_left
                 · simp only [Act.put, List.setIfInBounds_toArray, List.set_cons_zero, List.set_cons_succ, i64_w, i32_w]
                   rfl
                 refine pure_ (i := 28) (N := some 68) (v := ?_) (a' := ?_) #[true, true, true, true, true, true, true, true, true, true, true, true, true, true, true, true, true, true, true, true, true, true, true, true, true, true, true, true, true] rfl rfl (any_of HT_.out (by kernel_rfl)) (fun _ _ _ h => h) (Or.inl ⟨by rfl, ?_⟩) ?_ ?_
                 rotate_left
                 · intro w'
                   go_simp
                   with_reducible rfl
                 rotate_left
                 · simp only [Act.put, List.setIfInBounds_toArray, List.set_cons_zero, List.set_cons_succ, i64_w, i32_w]
                   rfl
                 refine done_ (done_of HT_.out (by kernel_rfl)) ?_
                 try go_wp2
                 go_ret
                 exact ⟨by first | rfl | (simp [errW_none, errW_some] <;> rfl) | (simp [*, errW_none, errW_some] <;> rfl), by repeat (first | (with_reducible first | exact HB.out | apply below_alloc | apply pw_below_drewN | apply below_drew1 | refine below_set ?_ GE295.out) | exact HB.out)⟩
               · rw [if_neg c19] at H
                 have c19b0 : decide (((rd_T33 t288 x6_2).f1) < 0) = false := decide_eq_false c19
                 clear c19
                 by_cases c24 : ((rd_T33 t288 x6_2).f1) ≥ (l1.length : Int)
                 · rw [if_pos c24] at H
                   have c24b0 : decide ((l1.length : Int) ≤ ((rd_T33 t288 x6_2).f1)) = true := decide_eq_true c24
                   clear c24
                   obtain rfl := Option.some.inj H
                   have p294 : 0 ≤ (x6_2 : Int) := of_decide_eq_true (by first | (with_reducible assumption) | assumption)
                   have q294 : x6_2 < (t288.length : Int) := of_decide_eq_true (by first | (with_reducible assumption) | assumption)
                   obtain ⟨ad294, A294_2, c294_2, e294, hx294_0, hx294_1, hx294_2, hx294_3, hl294_2, hi294_2⟩ := at_T33 (Kd.S_reads' HO_5.out).2.2 x6_2 p294 q294
                   cases e294
                   obtain ⟨ce294, hce294, hMe294, hcc294⟩ := Kd.S_get HO_5.out z33 x6_2 p294 (by first | exact q294 | exact of_decide_eq_true (by first | (with_reducible assumption) | assumption) | (have e_ := (Kd.S_reads' HO_5.out).1; omega))
                   obtain ⟨ve294_2, rfl, ge294_2⟩ := k33_openM hMe294
                   have hv294_2 := hcc294 2 _ rfl
                   rw [add_field _ _ 2 (by omega)] at hv294_2
                   replace hv294_2 := Option.some.inj (hv294_2.symm.trans hx294_2)
                   rw [hv294_2] at ge294_2
                   have HL294_2 := Aside0.mk (show Kd.R (Kd.int .i64) 3 _ _ _ _ ((rd_T33 t288 x6_2).f2) from ge294_2)
                   clear hv294_2 ge294_2
                   clear hcc294 hce294
                   have HR294_2 := Aside0.mk hi294_2
                   have HC294_2 := Aside0.mk hl294_2
                   clear hi294_2 hl294_2
                   replace p294 := eq_true p294
                   replace q294 := eq_true q294
                   try go_wp2_with (first | ((with_reducible refine gate_dst (N := 7) rfl ?_); (try (refine gate_guard (by rfl) ?_; dsimp only)); refine box_event ?hg (N := 7) ?hd (cs := #[.string (⟨#[]⟩ : ByteArray), .int .i64 0, .slice none 0 0, .int .i64 0]) (t := 33) ?hr ?_; (case hd => rfl); (case hg => rfl); (case hr => first | (go_simp; done) | (go_simp; rfl)); intro gb295 hg w25 hbox hb; have n0_ := Aside0.mk (Kd.S_below (Kd.S_elderB (by (with_reducible repeat (first | apply Kd.S_alloc | apply Kd.S_drewN | apply Kd.S_drew)); exact HO_5.out) gb295 (Nat.le_of_eq hg.symm)) hb); have n1_ := Aside0.mk (Kd.R_below (by (with_reducible repeat (first | apply Kd.R_alloc | apply Kd.R_drewN | apply Kd.R_drew)); exact HL294_2.out) hb); have n2_ := Aside0.mk (Kd.C_below (by repeat (first | (with_reducible exact HR294_2.out) | (with_reducible refine Kd.C_alloc ?_ _) | (with_reducible refine Kd.C_drewN ?_ _) | (with_reducible refine Kd.C_drew ?_) | exact HR294_2.out)) hb); have n3_ := Aside0.mk (below_step (by repeat (first | (with_reducible first | exact HB.out | apply below_alloc | apply pw_below_drewN | apply below_drew1) | exact HB.out)) hb); have n4_ := Aside0.mk (hbox); have n5_ := Aside0.mk ((by rw [hg]; exact (below_size (by repeat (first | (with_reducible first | exact HB.out | apply below_alloc | apply pw_below_drewN | apply below_drew1) | exact HB.out))) : w.heap.size ≤ gb295)); have n6_ := Aside0.mk ((by rw [hg]; exact (below_size (by repeat (first | (with_reducible first | exact HB.out | apply below_alloc | apply pw_below_drewN | apply below_drew1) | exact HB.out))) : w.heap.size ≤ gb295)); clear HO_5; clear HL294_2; clear HR294_2; clear HB; have HO_5 := n0_; have HL294_2 := n1_; have HR294_2 := n2_; have HB := n3_; have BK295 := n4_; have GW295 := n5_; have GE295 := n6_; clear n0_ n1_ n2_ n3_ n4_ n5_ n6_; clear hb hbox hg; have hcz26_0 : w25.cell? ⟨gb295, 0, none⟩ = some (.string (⟨#[]⟩ : ByteArray)) := (blk_cell BK295.out 0).trans rfl; have hcz26_1 : w25.cell? ⟨gb295, 1, none⟩ = some (.int .i64 0) := (blk_cell BK295.out 1).trans rfl; have hcz26_2 : w25.cell? ⟨gb295, 2, none⟩ = some (.slice none 0 0) := (blk_cell BK295.out 2).trans rfl; have hcz26_3 : w25.cell? ⟨gb295, 3, none⟩ = some (.int .i64 0) := (blk_cell BK295.out 3).trans rfl; have hfz26_0 := blk_frozen BK295.out 0; have hfz26_1 := blk_frozen BK295.out 1; have hfz26_2 := blk_frozen BK295.out 2; have hfz26_3 := blk_frozen BK295.out 3))
                   have n0_ : Aside0 (Kd.S k33 33 ((((w25.setCell ⟨gb295, 0, none⟩ (.string ((rd_T33 t288 x6_2).f0))).setCell ⟨gb295, 1, none⟩ (.int .i64 ((rd_T33 t288 x6_2).f1))).setCell ⟨gb295, 2, none⟩ (.slice A294_2 ((rd_T33 t288 x6_2).f2).length c294_2)).setCell ⟨gb295, 3, none⟩ (.int .i64 ((rd_T33 t288 x6_2).f3))) w.heap.size (fun k_ => k_ ≠ gb295) (.slice (some ad294) t288.length co14) t288) := ⟨by (with_reducible repeat (first | apply Kd.S_alloc | apply Kd.S_drewN | apply Kd.S_drew)); exact Kd.S_mono (Kd.S_far (p := ⟨gb295, 3, none⟩) (Kd.S_far (p := ⟨gb295, 2, none⟩) (Kd.S_far (p := ⟨gb295, 1, none⟩) (Kd.S_far (p := ⟨gb295, 0, none⟩) (Kd.S_mono HO_5.out (fun k_ hk => (⟨hk, hk.2⟩ : _ ∧ k_ ≠ gb295))) (fun _ hk => hk.2) (.string ((rd_T33 t288 x6_2).f0))) (fun _ hk => hk.2) (.int .i64 ((rd_T33 t288 x6_2).f1))) (fun _ hk => hk.2) (.slice A294_2 ((rd_T33 t288 x6_2).f2).length c294_2)) (fun _ hk => hk.2) (.int .i64 ((rd_T33 t288 x6_2).f3))) (fun _ hk => hk.1.2)⟩
                   have n1_ : Aside0 (Kd.R (Kd.int .i64) 3 ((((w25.setCell ⟨gb295, 0, none⟩ (.string ((rd_T33 t288 x6_2).f0))).setCell ⟨gb295, 1, none⟩ (.int .i64 ((rd_T33 t288 x6_2).f1))).setCell ⟨gb295, 2, none⟩ (.slice A294_2 ((rd_T33 t288 x6_2).f2).length c294_2)).setCell ⟨gb295, 3, none⟩ (.int .i64 ((rd_T33 t288 x6_2).f3))) w.heap.size (fun k_ => some k_ ≠ (.slice (some ad294) t288.length co14 : Value).ownBlock) (.slice A294_2 ((rd_T33 t288 x6_2).f2).length c294_2) ((rd_T33 t288 x6_2).f2)) := ⟨by (with_reducible repeat (first | apply Kd.R_alloc | apply Kd.R_drewN | apply Kd.R_drew)); exact Kd.R_mono (Kd.R_far (p := ⟨gb295, 3, none⟩) (Kd.R_far (p := ⟨gb295, 2, none⟩) (Kd.R_far (p := ⟨gb295, 1, none⟩) (Kd.R_far (p := ⟨gb295, 0, none⟩) (Kd.R_types HL294_2.out BK295.out (by decide)) (fun _ hk => hk.2) (.string ((rd_T33 t288 x6_2).f0))) (fun _ hk => hk.2) (.int .i64 ((rd_T33 t288 x6_2).f1))) (fun _ hk => hk.2) (.slice A294_2 ((rd_T33 t288 x6_2).f2).length c294_2)) (fun _ hk => hk.2) (.int .i64 ((rd_T33 t288 x6_2).f3))) (fun _ hk => hk.1.2)⟩
                   have n2_ : Aside0 (((((w25.setCell ⟨gb295, 0, none⟩ (.string ((rd_T33 t288 x6_2).f0))).setCell ⟨gb295, 1, none⟩ (.int .i64 ((rd_T33 t288 x6_2).f1))).setCell ⟨gb295, 2, none⟩ (.slice A294_2 ((rd_T33 t288 x6_2).f2).length c294_2)).setCell ⟨gb295, 3, none⟩ (.int .i64 ((rd_T33 t288 x6_2).f3))).heap[gb295]? = some (.cells #[.string ((rd_T33 t288 x6_2).f0), .int .i64 ((rd_T33 t288 x6_2).f1), .slice A294_2 ((rd_T33 t288 x6_2).f2).length c294_2, .int .i64 ((rd_T33 t288 x6_2).f3)] 33 (0, 0))) := ⟨by (with_reducible repeat (first | refine blk_drewN ?_ _ | refine blk_drew ?_ | refine blk_alloc ?_ _)); refine blk_put (cs := #[.string ((rd_T33 t288 x6_2).f0), .int .i64 ((rd_T33 t288 x6_2).f1), .slice A294_2 ((rd_T33 t288 x6_2).f2).length c294_2, .int .i64 0]) ?_ 3 _ rfl; (with_reducible repeat (first | refine blk_drewN ?_ _ | refine blk_drew ?_ | refine blk_alloc ?_ _)); refine blk_put (cs := #[.string ((rd_T33 t288 x6_2).f0), .int .i64 ((rd_T33 t288 x6_2).f1), .slice none 0 0, .int .i64 0]) ?_ 2 _ rfl; (with_reducible repeat (first | refine blk_drewN ?_ _ | refine blk_drew ?_ | refine blk_alloc ?_ _)); refine blk_put (cs := #[.string ((rd_T33 t288 x6_2).f0), .int .i64 0, .slice none 0 0, .int .i64 0]) ?_ 1 _ rfl; (with_reducible repeat (first | refine blk_drewN ?_ _ | refine blk_drew ?_ | refine blk_alloc ?_ _)); refine blk_put (cs := #[.string (⟨#[]⟩ : ByteArray), .int .i64 0, .slice none 0 0, .int .i64 0]) ?_ 0 _ rfl; (with_reducible repeat (first | refine blk_drewN ?_ _ | refine blk_drew ?_ | refine blk_alloc ?_ _)); exact BK295.out⟩
                   have n3_ : Aside0 (Below w.heap.size w ((((w25.setCell ⟨gb295, 0, none⟩ (.string ((rd_T33 t288 x6_2).f0))).setCell ⟨gb295, 1, none⟩ (.int .i64 ((rd_T33 t288 x6_2).f1))).setCell ⟨gb295, 2, none⟩ (.slice A294_2 ((rd_T33 t288 x6_2).f2).length c294_2)).setCell ⟨gb295, 3, none⟩ (.int .i64 ((rd_T33 t288 x6_2).f3)))) := ⟨by repeat (first | (with_reducible first | exact HB.out | apply below_alloc | apply pw_below_drewN | apply below_drew1 | refine below_set ?_ GE295.out) | exact HB.out)⟩
                   (try clear HO_5)
                   (try clear HL294_2)
                   (try clear BK295)
                   (try clear HB)
                   generalize ((((w25.setCell ⟨gb295, 0, none⟩ (.string ((rd_T33 t288 x6_2).f0))).setCell ⟨gb295, 1, none⟩ (.int .i64 ((rd_T33 t288 x6_2).f1))).setCell ⟨gb295, 2, none⟩ (.slice A294_2 ((rd_T33 t288 x6_2).f2).length c294_2)).setCell ⟨gb295, 3, none⟩ (.int .i64 ((rd_T33 t288 x6_2).f3))) = w27 at n0_ n1_ n2_ n3_ ⊢
                   have HO_5 := n0_
                   have HL294_2 := n1_
                   have BK295 := n2_
                   have HB := n3_
                   clear n0_ n1_ n2_ n3_
                   have n0_ := Aside0.mk (Kd.S_drew HO_5.out)
                   have n1_ := Aside0.mk (Kd.R_drew HL294_2.out)
                   have n2_ := Aside0.mk (blk_drew BK295.out)
                   have n3_ := Aside0.mk (below_drew1 HB.out)
                   clear HO_5
                   clear HL294_2
                   clear BK295
                   clear HB
                   have HO_5 := n0_
                   have HL294_2 := n1_
                   have BK295 := n2_
                   have HB := n3_
                   clear n0_ n1_ n2_ n3_
                   refine start_ (n := 29) (S := fun w' => w'.cell? ⟨gb295, 0, none⟩ = some (.string ((rd_T33 t288 x6_2).f0)) ∧ w'.cell? ⟨gb295, 1, none⟩ = some (.int .i64 ((rd_T33 t288 x6_2).f1)) ∧ w'.cell? ⟨gb295, 2, none⟩ = some (.slice A294_2 ((rd_T33 t288 x6_2).f2).length c294_2) ∧ w'.cell? ⟨gb295, 3, none⟩ = some (.int .i64 ((rd_T33 t288 x6_2).f3))) (ds := []) #[false, false, false, false, false, false, false, false, false, false, false, false, false, false, false, false, false, false, false, false, false, false, false, false, false, false, false, false, false] (by kernel_rfl) rfl rfl ⟨(blk_cell BK295.out 0).trans rfl, (blk_cell BK295.out 1).trans rfl, (blk_cell BK295.out 2).trans rfl, (blk_cell BK295.out 3).trans rfl⟩ (fun hHeld => ?_); refine with_tabW laws_FnPlaces.tab12 laws_FnPlaces.bits12 (fun HT_ HW_ => ?_)
                   generalize w27.drew = w28 at HO_5 HL294_2 BK295 HB hHeld ⊢
                   refine pure_ (i := 0) (N := some 40) (v := ?_) (a' := ?_) #[true, false, false, false, false, false, false, false, false, false, false, false, false, false, false, false, false, false, false, false, false, false, false, false, false, false, false, false, false] rfl rfl (any_of HT_.out (by kernel_rfl)) (fun _ _ _ h => h) (Or.inl ⟨by rfl, ?_⟩) ?_ ?_
                   rotate_left
                   · intro w'
                     go_simp
                     with_reducible rfl
                   rotate_left
                   · simp only [Act.put, List.setIfInBounds_toArray, List.set_cons_zero, List.set_cons_succ, i64_w, i32_w]
                     rfl
                   refine take_ (i := 1) (N := some 41) (v := ?_) (a' := ?_) #[true, true, false, false, false, false, false, false, false, false, false, false, false, false, false, false, false, false, false, false, false, false, false, false, false, false, false, false, false] rfl rfl (take_ofW HT_.out HW_.out (by kernel_rfl)) (fun _ _ _ h => h) (Or.inl ⟨by rfl, ?_⟩) hHeld ?_ ?_
                   rotate_left
                   · rintro w' ⟨s0, s1, s2, s3⟩
                     go_simp
                     with_reducible rfl
                   rotate_left
                   · simp only [Act.put, List.setIfInBounds_toArray, List.set_cons_zero, List.set_cons_succ, i64_w, i32_w]
                     rfl
                   refine pure_ (i := 2) (N := some 42) (v := ?_) (a' := ?_) #[true, true, true, false, false, false, false, false, false, false, false, false, false, false, false, false, false, false, false, false, false, false, false, false, false, false, false, false, false] rfl rfl (any_of HT_.out (by kernel_rfl)) (fun _ _ _ h => h) (Or.inl ⟨by rfl, ?_⟩) ?_ ?_
                   rotate_left
                   · intro w'
                     go_simp
                     with_reducible rfl
                   rotate_left
                   · simp only [Act.put, List.setIfInBounds_toArray, List.set_cons_zero, List.set_cons_succ, i64_w, i32_w]
                     rfl
                   refine pure_ (i := 3) (N := some 43) (v := ?_) (a' := ?_) #[true, true, true, true, false, false, false, false, false, false, false, false, false, false, false, false, false, false, false, false, false, false, false, false, false, false, false, false, false] rfl rfl (any_of HT_.out (by kernel_rfl)) (fun _ _ _ h => h) (Or.inl ⟨by rfl, ?_⟩) ?_ ?_
                   rotate_left
                   · intro w'
                     go_simp
                     with_reducible rfl
                   rotate_left
                   · simp only [Act.put, List.setIfInBounds_toArray, List.set_cons_zero, List.set_cons_succ, i64_w, i32_w]
                     rfl
                   refine pure_ (i := 4) (N := some 44) (v := ?_) (a' := ?_) #[true, true, true, true, true, false, false, false, false, false, false, false, false, false, false, false, false, false, false, false, false, false, false, false, false, false, false, false, false] rfl rfl (any_of HT_.out (by kernel_rfl)) (fun _ _ _ h => h) (Or.inl ⟨by rfl, ?_⟩) ?_ ?_
                   rotate_left
                   · intro w'
                     go_simp
                     with_reducible rfl
                   rotate_left
                   · simp only [Act.put, List.setIfInBounds_toArray, List.set_cons_zero, List.set_cons_succ, i64_w, i32_w]
                     rfl
                   refine pure_ (i := 6) (N := some 46) (v := ?_) (a' := ?_) #[true, true, true, true, true, false, true, false, false, false, false, false, false, false, false, false, false, false, false, false, false, false, false, false, false, false, false, false, false] rfl rfl (any_of HT_.out (by kernel_rfl)) (fun _ _ _ h => h) (Or.inl ⟨by rfl, ?_⟩) ?_ ?_
                   rotate_left
                   · intro w'
                     go_simp
                     with_reducible rfl
                   rotate_left
                   · simp only [Act.put, List.setIfInBounds_toArray, List.set_cons_zero, List.set_cons_succ, i64_w, i32_w]
                     rfl
                   refine pure_ (i := 7) (N := some 47) (v := ?_) (a' := ?_) #[true, true, true, true, true, false, true, true, false, false, false, false, false, false, false, false, false, false, false, false, false, false, false, false, false, false, false, false, false] rfl rfl (any_of HT_.out (by kernel_rfl)) (fun _ _ _ h => h) (Or.inl ⟨by rfl, ?_⟩) ?_ ?_
                   rotate_left
                   · intro w'
                     go_simp
                     with_reducible rfl
                   rotate_left
                   · simp only [Act.put, List.setIfInBounds_toArray, List.set_cons_zero, List.set_cons_succ, i64_w, i32_w]
                     rfl
                   refine take_ (i := 5) (N := some 45) (v := ?_) (a' := ?_) #[true, true, true, true, true, true, true, true, false, false, false, false, false, false, false, false, false, false, false, false, false, false, false, false, false, false, false, false, false] rfl rfl (take_ofW HT_.out HW_.out (by kernel_rfl)) (fun _ _ _ h => h) (Or.inl ⟨by rfl, ?_⟩) hHeld ?_ ?_
                   rotate_left
                   · rintro w' ⟨s0, s1, s2, s3⟩
                     go_simp
                     with_reducible rfl
                   rotate_left
                   · simp only [Act.put, List.setIfInBounds_toArray, List.set_cons_zero, List.set_cons_succ, i64_w, i32_w]
                     rfl
                   refine pure_ (i := 8) (N := some 48) (v := ?_) (a' := ?_) #[true, true, true, true, true, true, true, true, true, false, false, false, false, false, false, false, false, false, false, false, false, false, false, false, false, false, false, false, false] rfl rfl (any_of HT_.out (by kernel_rfl)) (fun _ _ _ h => h) (Or.inl ⟨by rfl, ?_⟩) ?_ ?_
                   rotate_left
                   · intro w'
                     go_simp
                     with_reducible rfl
                   rotate_left
                   · simp only [Act.put, List.setIfInBounds_toArray, List.set_cons_zero, List.set_cons_succ, i64_w, i32_w]
                     rfl
                   refine pure_ (i := 9) (N := some 49) (v := ?_) (a' := ?_) #[true, true, true, true, true, true, true, true, true, true, false, false, false, false, false, false, false, false, false, false, false, false, false, false, false, false, false, false, false] rfl rfl (any_of HT_.out (by kernel_rfl)) (fun _ _ _ h => h) (Or.inl ⟨by rfl, ?_⟩) ?_ ?_
                   rotate_left
                   · intro w'
                     go_simp
                     with_reducible rfl
                   rotate_left
                   · simp only [Act.put, List.setIfInBounds_toArray, List.set_cons_zero, List.set_cons_succ, i64_w, i32_w]
                     rfl
                   refine pure_ (i := 10) (N := some 50) (v := ?_) (a' := ?_) #[true, true, true, true, true, true, true, true, true, true, true, false, false, false, false, false, false, false, false, false, false, false, false, false, false, false, false, false, false] rfl rfl (any_of HT_.out (by kernel_rfl)) (fun _ _ _ h => h) (Or.inl ⟨by rfl, ?_⟩) ?_ ?_
                   rotate_left
                   · intro w'
                     go_simp
                     with_reducible rfl
                   rotate_left
                   · simp only [Act.put, List.setIfInBounds_toArray, List.set_cons_zero, List.set_cons_succ, i64_w, i32_w]
                     rfl
                   refine pure_ (i := 11) (N := some 51) (v := undef) (a' := ?_) #[true, true, true, true, true, true, true, true, true, true, true, true, false, false, false, false, false, false, false, false, false, false, false, false, false, false, false, false, false] rfl rfl (any_of HT_.out (by kernel_rfl)) (fun _ _ _ h => h) (Or.inr ⟨by rfl, rfl⟩) ?_ ?_
                   rotate_left
                   · simp only [Act.put, List.setIfInBounds_toArray, List.set_cons_zero, List.set_cons_succ, i64_w, i32_w]
                     rfl
                   refine pure_ (i := 12) (N := some 52) (v := undef) (a' := ?_) #[true, true, true, true, true, true, true, true, true, true, true, true, true, false, false, false, false, false, false, false, false, false, false, false, false, false, false, false, false] rfl rfl (any_of HT_.out (by kernel_rfl)) (fun _ _ _ h => h) (Or.inr ⟨by rfl, rfl⟩) ?_ ?_
                   rotate_left
                   · simp only [Act.put, List.setIfInBounds_toArray, List.set_cons_zero, List.set_cons_succ, i64_w, i32_w]
                     rfl
                   refine pure_ (i := 13) (N := some 53) (v := undef) (a' := ?_) #[true, true, true, true, true, true, true, true, true, true, true, true, true, true, false, false, false, false, false, false, false, false, false, false, false, false, false, false, false] rfl rfl (any_of HT_.out (by kernel_rfl)) (fun _ _ _ h => h) (Or.inr ⟨by rfl, rfl⟩) ?_ ?_
                   rotate_left
                   · simp only [Act.put, List.setIfInBounds_toArray, List.set_cons_zero, List.set_cons_succ, i64_w, i32_w]
                     rfl
                   refine pure_ (i := 14) (N := some 54) (v := undef) (a' := ?_) #[true, true, true, true, true, true, true, true, true, true, true, true, true, true, true, false, false, false, false, false, false, false, false, false, false, false, false, false, false] rfl rfl (any_of HT_.out (by kernel_rfl)) (fun _ _ _ h => h) (Or.inr ⟨by rfl, rfl⟩) ?_ ?_
                   rotate_left
                   · simp only [Act.put, List.setIfInBounds_toArray, List.set_cons_zero, List.set_cons_succ, i64_w, i32_w]
                     rfl
                   refine pure_ (i := 15) (N := some 55) (v := undef) (a' := ?_) #[true, true, true, true, true, true, true, true, true, true, true, true, true, true, true, true, false, false, false, false, false, false, false, false, false, false, false, false, false] rfl rfl (any_of HT_.out (by kernel_rfl)) (fun _ _ _ h => h) (Or.inr ⟨by rfl, rfl⟩) ?_ ?_
                   rotate_left
                   · simp only [Act.put, List.setIfInBounds_toArray, List.set_cons_zero, List.set_cons_succ, i64_w, i32_w]
                     rfl
                   refine pure_ (i := 16) (N := some 56) (v := undef) (a' := ?_) #[true, true, true, true, true, true, true, true, true, true, true, true, true, true, true, true, true, false, false, false, false, false, false, false, false, false, false, false, false] rfl rfl (any_of HT_.out (by kernel_rfl)) (fun _ _ _ h => h) (Or.inr ⟨by rfl, rfl⟩) ?_ ?_
                   rotate_left
                   · simp only [Act.put, List.setIfInBounds_toArray, List.set_cons_zero, List.set_cons_succ, i64_w, i32_w]
                     rfl
                   refine pure_ (i := 17) (N := some 57) (v := undef) (a' := ?_) #[true, true, true, true, true, true, true, true, true, true, true, true, true, true, true, true, true, true, false, false, false, false, false, false, false, false, false, false, false] rfl rfl (any_of HT_.out (by kernel_rfl)) (fun _ _ _ h => h) (Or.inr ⟨by rfl, rfl⟩) ?_ ?_
                   rotate_left
                   · simp only [Act.put, List.setIfInBounds_toArray, List.set_cons_zero, List.set_cons_succ, i64_w, i32_w]
                     rfl
                   refine pure_ (i := 18) (N := some 58) (v := undef) (a' := ?_) #[true, true, true, true, true, true, true, true, true, true, true, true, true, true, true, true, true, true, true, false, false, false, false, false, false, false, false, false, false] rfl rfl (any_of HT_.out (by kernel_rfl)) (fun _ _ _ h => h) (Or.inr ⟨by rfl, rfl⟩) ?_ ?_
                   rotate_left
                   · simp only [Act.put, List.setIfInBounds_toArray, List.set_cons_zero, List.set_cons_succ, i64_w, i32_w]
                     rfl
                   refine pure_ (i := 19) (N := some 59) (v := ?_) (a' := ?_) #[true, true, true, true, true, true, true, true, true, true, true, true, true, true, true, true, true, true, true, true, false, false, false, false, false, false, false, false, false] rfl rfl (any_of HT_.out (by kernel_rfl)) (fun _ _ _ h => h) (Or.inl ⟨by rfl, ?_⟩) ?_ ?_
                   rotate_left
                   · intro w'
                     go_simp
                     with_reducible rfl
                   rotate_left
                   · simp only [Act.put, List.setIfInBounds_toArray, List.set_cons_zero, List.set_cons_succ, i64_w, i32_w]
                     rfl
                   refine pure_ (i := 20) (N := some 60) (v := ?_) (a' := ?_) #[true, true, true, true, true, true, true, true, true, true, true, true, true, true, true, true, true, true, true, true, true, false, false, false, false, false, false, false, false] rfl rfl (any_of HT_.out (by kernel_rfl)) (fun _ _ _ h => h) (Or.inl ⟨by rfl, ?_⟩) ?_ ?_
                   rotate_left
                   · intro w'
                     go_simp
                     with_reducible rfl
                   rotate_left
                   · simp only [Act.put, List.setIfInBounds_toArray, List.set_cons_zero, List.set_cons_succ, i64_w, i32_w]
                     rfl
                   refine pure_ (i := 21) (N := some 61) (v := undef) (a' := ?_) #[true, true, true, true, true, true, true, true, true, true, true, true, true, true, true, true, true, true, true, true, true, true, false, false, false, false, false, false, false] rfl rfl (any_of HT_.out (by kernel_rfl)) (fun _ _ _ h => h) (Or.inr ⟨by rfl, rfl⟩) ?_ ?_
                   rotate_left
                   · simp only [Act.put, List.setIfInBounds_toArray, List.set_cons_zero, List.set_cons_succ, i64_w, i32_w]
                     rfl
                   refine pure_ (i := 22) (N := some 62) (v := undef) (a' := ?_) #[true, true, true, true, true, true, true, true, true, true, true, true, true, true, true, true, true, true, true, true, true, true, true, false, false, false, false, false, false] rfl rfl (any_of HT_.out (by kernel_rfl)) (fun _ _ _ h => h) (Or.inr ⟨by rfl, rfl⟩) ?_ ?_
                   rotate_left
                   · simp only [Act.put, List.setIfInBounds_toArray, List.set_cons_zero, List.set_cons_succ, i64_w, i32_w]
                     rfl
                   refine pure_ (i := 23) (N := some 63) (v := undef) (a' := ?_) #[true, true, true, true, true, true, true, true, true, true, true, true, true, true, true, true, true, true, true, true, true, true, true, true, false, false, false, false, false] rfl rfl (any_of HT_.out (by kernel_rfl)) (fun _ _ _ h => h) (Or.inr ⟨by rfl, rfl⟩) ?_ ?_
                   rotate_left
                   · simp only [Act.put, List.setIfInBounds_toArray, List.set_cons_zero, List.set_cons_succ, i64_w, i32_w]
                     rfl
                   refine pure_ (i := 24) (N := some 64) (v := undef) (a' := ?_) #[true, true, true, true, true, true, true, true, true, true, true, true, true, true, true, true, true, true, true, true, true, true, true, true, true, false, false, false, false] rfl rfl (any_of HT_.out (by kernel_rfl)) (fun _ _ _ h => h) (Or.inr ⟨by rfl, rfl⟩) ?_ ?_
                   rotate_left
                   · simp only [Act.put, List.setIfInBounds_toArray, List.set_cons_zero, List.set_cons_succ, i64_w, i32_w]
                     rfl
                   refine pure_ (i := 25) (N := some 65) (v := undef) (a' := ?_) #[true, true, true, true, true, true, true, true, true, true, true, true, true, true, true, true, true, true, true, true, true, true, true, true, true, true, false, false, false] rfl rfl (any_of HT_.out (by kernel_rfl)) (fun _ _ _ h => h) (Or.inr ⟨by rfl, rfl⟩) ?_ ?_
                   rotate_left
                   · simp only [Act.put, List.setIfInBounds_toArray, List.set_cons_zero, List.set_cons_succ, i64_w, i32_w]
                     rfl
                   refine pure_ (i := 26) (N := some 66) (v := undef) (a' := ?_) #[true, true, true, true, true, true, true, true, true, true, true, true, true, true, true, true, true, true, true, true, true, true, true, true, true, true, true, false, false] rfl rfl (any_of HT_.out (by kernel_rfl)) (fun _ _ _ h => h) (Or.inr ⟨by rfl, rfl⟩) ?_ ?_
                   rotate_left
                   · simp only [Act.put, List.setIfInBounds_toArray, List.set_cons_zero, List.set_cons_succ, i64_w, i32_w]
                     rfl
                   refine pure_ (i := 27) (N := some 67) (v := undef) (a' := ?_) #[true, true, true, true, true, true, true, true, true, true, true, true, true, true, true, true, true, true, true, true, true, true, true, true, true, true, true, true, false] rfl rfl (any_of HT_.out (by kernel_rfl)) (fun _ _ _ h => h) (Or.inr ⟨by rfl, rfl⟩) ?_ ?_
                   rotate_left
                   · simp only [Act.put, List.setIfInBounds_toArray, List.set_cons_zero, List.set_cons_succ, i64_w, i32_w]
                     rfl
                   refine pure_ (i := 28) (N := some 68) (v := ?_) (a' := ?_) #[true, true, true, true, true, true, true, true, true, true, true, true, true, true, true, true, true, true, true, true, true, true, true, true, true, true, true, true, true] rfl rfl (any_of HT_.out (by kernel_rfl)) (fun _ _ _ h => h) (Or.inl ⟨by rfl, ?_⟩) ?_ ?_
                   rotate_left
                   · intro w'
                     go_simp
                     with_reducible rfl
                   rotate_left
                   · simp only [Act.put, List.setIfInBounds_toArray, List.set_cons_zero, List.set_cons_succ, i64_w, i32_w]
                     rfl
                   refine done_ (done_of HT_.out (by kernel_rfl)) ?_
                   try go_wp2
                   go_ret
                   exact ⟨by first | rfl | (simp [errW_none, errW_some] <;> rfl) | (simp [*, errW_none, errW_some] <;> rfl), by repeat (first | (with_reducible first | exact HB.out | apply below_alloc | apply pw_below_drewN | apply below_drew1 | refine below_set ?_ GE295.out) | exact HB.out)⟩
                 · rw [if_neg c24] at H
                   have c24b0 : decide ((l1.length : Int) ≤ ((rd_T33 t288 x6_2).f1)) = false := decide_eq_false c24
                   clear c24
                   by_cases c29 : 0 ≤ ((rd_T33 t288 x6_2).f1)
                   · rw [if_pos c29] at H
                     have c29b0 : decide (0 ≤ ((rd_T33 t288 x6_2).f1)) = true := decide_eq_true c29
                     clear c29
                     by_cases c30 : ((rd_T33 t288 x6_2).f1) < (l1.length : Int)
                     · rw [if_pos c30] at H
                       have c30b0 : decide (((rd_T33 t288 x6_2).f1) < (l1.length : Int)) = true := decide_eq_true c30
                       clear c30
                       by_cases c31 : (rdOf ByteArray.empty l1 ((rd_T33 t288 x6_2).f1)).toList = ((rd_T33 t288 x6_2).f0).toList
                       · rw [if_pos c31] at H
                         have c31b0 : ((rdOf ByteArray.empty l1 ((rd_T33 t288 x6_2).f1)).toList == ((rd_T33 t288 x6_2).f0).toList) = true := beq_iff_eq.mpr c31
                         have c31b1 : ((rdOf ByteArray.empty l1 ((rd_T33 t288 x6_2).f1)).toList != ((rd_T33 t288 x6_2).f0).toList) = false := bne_eq_false_iff_eq.mpr c31
                         clear c31
                         replace H := Option.bind_eq_some_iff.mp H
                         obtain ⟨t297, A320, H⟩ := H
                         replace H : (if t297 = true then (laws_FnPlaces.l0 k2 a0 l1 t288 (wrap64 (x6_2 + 1))) else (some false)) = some r := H
                         have A32 := Aside0.mk A320
                         clear A320
                         by_cases c33 : t297 = true
                         · subst c33
                           have H1 : (laws_FnPlaces.l0 k2 a0 l1 t288 (wrap64 (x6_2 + 1))) = some r := by rw [if_pos rfl] at H; exact H
                           clear H
                           have H := H1
                           clear H1
                           have H' := Aside0.mk H
                           clear H
                           have p294 : 0 ≤ (x6_2 : Int) := of_decide_eq_true (by first | (with_reducible assumption) | assumption)
                           have q294 : x6_2 < (t288.length : Int) := of_decide_eq_true (by first | (with_reducible assumption) | assumption)
                           obtain ⟨ad294, A294_2, c294_2, e294, hx294_0, hx294_1, hx294_2, hx294_3, hl294_2, hi294_2⟩ := at_T33 (Kd.S_reads' HO_5.out).2.2 x6_2 p294 q294
                           cases e294
                           obtain ⟨ce294, hce294, hMe294, hcc294⟩ := Kd.S_get HO_5.out z33 x6_2 p294 (by first | exact q294 | exact of_decide_eq_true (by first | (with_reducible assumption) | assumption) | (have e_ := (Kd.S_reads' HO_5.out).1; omega))
                           obtain ⟨ve294_2, rfl, ge294_2⟩ := k33_openM hMe294
                           have hv294_2 := hcc294 2 _ rfl
                           rw [add_field _ _ 2 (by omega)] at hv294_2
                           replace hv294_2 := Option.some.inj (hv294_2.symm.trans hx294_2)
                           rw [hv294_2] at ge294_2
                           have HL294_2 := Aside0.mk (show Kd.R (Kd.int .i64) 3 _ _ _ _ ((rd_T33 t288 x6_2).f2) from ge294_2)
                           clear hv294_2 ge294_2
                           clear hcc294 hce294
                           have HR294_2 := Aside0.mk hi294_2
                           have HC294_2 := Aside0.mk hl294_2
                           clear hi294_2 hl294_2
                           replace p294 := eq_true p294
                           replace q294 := eq_true q294
                           try go_wp2_with (first | ((with_reducible refine gate_dst (N := 7) rfl ?_); (try (refine gate_guard (by rfl) ?_; dsimp only)); refine box_event ?hg (N := 7) ?hd (cs := #[.string (⟨#[]⟩ : ByteArray), .int .i64 0, .slice none 0 0, .int .i64 0]) (t := 33) ?hr ?_; (case hd => rfl); (case hg => rfl); (case hr => first | (go_simp; done) | (go_simp; rfl)); intro gb295 hg w34 hbox hb; have n0_ := Aside0.mk (Kd.S_below (Kd.S_elderB (by (with_reducible repeat (first | apply Kd.S_alloc | apply Kd.S_drewN | apply Kd.S_drew)); exact HO_5.out) gb295 (Nat.le_of_eq hg.symm)) hb); have n1_ := Aside0.mk (Kd.R_below (by (with_reducible repeat (first | apply Kd.R_alloc | apply Kd.R_drewN | apply Kd.R_drew)); exact HL294_2.out) hb); have n2_ := Aside0.mk (Kd.C_below (by repeat (first | (with_reducible exact HR294_2.out) | (with_reducible refine Kd.C_alloc ?_ _) | (with_reducible refine Kd.C_drewN ?_ _) | (with_reducible refine Kd.C_drew ?_) | exact HR294_2.out)) hb); have n3_ := Aside0.mk (below_step (by repeat (first | (with_reducible first | exact HB.out | apply below_alloc | apply pw_below_drewN | apply below_drew1) | exact HB.out)) hb); have n4_ := Aside0.mk (hbox); have n5_ := Aside0.mk ((by rw [hg]; exact (below_size (by repeat (first | (with_reducible first | exact HB.out | apply below_alloc | apply pw_below_drewN | apply below_drew1) | exact HB.out))) : w.heap.size ≤ gb295)); have n6_ := Aside0.mk ((by rw [hg]; exact (below_size (by repeat (first | (with_reducible first | exact HB.out | apply below_alloc | apply pw_below_drewN | apply below_drew1) | exact HB.out))) : w.heap.size ≤ gb295)); clear HO_5; clear HL294_2; clear HR294_2; clear HB; have HO_5 := n0_; have HL294_2 := n1_; have HR294_2 := n2_; have HB := n3_; have BK295 := n4_; have GW295 := n5_; have GE295 := n6_; clear n0_ n1_ n2_ n3_ n4_ n5_ n6_; clear hb hbox hg; have hcz35_0 : w34.cell? ⟨gb295, 0, none⟩ = some (.string (⟨#[]⟩ : ByteArray)) := (blk_cell BK295.out 0).trans rfl; have hcz35_1 : w34.cell? ⟨gb295, 1, none⟩ = some (.int .i64 0) := (blk_cell BK295.out 1).trans rfl; have hcz35_2 : w34.cell? ⟨gb295, 2, none⟩ = some (.slice none 0 0) := (blk_cell BK295.out 2).trans rfl; have hcz35_3 : w34.cell? ⟨gb295, 3, none⟩ = some (.int .i64 0) := (blk_cell BK295.out 3).trans rfl; have hfz35_0 := blk_frozen BK295.out 0; have hfz35_1 := blk_frozen BK295.out 1; have hfz35_2 := blk_frozen BK295.out 2; have hfz35_3 := blk_frozen BK295.out 3))
                           have n0_ : Aside0 (Kd.S k33 33 ((((w34.setCell ⟨gb295, 0, none⟩ (.string ((rd_T33 t288 x6_2).f0))).setCell ⟨gb295, 1, none⟩ (.int .i64 ((rd_T33 t288 x6_2).f1))).setCell ⟨gb295, 2, none⟩ (.slice A294_2 ((rd_T33 t288 x6_2).f2).length c294_2)).setCell ⟨gb295, 3, none⟩ (.int .i64 ((rd_T33 t288 x6_2).f3))) w.heap.size (fun k_ => k_ ≠ gb295) (.slice (some ad294) t288.length co14) t288) := ⟨by (with_reducible repeat (first | apply Kd.S_alloc | apply Kd.S_drewN | apply Kd.S_drew)); exact Kd.S_mono (Kd.S_far (p := ⟨gb295, 3, none⟩) (Kd.S_far (p := ⟨gb295, 2, none⟩) (Kd.S_far (p := ⟨gb295, 1, none⟩) (Kd.S_far (p := ⟨gb295, 0, none⟩) (Kd.S_mono HO_5.out (fun k_ hk => (⟨hk, hk.2⟩ : _ ∧ k_ ≠ gb295))) (fun _ hk => hk.2) (.string ((rd_T33 t288 x6_2).f0))) (fun _ hk => hk.2) (.int .i64 ((rd_T33 t288 x6_2).f1))) (fun _ hk => hk.2) (.slice A294_2 ((rd_T33 t288 x6_2).f2).length c294_2)) (fun _ hk => hk.2) (.int .i64 ((rd_T33 t288 x6_2).f3))) (fun _ hk => hk.1.2)⟩
                           have n1_ : Aside0 (Kd.R (Kd.int .i64) 3 ((((w34.setCell ⟨gb295, 0, none⟩ (.string ((rd_T33 t288 x6_2).f0))).setCell ⟨gb295, 1, none⟩ (.int .i64 ((rd_T33 t288 x6_2).f1))).setCell ⟨gb295, 2, none⟩ (.slice A294_2 ((rd_T33 t288 x6_2).f2).length c294_2)).setCell ⟨gb295, 3, none⟩ (.int .i64 ((rd_T33 t288 x6_2).f3))) w.heap.size (fun k_ => some k_ ≠ (.slice (some ad294) t288.length co14 : Value).ownBlock) (.slice A294_2 ((rd_T33 t288 x6_2).f2).length c294_2) ((rd_T33 t288 x6_2).f2)) := ⟨by (with_reducible repeat (first | apply Kd.R_alloc | apply Kd.R_drewN | apply Kd.R_drew)); exact Kd.R_mono (Kd.R_far (p := ⟨gb295, 3, none⟩) (Kd.R_far (p := ⟨gb295, 2, none⟩) (Kd.R_far (p := ⟨gb295, 1, none⟩) (Kd.R_far (p := ⟨gb295, 0, none⟩) (Kd.R_types HL294_2.out BK295.out (by decide)) (fun _ hk => hk.2) (.string ((rd_T33 t288 x6_2).f0))) (fun _ hk => hk.2) (.int .i64 ((rd_T33 t288 x6_2).f1))) (fun _ hk => hk.2) (.slice A294_2 ((rd_T33 t288 x6_2).f2).length c294_2)) (fun _ hk => hk.2) (.int .i64 ((rd_T33 t288 x6_2).f3))) (fun _ hk => hk.1.2)⟩
                           have n2_ : Aside0 (((((w34.setCell ⟨gb295, 0, none⟩ (.string ((rd_T33 t288 x6_2).f0))).setCell ⟨gb295, 1, none⟩ (.int .i64 ((rd_T33 t288 x6_2).f1))).setCell ⟨gb295, 2, none⟩ (.slice A294_2 ((rd_T33 t288 x6_2).f2).length c294_2)).setCell ⟨gb295, 3, none⟩ (.int .i64 ((rd_T33 t288 x6_2).f3))).heap[gb295]? = some (.cells #[.string ((rd_T33 t288 x6_2).f0), .int .i64 ((rd_T33 t288 x6_2).f1), .slice A294_2 ((rd_T33 t288 x6_2).f2).length c294_2, .int .i64 ((rd_T33 t288 x6_2).f3)] 33 (0, 0))) := ⟨by (with_reducible repeat (first | refine blk_drewN ?_ _ | refine blk_drew ?_ | refine blk_alloc ?_ _)); refine blk_put (cs := #[.string ((rd_T33 t288 x6_2).f0), .int .i64 ((rd_T33 t288 x6_2).f1), .slice A294_2 ((rd_T33 t288 x6_2).f2).length c294_2, .int .i64 0]) ?_ 3 _ rfl; (with_reducible repeat (first | refine blk_drewN ?_ _ | refine blk_drew ?_ | refine blk_alloc ?_ _)); refine blk_put (cs := #[.string ((rd_T33 t288 x6_2).f0), .int .i64 ((rd_T33 t288 x6_2).f1), .slice none 0 0, .int .i64 0]) ?_ 2 _ rfl; (with_reducible repeat (first | refine blk_drewN ?_ _ | refine blk_drew ?_ | refine blk_alloc ?_ _)); refine blk_put (cs := #[.string ((rd_T33 t288 x6_2).f0), .int .i64 0, .slice none 0 0, .int .i64 0]) ?_ 1 _ rfl; (with_reducible repeat (first | refine blk_drewN ?_ _ | refine blk_drew ?_ | refine blk_alloc ?_ _)); refine blk_put (cs := #[.string (⟨#[]⟩ : ByteArray), .int .i64 0, .slice none 0 0, .int .i64 0]) ?_ 0 _ rfl; (with_reducible repeat (first | refine blk_drewN ?_ _ | refine blk_drew ?_ | refine blk_alloc ?_ _)); exact BK295.out⟩
                           have n3_ : Aside0 (Below w.heap.size w ((((w34.setCell ⟨gb295, 0, none⟩ (.string ((rd_T33 t288 x6_2).f0))).setCell ⟨gb295, 1, none⟩ (.int .i64 ((rd_T33 t288 x6_2).f1))).setCell ⟨gb295, 2, none⟩ (.slice A294_2 ((rd_T33 t288 x6_2).f2).length c294_2)).setCell ⟨gb295, 3, none⟩ (.int .i64 ((rd_T33 t288 x6_2).f3)))) := ⟨by repeat (first | (with_reducible first | exact HB.out | apply below_alloc | apply pw_below_drewN | apply below_drew1 | refine below_set ?_ GE295.out) | exact HB.out)⟩
                           (try clear HO_5)
                           (try clear HL294_2)
                           (try clear BK295)
                           (try clear HB)
                           generalize ((((w34.setCell ⟨gb295, 0, none⟩ (.string ((rd_T33 t288 x6_2).f0))).setCell ⟨gb295, 1, none⟩ (.int .i64 ((rd_T33 t288 x6_2).f1))).setCell ⟨gb295, 2, none⟩ (.slice A294_2 ((rd_T33 t288 x6_2).f2).length c294_2)).setCell ⟨gb295, 3, none⟩ (.int .i64 ((rd_T33 t288 x6_2).f3))) = w36 at n0_ n1_ n2_ n3_ ⊢
                           have HO_5 := n0_
                           have HL294_2 := n1_
                           have BK295 := n2_
                           have HB := n3_
                           clear n0_ n1_ n2_ n3_
                           have n0_ := Aside0.mk (Kd.S_drew HO_5.out)
                           have n1_ := Aside0.mk (Kd.R_drew HL294_2.out)
                           have n2_ := Aside0.mk (blk_drew BK295.out)
                           have n3_ := Aside0.mk (below_drew1 HB.out)
                           clear HO_5
                           clear HL294_2
                           clear BK295
                           clear HB
                           have HO_5 := n0_
                           have HL294_2 := n1_
                           have BK295 := n2_
                           have HB := n3_
                           clear n0_ n1_ n2_ n3_
                           have p296 : 0 ≤ (((rd_T33 t288 x6_2).f1) : Int) := of_decide_eq_true (by first | (with_reducible assumption) | assumption)
                           have q296 : ((rd_T33 t288 x6_2).f1) < (l1.length : Int) := of_decide_eq_true (by first | (with_reducible assumption) | assumption)
                           obtain ⟨ad296, e296, hx296_0⟩ := Kd.at_string HR1.out ((rd_T33 t288 x6_2).f1) p296 q296
                           have hw296_0 := hx296_0
                           cases e296
                           replace hx296_0 := (HB.out.cell (World.block_lt_of_cell? w _ hx296_0)).trans hx296_0
                           replace p296 := eq_true p296
                           replace q296 := eq_true q296
                           refine start_ (n := 29) (S := fun w' => w'.cell? ⟨gb295, 0, none⟩ = some (.string ((rd_T33 t288 x6_2).f0)) ∧ w'.cell? ⟨gb295, 1, none⟩ = some (.int .i64 ((rd_T33 t288 x6_2).f1)) ∧ w'.cell? ⟨gb295, 2, none⟩ = some (.slice A294_2 ((rd_T33 t288 x6_2).f2).length c294_2) ∧ w'.cell? ⟨gb295, 3, none⟩ = some (.int .i64 ((rd_T33 t288 x6_2).f3)) ∧ w'.cell? (ad296.add (((rd_T33 t288 x6_2).f1)).toNat) = some (.string (rdOf ByteArray.empty l1 ((rd_T33 t288 x6_2).f1)))) (ds := []) #[false, false, false, false, false, false, false, false, false, false, false, false, false, false, false, false, false, false, false, false, false, false, false, false, false, false, false, false, false] (by kernel_rfl) rfl rfl ⟨(blk_cell BK295.out 0).trans rfl, (blk_cell BK295.out 1).trans rfl, (blk_cell BK295.out 2).trans rfl, (blk_cell BK295.out 3).trans rfl, ((HB.out.cell (World.block_lt_of_cell? w _ hw296_0)).trans hw296_0)⟩ (fun hHeld => ?_); refine with_tabW laws_FnPlaces.tab12 laws_FnPlaces.bits12 (fun HT_ HW_ => ?_)
                           generalize w36.drew = w37 at HO_5 HL294_2 BK295 HB hx296_0 hHeld ⊢
                           refine pure_ (i := 0) (N := some 40) (v := ?_) (a' := ?_) #[true, false, false, false, false, false, false, false, false, false, false, false, false, false, false, false, false, false, false, false, false, false, false, false, false, false, false, false, false] rfl rfl (any_of HT_.out (by kernel_rfl)) (fun _ _ _ h => h) (Or.inl ⟨by rfl, ?_⟩) ?_ ?_
                           rotate_left
                           · intro w'
                             go_simp
                             with_reducible rfl
                           rotate_left
                           · simp only [Act.put, List.setIfInBounds_toArray, List.set_cons_zero, List.set_cons_succ, i64_w, i32_w]
                             rfl
                           refine take_ (i := 1) (N := some 41) (v := ?_) (a' := ?_) #[true, true, false, false, false, false, false, false, false, false, false, false, false, false, false, false, false, false, false, false, false, false, false, false, false, false, false, false, false] rfl rfl (take_ofW HT_.out HW_.out (by kernel_rfl)) (fun _ _ _ h => h) (Or.inl ⟨by rfl, ?_⟩) hHeld ?_ ?_
                           rotate_left
                           · rintro w' ⟨s0, s1, s2, s3, s4⟩
                             go_simp
                             with_reducible rfl
                           rotate_left
                           · simp only [Act.put, List.setIfInBounds_toArray, List.set_cons_zero, List.set_cons_succ, i64_w, i32_w]
                             rfl
                           refine pure_ (i := 2) (N := some 42) (v := ?_) (a' := ?_) #[true, true, true, false, false, false, false, false, false, false, false, false, false, false, false, false, false, false, false, false, false, false, false, false, false, false, false, false, false] rfl rfl (any_of HT_.out (by kernel_rfl)) (fun _ _ _ h => h) (Or.inl ⟨by rfl, ?_⟩) ?_ ?_
                           rotate_left
                           · intro w'
                             go_simp
                             with_reducible rfl
                           rotate_left
                           · simp only [Act.put, List.setIfInBounds_toArray, List.set_cons_zero, List.set_cons_succ, i64_w, i32_w]
                             rfl
                           refine pure_ (i := 3) (N := some 43) (v := ?_) (a' := ?_) #[true, true, true, true, false, false, false, false, false, false, false, false, false, false, false, false, false, false, false, false, false, false, false, false, false, false, false, false, false] rfl rfl (any_of HT_.out (by kernel_rfl)) (fun _ _ _ h => h) (Or.inl ⟨by rfl, ?_⟩) ?_ ?_
                           rotate_left
                           · intro w'
                             go_simp
                             with_reducible rfl
                           rotate_left
                           · simp only [Act.put, List.setIfInBounds_toArray, List.set_cons_zero, List.set_cons_succ, i64_w, i32_w]
                             rfl
                           refine pure_ (i := 4) (N := some 44) (v := ?_) (a' := ?_) #[true, true, true, true, true, false, false, false, false, false, false, false, false, false, false, false, false, false, false, false, false, false, false, false, false, false, false, false, false] rfl rfl (any_of HT_.out (by kernel_rfl)) (fun _ _ _ h => h) (Or.inl ⟨by rfl, ?_⟩) ?_ ?_
                           rotate_left
                           · intro w'
                             go_simp
                             with_reducible rfl
                           rotate_left
                           · simp only [Act.put, List.setIfInBounds_toArray, List.set_cons_zero, List.set_cons_succ, i64_w, i32_w]
                             rfl
                           refine pure_ (i := 6) (N := some 46) (v := ?_) (a' := ?_) #[true, true, true, true, true, false, true, false, false, false, false, false, false, false, false, false, false, false, false, false, false, false, false, false, false, false, false, false, false] rfl rfl (any_of HT_.out (by kernel_rfl)) (fun _ _ _ h => h) (Or.inl ⟨by rfl, ?_⟩) ?_ ?_
                           rotate_left
                           · intro w'
                             go_simp
                             with_reducible rfl
                           rotate_left
                           · simp only [Act.put, List.setIfInBounds_toArray, List.set_cons_zero, List.set_cons_succ, i64_w, i32_w]
                             rfl
                           refine pure_ (i := 7) (N := some 47) (v := ?_) (a' := ?_) #[true, true, true, true, true, false, true, true, false, false, false, false, false, false, false, false, false, false, false, false, false, false, false, false, false, false, false, false, false] rfl rfl (any_of HT_.out (by kernel_rfl)) (fun _ _ _ h => h) (Or.inl ⟨by rfl, ?_⟩) ?_ ?_
                           rotate_left
                           · intro w'
                             go_simp
                             with_reducible rfl
                           rotate_left
                           · simp only [Act.put, List.setIfInBounds_toArray, List.set_cons_zero, List.set_cons_succ, i64_w, i32_w]
                             rfl
                           refine take_ (i := 5) (N := some 45) (v := ?_) (a' := ?_) #[true, true, true, true, true, true, true, true, false, false, false, false, false, false, false, false, false, false, false, false, false, false, false, false, false, false, false, false, false] rfl rfl (take_ofW HT_.out HW_.out (by kernel_rfl)) (fun _ _ _ h => h) (Or.inl ⟨by rfl, ?_⟩) hHeld ?_ ?_
                           rotate_left
                           · rintro w' ⟨s0, s1, s2, s3, s4⟩
                             go_simp
                             with_reducible rfl
                           rotate_left
                           · simp only [Act.put, List.setIfInBounds_toArray, List.set_cons_zero, List.set_cons_succ, i64_w, i32_w]
                             rfl
                           refine pure_ (i := 8) (N := some 48) (v := ?_) (a' := ?_) #[true, true, true, true, true, true, true, true, true, false, false, false, false, false, false, false, false, false, false, false, false, false, false, false, false, false, false, false, false] rfl rfl (any_of HT_.out (by kernel_rfl)) (fun _ _ _ h => h) (Or.inl ⟨by rfl, ?_⟩) ?_ ?_
                           rotate_left
                           · intro w'
                             go_simp
                             with_reducible rfl
                           rotate_left
                           · simp only [Act.put, List.setIfInBounds_toArray, List.set_cons_zero, List.set_cons_succ, i64_w, i32_w]
                             rfl
                           refine pure_ (i := 9) (N := some 49) (v := ?_) (a' := ?_) #[true, true, true, true, true, true, true, true, true, true, false, false, false, false, false, false, false, false, false, false, false, false, false, false, false, false, false, false, false] rfl rfl (any_of HT_.out (by kernel_rfl)) (fun _ _ _ h => h) (Or.inl ⟨by rfl, ?_⟩) ?_ ?_
                           rotate_left
                           · intro w'
                             go_simp
                             with_reducible rfl
                           rotate_left
                           · simp only [Act.put, List.setIfInBounds_toArray, List.set_cons_zero, List.set_cons_succ, i64_w, i32_w]
                             rfl
                           refine pure_ (i := 10) (N := some 50) (v := ?_) (a' := ?_) #[true, true, true, true, true, true, true, true, true, true, true, false, false, false, false, false, false, false, false, false, false, false, false, false, false, false, false, false, false] rfl rfl (any_of HT_.out (by kernel_rfl)) (fun _ _ _ h => h) (Or.inl ⟨by rfl, ?_⟩) ?_ ?_
                           rotate_left
                           · intro w'
                             go_simp
                             with_reducible rfl
                           rotate_left
                           · simp only [Act.put, List.setIfInBounds_toArray, List.set_cons_zero, List.set_cons_succ, i64_w, i32_w]
                             rfl
                           refine pure_ (i := 11) (N := some 51) (v := ?_) (a' := ?_) #[true, true, true, true, true, true, true, true, true, true, true, true, false, false, false, false, false, false, false, false, false, false, false, false, false, false, false, false, false] rfl rfl (any_of HT_.out (by kernel_rfl)) (fun _ _ _ h => h) (Or.inl ⟨by rfl, ?_⟩) ?_ ?_
                           rotate_left
                           · intro w'
                             go_simp
                             with_reducible rfl
                           rotate_left
                           · simp only [Act.put, List.setIfInBounds_toArray, List.set_cons_zero, List.set_cons_succ, i64_w, i32_w]
                             rfl
                           refine pure_ (i := 12) (N := some 52) (v := ?_) (a' := ?_) #[true, true, true, true, true, true, true, true, true, true, true, true, true, false, false, false, false, false, false, false, false, false, false, false, false, false, false, false, false] rfl rfl (any_of HT_.out (by kernel_rfl)) (fun _ _ _ h => h) (Or.inl ⟨by rfl, ?_⟩) ?_ ?_
                           rotate_left
                           · intro w'
                             go_simp
                             with_reducible rfl
                           rotate_left
                           · simp only [Act.put, List.setIfInBounds_toArray, List.set_cons_zero, List.set_cons_succ, i64_w, i32_w]
                             rfl
                           refine pure_ (i := 16) (N := some 56) (v := ?_) (a' := ?_) #[true, true, true, true, true, true, true, true, true, true, true, true, true, false, false, false, true, false, false, false, false, false, false, false, false, false, false, false, false] rfl rfl (any_of HT_.out (by kernel_rfl)) (fun _ _ _ h => h) (Or.inl ⟨by rfl, ?_⟩) ?_ ?_
                           rotate_left
                           · intro w'
                             go_simp
                             with_reducible rfl
                           rotate_left
                           · simp only [Act.put, List.setIfInBounds_toArray, List.set_cons_zero, List.set_cons_succ, i64_w, i32_w]
                             rfl
                           refine take_ (i := 13) (N := some 53) (v := ?_) (a' := ?_) #[true, true, true, true, true, true, true, true, true, true, true, true, true, true, false, false, true, false, false, false, false, false, false, false, false, false, false, false, false] rfl rfl (take_ofW HT_.out HW_.out (by kernel_rfl)) (fun _ _ _ h => h) (Or.inl ⟨by rfl, ?_⟩) hHeld ?_ ?_
                           rotate_left
                           · rintro w' ⟨s0, s1, s2, s3, s4⟩
                             go_simp
                             with_reducible rfl
                           rotate_left
                           · simp only [Act.put, List.setIfInBounds_toArray, List.set_cons_zero, List.set_cons_succ, i64_w, i32_w]
                             rfl
                           refine pure_ (i := 14) (N := some 54) (v := ?_) (a' := ?_) #[true, true, true, true, true, true, true, true, true, true, true, true, true, true, true, false, true, false, false, false, false, false, false, false, false, false, false, false, false] rfl rfl (any_of HT_.out (by kernel_rfl)) (fun _ _ _ h => h) (Or.inl ⟨by rfl, ?_⟩) ?_ ?_
                           rotate_left
                           · intro w'
                             go_simp
                             with_reducible rfl
                           rotate_left
                           · simp only [Act.put, List.setIfInBounds_toArray, List.set_cons_zero, List.set_cons_succ, i64_w, i32_w]
                             rfl
                           refine take_ (i := 15) (N := some 55) (v := ?_) (a' := ?_) #[true, true, true, true, true, true, true, true, true, true, true, true, true, true, true, true, true, false, false, false, false, false, false, false, false, false, false, false, false] rfl rfl (take_ofW HT_.out HW_.out (by kernel_rfl)) (fun _ _ _ h => h) (Or.inl ⟨by rfl, ?_⟩) hHeld ?_ ?_
                           rotate_left
                           · rintro w' ⟨s0, s1, s2, s3, s4⟩
                             go_simp
                             with_reducible rfl
                           rotate_left
                           · simp only [Act.put, List.setIfInBounds_toArray, List.set_cons_zero, List.set_cons_succ, i64_w, i32_w]
                             rfl
                           refine take_ (i := 17) (N := some 57) (v := ?_) (a' := ?_) #[true, true, true, true, true, true, true, true, true, true, true, true, true, true, true, true, true, true, false, false, false, false, false, false, false, false, false, false, false] rfl rfl (take_ofW HT_.out HW_.out (by kernel_rfl)) (fun _ _ _ h => h) (Or.inl ⟨by rfl, ?_⟩) hHeld ?_ ?_
                           rotate_left
                           · rintro w' ⟨s0, s1, s2, s3, s4⟩
                             go_simp
                             with_reducible rfl
                           rotate_left
                           · simp only [Act.put, List.setIfInBounds_toArray, List.set_cons_zero, List.set_cons_succ, i64_w, i32_w]
                             rfl
                           refine pure_ (i := 18) (N := some 58) (v := ?_) (a' := ?_) #[true, true, true, true, true, true, true, true, true, true, true, true, true, true, true, true, true, true, true, false, false, false, false, false, false, false, false, false, false] rfl rfl (any_of HT_.out (by kernel_rfl)) (fun _ _ _ h => h) (Or.inl ⟨by rfl, ?_⟩) ?_ ?_
                           rotate_left
                           · intro w'
                             go_simp
                             with_reducible rfl
                           rotate_left
                           · simp only [Act.put, List.setIfInBounds_toArray, List.set_cons_zero, List.set_cons_succ, i64_w, i32_w]
                             rfl
                           refine pure_ (i := 19) (N := some 59) (v := ?_) (a' := ?_) #[true, true, true, true, true, true, true, true, true, true, true, true, true, true, true, true, true, true, true, true, false, false, false, false, false, false, false, false, false] rfl rfl (any_of HT_.out (by kernel_rfl)) (fun _ _ _ h => h) (Or.inl ⟨by rfl, ?_⟩) ?_ ?_
                           rotate_left
                           · intro w'
                             go_simp
                             with_reducible rfl
                           rotate_left
                           · simp only [Act.put, List.setIfInBounds_toArray, List.set_cons_zero, List.set_cons_succ, i64_w, i32_w]
                             rfl
                           refine pure_ (i := 20) (N := some 60) (v := ?_) (a' := ?_) #[true, true, true, true, true, true, true, true, true, true, true, true, true, true, true, true, true, true, true, true, true, false, false, false, false, false, false, false, false] rfl rfl (any_of HT_.out (by kernel_rfl)) (fun _ _ _ h => h) (Or.inl ⟨by rfl, ?_⟩) ?_ ?_
                           rotate_left
                           · intro w'
                             go_simp
                             with_reducible rfl
                           rotate_left
                           · simp only [Act.put, List.setIfInBounds_toArray, List.set_cons_zero, List.set_cons_succ, i64_w, i32_w]
                             rfl
                           refine pure_ (i := 21) (N := some 61) (v := ?_) (a' := ?_) #[true, true, true, true, true, true, true, true, true, true, true, true, true, true, true, true, true, true, true, true, true, true, false, false, false, false, false, false, false] rfl rfl (any_of HT_.out (by kernel_rfl)) (fun _ _ _ h => h) (Or.inl ⟨by rfl, ?_⟩) ?_ ?_
                           rotate_left
                           · intro w'
                             go_simp
                             with_reducible rfl
                           rotate_left
                           · simp only [Act.put, List.setIfInBounds_toArray, List.set_cons_zero, List.set_cons_succ, i64_w, i32_w]
                             rfl
                           refine pure_ (i := 22) (N := some 62) (v := ?_) (a' := ?_) #[true, true, true, true, true, true, true, true, true, true, true, true, true, true, true, true, true, true, true, true, true, true, true, false, false, false, false, false, false] rfl rfl (any_of HT_.out (by kernel_rfl)) (fun _ _ _ h => h) (Or.inl ⟨by rfl, ?_⟩) ?_ ?_
                           rotate_left
                           · intro w'
                             go_simp
                             with_reducible rfl
                           rotate_left
                           · simp only [Act.put, List.setIfInBounds_toArray, List.set_cons_zero, List.set_cons_succ, i64_w, i32_w]
                             rfl
                           refine pure_ (i := 24) (N := some 64) (v := ?_) (a' := ?_) #[true, true, true, true, true, true, true, true, true, true, true, true, true, true, true, true, true, true, true, true, true, true, true, false, true, false, false, false, false] rfl rfl (any_of HT_.out (by kernel_rfl)) (fun _ _ _ h => h) (Or.inl ⟨by rfl, ?_⟩) ?_ ?_
                           rotate_left
                           · intro w'
                             go_simp
                             with_reducible rfl
                           rotate_left
                           · simp only [Act.put, List.setIfInBounds_toArray, List.set_cons_zero, List.set_cons_succ, i64_w, i32_w]
                             rfl
                           refine take_ (i := 23) (N := some 63) (v := ?_) (a' := ?_) #[true, true, true, true, true, true, true, true, true, true, true, true, true, true, true, true, true, true, true, true, true, true, true, true, true, false, false, false, false] rfl rfl (take_ofW HT_.out HW_.out (by kernel_rfl)) (fun _ _ _ h => h) (Or.inl ⟨by rfl, ?_⟩) hHeld ?_ ?_
                           rotate_left
                           · rintro w' ⟨s0, s1, s2, s3, s4⟩
                             go_simp
                             with_reducible rfl
                           rotate_left
                           · simp only [Act.put, List.setIfInBounds_toArray, List.set_cons_zero, List.set_cons_succ, i64_w, i32_w]
                             rfl
                           refine take_ (i := 25) (N := some 65) (v := ?_) (a' := ?_) #[true, true, true, true, true, true, true, true, true, true, true, true, true, true, true, true, true, true, true, true, true, true, true, true, true, true, false, false, false] rfl rfl (take_ofW HT_.out HW_.out (by kernel_rfl)) (fun _ _ _ h => h) (Or.inl ⟨by rfl, ?_⟩) hHeld ?_ ?_
                           rotate_left
                           · rintro w' ⟨s0, s1, s2, s3, s4⟩
                             go_simp
                             with_reducible rfl
                           rotate_left
                           · simp only [Act.put, List.setIfInBounds_toArray, List.set_cons_zero, List.set_cons_succ, i64_w, i32_w]
                             rfl
                           refine one_ (i := 26) (N := some 66) #[true, true, true, true, true, true, true, true, true, true, true, true, true, true, true, true, true, true, true, true, true, true, true, true, true, true, true, false, false] rfl rfl (one_of HT_.out (by kernel_rfl)) (by decide) (fun K hK => ?_)
                           refine goes_ Tryd.func17 (by kernel_rfl) rfl #[.string a0, .string ((rd_T33 t288 x6_2).f0), .slice A294_2 ((rd_T33 t288 x6_2).f2).length c294_2] (by rfl) rfl rfl (by (try simp only [List.map_toArray, List.map_cons, List.map_nil]); first | done | rfl | (simp only [List.length_drop, List.length_take]; rfl)) ?_
                           with_reducible refine (spec_Stand.calls k2 a0 ((rd_T33 t288 x6_2).f0) _ _ ((rd_T33 t288 x6_2).f2) true _ ?side1 ?side2 (by first | (with_reducible exact HAMB.out) | exact Amb.below HAMB.out (by repeat (first | (with_reducible first | exact HB.out | apply below_alloc | apply pw_below_drewN | apply below_drew1) | exact HB.out)) | exact Amb.below HAMB.out (by repeat (first | (with_reducible first | exact Below.refl _ _ | apply pw_below_drewN | apply below_drew1 | apply below_alloc)))) A32.out).mono ?_
                           (case side1 => repeat (first | exact ((Kd.R_reads' (by (with_reducible repeat (first | apply Kd.R_alloc | apply Kd.R_drewN | apply Kd.R_drew)); exact HL294_2.out)).2.2) | (with_reducible refine Kd.C_alloc ?_ _) | (with_reducible refine Kd.C_drewN ?_ _) | (with_reducible refine Kd.C_drew ?_)))
                           (case side2 => exact HC294_2.out)
                           rintro e w38 ⟨rfl, hb⟩
                           refine ⟨_, rfl, ?_⟩
                           have n0_ := Aside0.mk (Kd.S_below (by (with_reducible repeat (first | apply Kd.S_alloc | apply Kd.S_drewN | apply Kd.S_drew)); exact HO_5.out) hb)
                           have n1_ := Aside0.mk (Kd.R_below (by (with_reducible repeat (first | apply Kd.R_alloc | apply Kd.R_drewN | apply Kd.R_drew)); exact HL294_2.out) hb)
                           have n2_ := Aside0.mk (blk_below (g := gb295) (o := .cells #[.string ((rd_T33 t288 x6_2).f0), .int .i64 ((rd_T33 t288 x6_2).f1), .slice A294_2 ((rd_T33 t288 x6_2).f2).length c294_2, .int .i64 ((rd_T33 t288 x6_2).f3)] 33 (0, 0)) (by (with_reducible repeat (first | refine blk_drewN ?_ _ | refine blk_drew ?_ | refine blk_alloc ?_ _)); exact BK295.out) hb)
                           have n3_ := Aside0.mk (below_step (by repeat (first | (with_reducible first | exact HB.out | apply below_alloc | apply pw_below_drewN | apply below_drew1 | refine below_set ?_ GE295.out) | exact HB.out)) hb)
                           clear HO_5
                           clear HL294_2
                           clear BK295
                           clear HB
                           have HO_5 := n0_
                           have HL294_2 := n1_
                           have BK295 := n2_
                           have HB := n3_
                           clear n0_ n1_ n2_ n3_
                           (try clear hb)
                           (try clear hb2)
                           (try clear hk)
                           (try clear hi)
                           refine hK.out _ _ ⟨(blk_cell BK295.out 0).trans rfl, (blk_cell BK295.out 1).trans rfl, (blk_cell BK295.out 2).trans rfl, (blk_cell BK295.out 3).trans rfl, ((HB.out.cell (World.block_lt_of_cell? w _ hw296_0)).trans hw296_0)⟩ (fun hHeld => ?_)
                           clear hK K
                           refine norm_ (a' := ?_) ?_ ?_
                           rotate_left
                           · show Act.put _ (some 66) _ = _
                             simp only [Act.put, List.setIfInBounds_toArray, List.set_cons_zero, List.set_cons_succ, i64_w, i32_w]
                             rfl
                           refine pure_ (i := 27) (N := some 67) (v := ?_) (a' := ?_) #[true, true, true, true, true, true, true, true, true, true, true, true, true, true, true, true, true, true, true, true, true, true, true, true, true, true, true, true, false] rfl rfl (any_of HT_.out (by kernel_rfl)) (fun _ _ _ h => h) (Or.inl ⟨by rfl, ?_⟩) ?_ ?_
                           rotate_left
                           · intro w'
                             go_simp
                             with_reducible rfl
                           rotate_left
                           · simp only [Act.put, List.setIfInBounds_toArray, List.set_cons_zero, List.set_cons_succ, i64_w, i32_w]
                             rfl
                           refine pure_ (i := 28) (N := some 68) (v := ?_) (a' := ?_) #[true, true, true, true, true, true, true, true, true, true, true, true, true, true, true, true, true, true, true, true, true, true, true, true, true, true, true, true, true] rfl rfl (any_of HT_.out (by kernel_rfl)) (fun _ _ _ h => h) (Or.inl ⟨by rfl, ?_⟩) ?_ ?_
                           rotate_left
                           · intro w'
                             go_simp
                             with_reducible rfl
                           rotate_left
                           · simp only [Act.put, List.setIfInBounds_toArray, List.set_cons_zero, List.set_cons_succ, i64_w, i32_w]
                             rfl
                           refine done_ (done_of HT_.out (by kernel_rfl)) ?_
                           try go_wp2
                           go_roundg k2
                           case measure => have := HJ2.out; have := HK2.out; omega
                           case rel => exact ⟨(wrap64 (x6_2 + 1)), (by first | rfl | (simp; done) | (simp [*]; done)), H', ⟨by have := HJ2.out; have := HK2.out; omega⟩, ⟨by (with_reducible repeat (first | apply Kd.S_alloc | apply Kd.S_drewN | apply Kd.S_drew)); exact Kd.S_mono HO_5.out (fun _ hk => trivial)⟩, ⟨by repeat (first | (with_reducible first | exact HB.out | apply below_alloc | apply pw_below_drewN | apply below_drew1 | refine below_set ?_ GE295.out) | exact HB.out)⟩⟩
                         · replace c33 := Bool.eq_false_iff.mpr c33
                           subst c33
                           have H1 : (some false) = some r := by rw [if_neg (show ¬ (false = true) by decide)] at H; exact H
                           clear H
                           have H := H1
                           clear H1
                           obtain rfl := Option.some.inj H
                           have p294 : 0 ≤ (x6_2 : Int) := of_decide_eq_true (by first | (with_reducible assumption) | assumption)
                           have q294 : x6_2 < (t288.length : Int) := of_decide_eq_true (by first | (with_reducible assumption) | assumption)
                           obtain ⟨ad294, A294_2, c294_2, e294, hx294_0, hx294_1, hx294_2, hx294_3, hl294_2, hi294_2⟩ := at_T33 (Kd.S_reads' HO_5.out).2.2 x6_2 p294 q294
                           cases e294
                           obtain ⟨ce294, hce294, hMe294, hcc294⟩ := Kd.S_get HO_5.out z33 x6_2 p294 (by first | exact q294 | exact of_decide_eq_true (by first | (with_reducible assumption) | assumption) | (have e_ := (Kd.S_reads' HO_5.out).1; omega))
                           obtain ⟨ve294_2, rfl, ge294_2⟩ := k33_openM hMe294
                           have hv294_2 := hcc294 2 _ rfl
                           rw [add_field _ _ 2 (by omega)] at hv294_2
                           replace hv294_2 := Option.some.inj (hv294_2.symm.trans hx294_2)
                           rw [hv294_2] at ge294_2
                           have HL294_2 := Aside0.mk (show Kd.R (Kd.int .i64) 3 _ _ _ _ ((rd_T33 t288 x6_2).f2) from ge294_2)
                           clear hv294_2 ge294_2
                           clear hcc294 hce294
                           have HR294_2 := Aside0.mk hi294_2
                           have HC294_2 := Aside0.mk hl294_2
                           clear hi294_2 hl294_2
                           replace p294 := eq_true p294
                           replace q294 := eq_true q294
                           try go_wp2_with (first | ((with_reducible refine gate_dst (N := 7) rfl ?_); (try (refine gate_guard (by rfl) ?_; dsimp only)); refine box_event ?hg (N := 7) ?hd (cs := #[.string (⟨#[]⟩ : ByteArray), .int .i64 0, .slice none 0 0, .int .i64 0]) (t := 33) ?hr ?_; (case hd => rfl); (case hg => rfl); (case hr => first | (go_simp; done) | (go_simp; rfl)); intro gb295 hg w39 hbox hb; have n0_ := Aside0.mk (Kd.S_below (Kd.S_elderB (by (with_reducible repeat (first | apply Kd.S_alloc | apply Kd.S_drewN | apply Kd.S_drew)); exact HO_5.out) gb295 (Nat.le_of_eq hg.symm)) hb); have n1_ := Aside0.mk (Kd.R_below (by (with_reducible repeat (first | apply Kd.R_alloc | apply Kd.R_drewN | apply Kd.R_drew)); exact HL294_2.out) hb); have n2_ := Aside0.mk (Kd.C_below (by repeat (first | (with_reducible exact HR294_2.out) | (with_reducible refine Kd.C_alloc ?_ _) | (with_reducible refine Kd.C_drewN ?_ _) | (with_reducible refine Kd.C_drew ?_) | exact HR294_2.out)) hb); have n3_ := Aside0.mk (below_step (by repeat (first | (with_reducible first | exact HB.out | apply below_alloc | apply pw_below_drewN | apply below_drew1) | exact HB.out)) hb); have n4_ := Aside0.mk (hbox); have n5_ := Aside0.mk ((by rw [hg]; exact (below_size (by repeat (first | (with_reducible first | exact HB.out | apply below_alloc | apply pw_below_drewN | apply below_drew1) | exact HB.out))) : w.heap.size ≤ gb295)); have n6_ := Aside0.mk ((by rw [hg]; exact (below_size (by repeat (first | (with_reducible first | exact HB.out | apply below_alloc | apply pw_below_drewN | apply below_drew1) | exact HB.out))) : w.heap.size ≤ gb295)); clear HO_5; clear HL294_2; clear HR294_2; clear HB; have HO_5 := n0_; have HL294_2 := n1_; have HR294_2 := n2_; have HB := n3_; have BK295 := n4_; have GW295 := n5_; have GE295 := n6_; clear n0_ n1_ n2_ n3_ n4_ n5_ n6_; clear hb hbox hg; have hcz40_0 : w39.cell? ⟨gb295, 0, none⟩ = some (.string (⟨#[]⟩ : ByteArray)) := (blk_cell BK295.out 0).trans rfl; have hcz40_1 : w39.cell? ⟨gb295, 1, none⟩ = some (.int .i64 0) := (blk_cell BK295.out 1).trans rfl; have hcz40_2 : w39.cell? ⟨gb295, 2, none⟩ = some (.slice none 0 0) := (blk_cell BK295.out 2).trans rfl; have hcz40_3 : w39.cell? ⟨gb295, 3, none⟩ = some (.int .i64 0) := (blk_cell BK295.out 3).trans rfl; have hfz40_0 := blk_frozen BK295.out 0; have hfz40_1 := blk_frozen BK295.out 1; have hfz40_2 := blk_frozen BK295.out 2; have hfz40_3 := blk_frozen BK295.out 3))
                           have n0_ : Aside0 (Kd.S k33 33 ((((w39.setCell ⟨gb295, 0, none⟩ (.string ((rd_T33 t288 x6_2).f0))).setCell ⟨gb295, 1, none⟩ (.int .i64 ((rd_T33 t288 x6_2).f1))).setCell ⟨gb295, 2, none⟩ (.slice A294_2 ((rd_T33 t288 x6_2).f2).length c294_2)).setCell ⟨gb295, 3, none⟩ (.int .i64 ((rd_T33 t288 x6_2).f3))) w.heap.size (fun k_ => k_ ≠ gb295) (.slice (some ad294) t288.length co14) t288) := ⟨by (with_reducible repeat (first | apply Kd.S_alloc | apply Kd.S_drewN | apply Kd.S_drew)); exact Kd.S_mono (Kd.S_far (p := ⟨gb295, 3, none⟩) (Kd.S_far (p := ⟨gb295, 2, none⟩) (Kd.S_far (p := ⟨gb295, 1, none⟩) (Kd.S_far (p := ⟨gb295, 0, none⟩) (Kd.S_mono HO_5.out (fun k_ hk => (⟨hk, hk.2⟩ : _ ∧ k_ ≠ gb295))) (fun _ hk => hk.2) (.string ((rd_T33 t288 x6_2).f0))) (fun _ hk => hk.2) (.int .i64 ((rd_T33 t288 x6_2).f1))) (fun _ hk => hk.2) (.slice A294_2 ((rd_T33 t288 x6_2).f2).length c294_2)) (fun _ hk => hk.2) (.int .i64 ((rd_T33 t288 x6_2).f3))) (fun _ hk => hk.1.2)⟩
                           have n1_ : Aside0 (Kd.R (Kd.int .i64) 3 ((((w39.setCell ⟨gb295, 0, none⟩ (.string ((rd_T33 t288 x6_2).f0))).setCell ⟨gb295, 1, none⟩ (.int .i64 ((rd_T33 t288 x6_2).f1))).setCell ⟨gb295, 2, none⟩ (.slice A294_2 ((rd_T33 t288 x6_2).f2).length c294_2)).setCell ⟨gb295, 3, none⟩ (.int .i64 ((rd_T33 t288 x6_2).f3))) w.heap.size (fun k_ => some k_ ≠ (.slice (some ad294) t288.length co14 : Value).ownBlock) (.slice A294_2 ((rd_T33 t288 x6_2).f2).length c294_2) ((rd_T33 t288 x6_2).f2)) := ⟨by (with_reducible repeat (first | apply Kd.R_alloc | apply Kd.R_drewN | apply Kd.R_drew)); exact Kd.R_mono (Kd.R_far (p := ⟨gb295, 3, none⟩) (Kd.R_far (p := ⟨gb295, 2, none⟩) (Kd.R_far (p := ⟨gb295, 1, none⟩) (Kd.R_far (p := ⟨gb295, 0, none⟩) (Kd.R_types HL294_2.out BK295.out (by decide)) (fun _ hk => hk.2) (.string ((rd_T33 t288 x6_2).f0))) (fun _ hk => hk.2) (.int .i64 ((rd_T33 t288 x6_2).f1))) (fun _ hk => hk.2) (.slice A294_2 ((rd_T33 t288 x6_2).f2).length c294_2)) (fun _ hk => hk.2) (.int .i64 ((rd_T33 t288 x6_2).f3))) (fun _ hk => hk.1.2)⟩
                           have n2_ : Aside0 (((((w39.setCell ⟨gb295, 0, none⟩ (.string ((rd_T33 t288 x6_2).f0))).setCell ⟨gb295, 1, none⟩ (.int .i64 ((rd_T33 t288 x6_2).f1))).setCell ⟨gb295, 2, none⟩ (.slice A294_2 ((rd_T33 t288 x6_2).f2).length c294_2)).setCell ⟨gb295, 3, none⟩ (.int .i64 ((rd_T33 t288 x6_2).f3))).heap[gb295]? = some (.cells #[.string ((rd_T33 t288 x6_2).f0), .int .i64 ((rd_T33 t288 x6_2).f1), .slice A294_2 ((rd_T33 t288 x6_2).f2).length c294_2, .int .i64 ((rd_T33 t288 x6_2).f3)] 33 (0, 0))) := ⟨by (with_reducible repeat (first | refine blk_drewN ?_ _ | refine blk_drew ?_ | refine blk_alloc ?_ _)); refine blk_put (cs := #[.string ((rd_T33 t288 x6_2).f0), .int .i64 ((rd_T33 t288 x6_2).f1), .slice A294_2 ((rd_T33 t288 x6_2).f2).length c294_2, .int .i64 0]) ?_ 3 _ rfl; (with_reducible repeat (first | refine blk_drewN ?_ _ | refine blk_drew ?_ | refine blk_alloc ?_ _)); refine blk_put (cs := #[.string ((rd_T33 t288 x6_2).f0), .int .i64 ((rd_T33 t288 x6_2).f1), .slice none 0 0, .int .i64 0]) ?_ 2 _ rfl; (with_reducible repeat (first | refine blk_drewN ?_ _ | refine blk_drew ?_ | refine blk_alloc ?_ _)); refine blk_put (cs := #[.string ((rd_T33 t288 x6_2).f0), .int .i64 0, .slice none 0 0, .int .i64 0]) ?_ 1 _ rfl; (with_reducible repeat (first | refine blk_drewN ?_ _ | refine blk_drew ?_ | refine blk_alloc ?_ _)); refine blk_put (cs := #[.string (⟨#[]⟩ : ByteArray), .int .i64 0, .slice none 0 0, .int .i64 0]) ?_ 0 _ rfl; (with_reducible repeat (first | refine blk_drewN ?_ _ | refine blk_drew ?_ | refine blk_alloc ?_ _)); exact BK295.out⟩
                           have n3_ : Aside0 (Below w.heap.size w ((((w39.setCell ⟨gb295, 0, none⟩ (.string ((rd_T33 t288 x6_2).f0))).setCell ⟨gb295, 1, none⟩ (.int .i64 ((rd_T33 t288 x6_2).f1))).setCell ⟨gb295, 2, none⟩ (.slice A294_2 ((rd_T33 t288 x6_2).f2).length c294_2)).setCell ⟨gb295, 3, none⟩ (.int .i64 ((rd_T33 t288 x6_2).f3)))) := ⟨by repeat (first | (with_reducible first | exact HB.out | apply below_alloc | apply pw_below_drewN | apply below_drew1 | refine below_set ?_ GE295.out) | exact HB.out)⟩
                           (try clear HO_5)
                           (try clear HL294_2)
                           (try clear BK295)
                           (try clear HB)
                           generalize ((((w39.setCell ⟨gb295, 0, none⟩ (.string ((rd_T33 t288 x6_2).f0))).setCell ⟨gb295, 1, none⟩ (.int .i64 ((rd_T33 t288 x6_2).f1))).setCell ⟨gb295, 2, none⟩ (.slice A294_2 ((rd_T33 t288 x6_2).f2).length c294_2)).setCell ⟨gb295, 3, none⟩ (.int .i64 ((rd_T33 t288 x6_2).f3))) = w41 at n0_ n1_ n2_ n3_ ⊢
                           have HO_5 := n0_
                           have HL294_2 := n1_
                           have BK295 := n2_
                           have HB := n3_
                           clear n0_ n1_ n2_ n3_
                           have n0_ := Aside0.mk (Kd.S_drew HO_5.out)
                           have n1_ := Aside0.mk (Kd.R_drew HL294_2.out)
                           have n2_ := Aside0.mk (blk_drew BK295.out)
                           have n3_ := Aside0.mk (below_drew1 HB.out)
                           clear HO_5
                           clear HL294_2
                           clear BK295
                           clear HB
                           have HO_5 := n0_
                           have HL294_2 := n1_
                           have BK295 := n2_
                           have HB := n3_
                           clear n0_ n1_ n2_ n3_
                           have p296 : 0 ≤ (((rd_T33 t288 x6_2).f1) : Int) := of_decide_eq_true (by first | (with_reducible assumption) | assumption)
                           have q296 : ((rd_T33 t288 x6_2).f1) < (l1.length : Int) := of_decide_eq_true (by first | (with_reducible assumption) | assumption)
                           obtain ⟨ad296, e296, hx296_0⟩ := Kd.at_string HR1.out ((rd_T33 t288 x6_2).f1) p296 q296
                           have hw296_0 := hx296_0
                           cases e296
                           replace hx296_0 := (HB.out.cell (World.block_lt_of_cell? w _ hx296_0)).trans hx296_0
                           replace p296 := eq_true p296
                           replace q296 := eq_true q296
                           refine start_ (n := 29) (S := fun w' => w'.cell? ⟨gb295, 0, none⟩ = some (.string ((rd_T33 t288 x6_2).f0)) ∧ w'.cell? ⟨gb295, 1, none⟩ = some (.int .i64 ((rd_T33 t288 x6_2).f1)) ∧ w'.cell? ⟨gb295, 2, none⟩ = some (.slice A294_2 ((rd_T33 t288 x6_2).f2).length c294_2) ∧ w'.cell? ⟨gb295, 3, none⟩ = some (.int .i64 ((rd_T33 t288 x6_2).f3)) ∧ w'.cell? (ad296.add (((rd_T33 t288 x6_2).f1)).toNat) = some (.string (rdOf ByteArray.empty l1 ((rd_T33 t288 x6_2).f1)))) (ds := []) #[false, false, false, false, false, false, false, false, false, false, false, false, false, false, false, false, false, false, false, false, false, false, false, false, false, false, false, false, false] (by kernel_rfl) rfl rfl ⟨(blk_cell BK295.out 0).trans rfl, (blk_cell BK295.out 1).trans rfl, (blk_cell BK295.out 2).trans rfl, (blk_cell BK295.out 3).trans rfl, ((HB.out.cell (World.block_lt_of_cell? w _ hw296_0)).trans hw296_0)⟩ (fun hHeld => ?_); refine with_tabW laws_FnPlaces.tab12 laws_FnPlaces.bits12 (fun HT_ HW_ => ?_)
                           generalize w41.drew = w42 at HO_5 HL294_2 BK295 HB hx296_0 hHeld ⊢
                           refine pure_ (i := 0) (N := some 40) (v := ?_) (a' := ?_) #[true, false, false, false, false, false, false, false, false, false, false, false, false, false, false, false, false, false, false, false, false, false, false, false, false, false, false, false, false] rfl rfl (any_of HT_.out (by kernel_rfl)) (fun _ _ _ h => h) (Or.inl ⟨by rfl, ?_⟩) ?_ ?_
                           rotate_left
                           · intro w'
                             go_simp
                             with_reducible rfl
                           rotate_left
                           · simp only [Act.put, List.setIfInBounds_toArray, List.set_cons_zero, List.set_cons_succ, i64_w, i32_w]
                             rfl
                           refine take_ (i := 1) (N := some 41) (v := ?_) (a' := ?_) #[true, true, false, false, false, false, false, false, false, false, false, false, false, false, false, false, false, false, false, false, false, false, false, false, false, false, false, false, false] rfl rfl (take_ofW HT_.out HW_.out (by kernel_rfl)) (fun _ _ _ h => h) (Or.inl ⟨by rfl, ?_⟩) hHeld ?_ ?_
                           rotate_left
                           · rintro w' ⟨s0, s1, s2, s3, s4⟩
                             go_simp
                             with_reducible rfl
                           rotate_left
                           · simp only [Act.put, List.setIfInBounds_toArray, List.set_cons_zero, List.set_cons_succ, i64_w, i32_w]
                             rfl
                           refine pure_ (i := 2) (N := some 42) (v := ?_) (a' := ?_) #[true, true, true, false, false, false, false, false, false, false, false, false, false, false, false, false, false, false, false, false, false, false, false, false, false, false, false, false, false] rfl rfl (any_of HT_.out (by kernel_rfl)) (fun _ _ _ h => h) (Or.inl ⟨by rfl, ?_⟩) ?_ ?_
                           rotate_left
                           · intro w'
                             go_simp
                             with_reducible rfl
                           rotate_left
                           · simp only [Act.put, List.setIfInBounds_toArray, List.set_cons_zero, List.set_cons_succ, i64_w, i32_w]
                             rfl
                           refine pure_ (i := 3) (N := some 43) (v := ?_) (a' := ?_) #[true, true, true, true, false, false, false, false, false, false, false, false, false, false, false, false, false, false, false, false, false, false, false, false, false, false, false, false, false] rfl rfl (any_of HT_.out (by kernel_rfl)) (fun _ _ _ h => h) (Or.inl ⟨by rfl, ?_⟩) ?_ ?_
                           rotate_left
                           · intro w'
                             go_simp
                             with_reducible rfl
                           rotate_left
                           · simp only [Act.put, List.setIfInBounds_toArray, List.set_cons_zero, List.set_cons_succ, i64_w, i32_w]
                             rfl
                           refine pure_ (i := 4) (N := some 44) (v := ?_) (a' := ?_) #[true, true, true, true, true, false, false, false, false, false, false, false, false, false, false, false, false, false, false, false, false, false, false, false, false, false, false, false, false] rfl rfl (any_of HT_.out (by kernel_rfl)) (fun _ _ _ h => h) (Or.inl ⟨by rfl, ?_⟩) ?_ ?_
                           rotate_left
                           · intro w'
                             go_simp
                             with_reducible rfl
                           rotate_left
                           · simp only [Act.put, List.setIfInBounds_toArray, List.set_cons_zero, List.set_cons_succ, i64_w, i32_w]
                             rfl
                           refine pure_ (i := 6) (N := some 46) (v := ?_) (a' := ?_) #[true, true, true, true, true, false, true, false, false, false, false, false, false, false, false, false, false, false, false, false, false, false, false, false, false, false, false, false, false] rfl rfl (any_of HT_.out (by kernel_rfl)) (fun _ _ _ h => h) (Or.inl ⟨by rfl, ?_⟩) ?_ ?_
                           rotate_left
                           · intro w'
                             go_simp
                             with_reducible rfl
                           rotate_left
                           · simp only [Act.put, List.setIfInBounds_toArray, List.set_cons_zero, List.set_cons_succ, i64_w, i32_w]
                             rfl
                           refine pure_ (i := 7) (N := some 47) (v := ?_) (a' := ?_) #[true, true, true, true, true, false, true, true, false, false, false, false, false, false, false, false, false, false, false, false, false, false, false, false, false, false, false, false, false] rfl rfl (any_of HT_.out (by kernel_rfl)) (fun _ _ _ h => h) (Or.inl ⟨by rfl, ?_⟩) ?_ ?_
                           rotate_left
                           · intro w'
                             go_simp
                             with_reducible rfl
                           rotate_left
                           · simp only [Act.put, List.setIfInBounds_toArray, List.set_cons_zero, List.set_cons_succ, i64_w, i32_w]
                             rfl
                           refine take_ (i := 5) (N := some 45) (v := ?_) (a' := ?_) #[true, true, true, true, true, true, true, true, false, false, false, false, false, false, false, false, false, false, false, false, false, false, false, false, false, false, false, false, false] rfl rfl (take_ofW HT_.out HW_.out (by kernel_rfl)) (fun _ _ _ h => h) (Or.inl ⟨by rfl, ?_⟩) hHeld ?_ ?_
                           rotate_left
                           · rintro w' ⟨s0, s1, s2, s3, s4⟩
                             go_simp
                             with_reducible rfl
                           rotate_left
                           · simp only [Act.put, List.setIfInBounds_toArray, List.set_cons_zero, List.set_cons_succ, i64_w, i32_w]
                             rfl
                           refine pure_ (i := 8) (N := some 48) (v := ?_) (a' := ?_) #[true, true, true, true, true, true, true, true, true, false, false, false, false, false, false, false, false, false, false, false, false, false, false, false, false, false, false, false, false] rfl rfl (any_of HT_.out (by kernel_rfl)) (fun _ _ _ h => h) (Or.inl ⟨by rfl, ?_⟩) ?_ ?_
                           rotate_left
                           · intro w'
                             go_simp
                             with_reducible rfl
                           rotate_left
                           · simp only [Act.put, List.setIfInBounds_toArray, List.set_cons_zero, List.set_cons_succ, i64_w, i32_w]
                             rfl
                           refine pure_ (i := 9) (N := some 49) (v := ?_) (a' := ?_) #[true, true, true, true, true, true, true, true, true, true, false, false, false, false, false, false, false, false, false, false, false, false, false, false, false, false, false, false, false] rfl rfl (any_of HT_.out (by kernel_rfl)) (fun _ _ _ h => h) (Or.inl ⟨by rfl, ?_⟩) ?_ ?_
                           rotate_left
                           · intro w'
                             go_simp
                             with_reducible rfl
                           rotate_left
                           · simp only [Act.put, List.setIfInBounds_toArray, List.set_cons_zero, List.set_cons_succ, i64_w, i32_w]
                             rfl
                           refine pure_ (i := 10) (N := some 50) (v := ?_) (a' := ?_) #[true, true, true, true, true, true, true, true, true, true, true, false, false, false, false, false, false, false, false, false, false, false, false, false, false, false, false, false, false] rfl rfl (any_of HT_.out (by kernel_rfl)) (fun _ _ _ h => h) (Or.inl ⟨by rfl, ?_⟩) ?_ ?_
                           rotate_left
                           · intro w'
                             go_simp
                             with_reducible rfl
                           rotate_left
                           · simp only [Act.put, List.setIfInBounds_toArray, List.set_cons_zero, List.set_cons_succ, i64_w, i32_w]
                             rfl
                           refine pure_ (i := 11) (N := some 51) (v := ?_) (a' := ?_) #[true, true, true, true, true, true, true, true, true, true, true, true, false, false, false, false, false, false, false, false, false, false, false, false, false, false, false, false, false] rfl rfl (any_of HT_.out (by kernel_rfl)) (fun _ _ _ h => h) (Or.inl ⟨by rfl, ?_⟩) ?_ ?_
                           rotate_left
                           · intro w'
                             go_simp
                             with_reducible rfl
                           rotate_left
                           · simp only [Act.put, List.setIfInBounds_toArray, List.set_cons_zero, List.set_cons_succ, i64_w, i32_w]
                             rfl
                           refine pure_ (i := 12) (N := some 52) (v := ?_) (a' := ?_) #[true, true, true, true, true, true, true, true, true, true, true, true, true, false, false, false, false, false, false, false, false, false, false, false, false, false, false, false, false] rfl rfl (any_of HT_.out (by kernel_rfl)) (fun _ _ _ h => h) (Or.inl ⟨by rfl, ?_⟩) ?_ ?_
                           rotate_left
                           · intro w'
                             go_simp
                             with_reducible rfl
                           rotate_left
                           · simp only [Act.put, List.setIfInBounds_toArray, List.set_cons_zero, List.set_cons_succ, i64_w, i32_w]
                             rfl
                           refine pure_ (i := 16) (N := some 56) (v := ?_) (a' := ?_) #[true, true, true, true, true, true, true, true, true, true, true, true, true, false, false, false, true, false, false, false, false, false, false, false, false, false, false, false, false] rfl rfl (any_of HT_.out (by kernel_rfl)) (fun _ _ _ h => h) (Or.inl ⟨by rfl, ?_⟩) ?_ ?_
                           rotate_left
                           · intro w'
                             go_simp
                             with_reducible rfl
                           rotate_left
                           · simp only [Act.put, List.setIfInBounds_toArray, List.set_cons_zero, List.set_cons_succ, i64_w, i32_w]
                             rfl
                           refine take_ (i := 13) (N := some 53) (v := ?_) (a' := ?_) #[true, true, true, true, true, true, true, true, true, true, true, true, true, true, false, false, true, false, false, false, false, false, false, false, false, false, false, false, false] rfl rfl (take_ofW HT_.out HW_.out (by kernel_rfl)) (fun _ _ _ h => h) (Or.inl ⟨by rfl, ?_⟩) hHeld ?_ ?_
                           rotate_left
                           · rintro w' ⟨s0, s1, s2, s3, s4⟩
                             go_simp
                             with_reducible rfl
                           rotate_left
                           · simp only [Act.put, List.setIfInBounds_toArray, List.set_cons_zero, List.set_cons_succ, i64_w, i32_w]
                             rfl
                           refine pure_ (i := 14) (N := some 54) (v := ?_) (a' := ?_) #[true, true, true, true, true, true, true, true, true, true, true, true, true, true, true, false, true, false, false, false, false, false, false, false, false, false, false, false, false] rfl rfl (any_of HT_.out (by kernel_rfl)) (fun _ _ _ h => h) (Or.inl ⟨by rfl, ?_⟩) ?_ ?_
                           rotate_left
                           · intro w'
                             go_simp
                             with_reducible rfl
                           rotate_left
                           · simp only [Act.put, List.setIfInBounds_toArray, List.set_cons_zero, List.set_cons_succ, i64_w, i32_w]
                             rfl
                           refine take_ (i := 15) (N := some 55) (v := ?_) (a' := ?_) #[true, true, true, true, true, true, true, true, true, true, true, true, true, true, true, true, true, false, false, false, false, false, false, false, false, false, false, false, false] rfl rfl (take_ofW HT_.out HW_.out (by kernel_rfl)) (fun _ _ _ h => h) (Or.inl ⟨by rfl, ?_⟩) hHeld ?_ ?_
                           rotate_left
                           · rintro w' ⟨s0, s1, s2, s3, s4⟩
                             go_simp
                             with_reducible rfl
                           rotate_left
                           · simp only [Act.put, List.setIfInBounds_toArray, List.set_cons_zero, List.set_cons_succ, i64_w, i32_w]
                             rfl
                           refine take_ (i := 17) (N := some 57) (v := ?_) (a' := ?_) #[true, true, true, true, true, true, true, true, true, true, true, true, true, true, true, true, true, true, false, false, false, false, false, false, false, false, false, false, false] rfl rfl (take_ofW HT_.out HW_.out (by kernel_rfl)) (fun _ _ _ h => h) (Or.inl ⟨by rfl, ?_⟩) hHeld ?_ ?_
                           rotate_left
                           · rintro w' ⟨s0, s1, s2, s3, s4⟩
                             go_simp
                             with_reducible rfl
                           rotate_left
                           · simp only [Act.put, List.setIfInBounds_toArray, List.set_cons_zero, List.set_cons_succ, i64_w, i32_w]
                             rfl
                           refine pure_ (i := 18) (N := some 58) (v := ?_) (a' := ?_) #[true, true, true, true, true, true, true, true, true, true, true, true, true, true, true, true, true, true, true, false, false, false, false, false, false, false, false, false, false] rfl rfl (any_of HT_.out (by kernel_rfl)) (fun _ _ _ h => h) (Or.inl ⟨by rfl, ?_⟩) ?_ ?_
                           rotate_left
                           · intro w'
                             go_simp
                             with_reducible rfl
                           rotate_left
                           · simp only [Act.put, List.setIfInBounds_toArray, List.set_cons_zero, List.set_cons_succ, i64_w, i32_w]
                             rfl
                           refine pure_ (i := 19) (N := some 59) (v := ?_) (a' := ?_) #[true, true, true, true, true, true, true, true, true, true, true, true, true, true, true, true, true, true, true, true, false, false, false, false, false, false, false, false, false] rfl rfl (any_of HT_.out (by kernel_rfl)) (fun _ _ _ h => h) (Or.inl ⟨by rfl, ?_⟩) ?_ ?_
                           rotate_left
                           · intro w'
                             go_simp
                             with_reducible rfl
                           rotate_left
                           · simp only [Act.put, List.setIfInBounds_toArray, List.set_cons_zero, List.set_cons_succ, i64_w, i32_w]
                             rfl
                           refine pure_ (i := 20) (N := some 60) (v := ?_) (a' := ?_) #[true, true, true, true, true, true, true, true, true, true, true, true, true, true, true, true, true, true, true, true, true, false, false, false, false, false, false, false, false] rfl rfl (any_of HT_.out (by kernel_rfl)) (fun _ _ _ h => h) (Or.inl ⟨by rfl, ?_⟩) ?_ ?_
                           rotate_left
                           · intro w'
                             go_simp
                             with_reducible rfl
                           rotate_left
                           · simp only [Act.put, List.setIfInBounds_toArray, List.set_cons_zero, List.set_cons_succ, i64_w, i32_w]
                             rfl
                           refine pure_ (i := 21) (N := some 61) (v := ?_) (a' := ?_) #[true, true, true, true, true, true, true, true, true, true, true, true, true, true, true, true, true, true, true, true, true, true, false, false, false, false, false, false, false] rfl rfl (any_of HT_.out (by kernel_rfl)) (fun _ _ _ h => h) (Or.inl ⟨by rfl, ?_⟩) ?_ ?_
                           rotate_left
                           · intro w'
                             go_simp
                             with_reducible rfl
                           rotate_left
                           · simp only [Act.put, List.setIfInBounds_toArray, List.set_cons_zero, List.set_cons_succ, i64_w, i32_w]
                             rfl
                           refine pure_ (i := 22) (N := some 62) (v := ?_) (a' := ?_) #[true, true, true, true, true, true, true, true, true, true, true, true, true, true, true, true, true, true, true, true, true, true, true, false, false, false, false, false, false] rfl rfl (any_of HT_.out (by kernel_rfl)) (fun _ _ _ h => h) (Or.inl ⟨by rfl, ?_⟩) ?_ ?_
                           rotate_left
                           · intro w'
                             go_simp
                             with_reducible rfl
                           rotate_left
                           · simp only [Act.put, List.setIfInBounds_toArray, List.set_cons_zero, List.set_cons_succ, i64_w, i32_w]
                             rfl
                           refine pure_ (i := 24) (N := some 64) (v := ?_) (a' := ?_) #[true, true, true, true, true, true, true, true, true, true, true, true, true, true, true, true, true, true, true, true, true, true, true, false, true, false, false, false, false] rfl rfl (any_of HT_.out (by kernel_rfl)) (fun _ _ _ h => h) (Or.inl ⟨by rfl, ?_⟩) ?_ ?_
                           rotate_left
                           · intro w'
                             go_simp
                             with_reducible rfl
                           rotate_left
                           · simp only [Act.put, List.setIfInBounds_toArray, List.set_cons_zero, List.set_cons_succ, i64_w, i32_w]
                             rfl
                           refine take_ (i := 23) (N := some 63) (v := ?_) (a' := ?_) #[true, true, true, true, true, true, true, true, true, true, true, true, true, true, true, true, true, true, true, true, true, true, true, true, true, false, false, false, false] rfl rfl (take_ofW HT_.out HW_.out (by kernel_rfl)) (fun _ _ _ h => h) (Or.inl ⟨by rfl, ?_⟩) hHeld ?_ ?_
                           rotate_left
                           · rintro w' ⟨s0, s1, s2, s3, s4⟩
                             go_simp
                             with_reducible rfl
                           rotate_left
                           · simp only [Act.put, List.setIfInBounds_toArray, List.set_cons_zero, List.set_cons_succ, i64_w, i32_w]
                             rfl
                           refine take_ (i := 25) (N := some 65) (v := ?_) (a' := ?_) #[true, true, true, true, true, true, true, true, true, true, true, true, true, true, true, true, true, true, true, true, true, true, true, true, true, true, false, false, false] rfl rfl (take_ofW HT_.out HW_.out (by kernel_rfl)) (fun _ _ _ h => h) (Or.inl ⟨by rfl, ?_⟩) hHeld ?_ ?_
                           rotate_left
                           · rintro w' ⟨s0, s1, s2, s3, s4⟩
                             go_simp
                             with_reducible rfl
                           rotate_left
                           · simp only [Act.put, List.setIfInBounds_toArray, List.set_cons_zero, List.set_cons_succ, i64_w, i32_w]
                             rfl
                           refine one_ (i := 26) (N := some 66) #[true, true, true, true, true, true, true, true, true, true, true, true, true, true, true, true, true, true, true, true, true, true, true, true, true, true, true, false, false] rfl rfl (one_of HT_.out (by kernel_rfl)) (by decide) (fun K hK => ?_)
                           refine goes_ Tryd.func17 (by kernel_rfl) rfl #[.string a0, .string ((rd_T33 t288 x6_2).f0), .slice A294_2 ((rd_T33 t288 x6_2).f2).length c294_2] (by rfl) rfl rfl (by (try simp only [List.map_toArray, List.map_cons, List.map_nil]); first | done | rfl | (simp only [List.length_drop, List.length_take]; rfl)) ?_
                           with_reducible refine (spec_Stand.calls k2 a0 ((rd_T33 t288 x6_2).f0) _ _ ((rd_T33 t288 x6_2).f2) false _ ?side1 ?side2 (by first | (with_reducible exact HAMB.out) | exact Amb.below HAMB.out (by repeat (first | (with_reducible first | exact HB.out | apply below_alloc | apply pw_below_drewN | apply below_drew1) | exact HB.out)) | exact Amb.below HAMB.out (by repeat (first | (with_reducible first | exact Below.refl _ _ | apply pw_below_drewN | apply below_drew1 | apply below_alloc)))) A32.out).mono ?_
                           (case side1 => repeat (first | exact ((Kd.R_reads' (by (with_reducible repeat (first | apply Kd.R_alloc | apply Kd.R_drewN | apply Kd.R_drew)); exact HL294_2.out)).2.2) | (with_reducible refine Kd.C_alloc ?_ _) | (with_reducible refine Kd.C_drewN ?_ _) | (with_reducible refine Kd.C_drew ?_)))
                           (case side2 => exact HC294_2.out)
                           rintro e w43 ⟨rfl, hb⟩
                           refine ⟨_, rfl, ?_⟩
                           have n0_ := Aside0.mk (Kd.S_below (by (with_reducible repeat (first | apply Kd.S_alloc | apply Kd.S_drewN | apply Kd.S_drew)); exact HO_5.out) hb)
                           have n1_ := Aside0.mk (Kd.R_below (by (with_reducible repeat (first | apply Kd.R_alloc | apply Kd.R_drewN | apply Kd.R_drew)); exact HL294_2.out) hb)
                           have n2_ := Aside0.mk (blk_below (g := gb295) (o := .cells #[.string ((rd_T33 t288 x6_2).f0), .int .i64 ((rd_T33 t288 x6_2).f1), .slice A294_2 ((rd_T33 t288 x6_2).f2).length c294_2, .int .i64 ((rd_T33 t288 x6_2).f3)] 33 (0, 0)) (by (with_reducible repeat (first | refine blk_drewN ?_ _ | refine blk_drew ?_ | refine blk_alloc ?_ _)); exact BK295.out) hb)
                           have n3_ := Aside0.mk (below_step (by repeat (first | (with_reducible first | exact HB.out | apply below_alloc | apply pw_below_drewN | apply below_drew1 | refine below_set ?_ GE295.out) | exact HB.out)) hb)
                           clear HO_5
                           clear HL294_2
                           clear BK295
                           clear HB
                           have HO_5 := n0_
                           have HL294_2 := n1_
                           have BK295 := n2_
                           have HB := n3_
                           clear n0_ n1_ n2_ n3_
                           (try clear hb)
                           (try clear hb2)
                           (try clear hk)
                           (try clear hi)
                           refine hK.out _ _ ⟨(blk_cell BK295.out 0).trans rfl, (blk_cell BK295.out 1).trans rfl, (blk_cell BK295.out 2).trans rfl, (blk_cell BK295.out 3).trans rfl, ((HB.out.cell (World.block_lt_of_cell? w _ hw296_0)).trans hw296_0)⟩ (fun hHeld => ?_)
                           clear hK K
                           refine norm_ (a' := ?_) ?_ ?_
                           rotate_left
                           · show Act.put _ (some 66) _ = _
                             simp only [Act.put, List.setIfInBounds_toArray, List.set_cons_zero, List.set_cons_succ, i64_w, i32_w]
                             rfl
                           refine pure_ (i := 27) (N := some 67) (v := ?_) (a' := ?_) #[true, true, true, true, true, true, true, true, true, true, true, true, true, true, true, true, true, true, true, true, true, true, true, true, true, true, true, true, false] rfl rfl (any_of HT_.out (by kernel_rfl)) (fun _ _ _ h => h) (Or.inl ⟨by rfl, ?_⟩) ?_ ?_
                           rotate_left
                           · intro w'
                             go_simp
                             with_reducible rfl
                           rotate_left
                           · simp only [Act.put, List.setIfInBounds_toArray, List.set_cons_zero, List.set_cons_succ, i64_w, i32_w]
                             rfl
                           refine pure_ (i := 28) (N := some 68) (v := ?_) (a' := ?_) #[true, true, true, true, true, true, true, true, true, true, true, true, true, true, true, true, true, true, true, true, true, true, true, true, true, true, true, true, true] rfl rfl (any_of HT_.out (by kernel_rfl)) (fun _ _ _ h => h) (Or.inl ⟨by rfl, ?_⟩) ?_ ?_
                           rotate_left
                           · intro w'
                             go_simp
                             with_reducible rfl
                           rotate_left
                           · simp only [Act.put, List.setIfInBounds_toArray, List.set_cons_zero, List.set_cons_succ, i64_w, i32_w]
                             rfl
                           refine done_ (done_of HT_.out (by kernel_rfl)) ?_
                           try go_wp2
                           go_ret
                           exact ⟨by first | rfl | (simp [errW_none, errW_some] <;> rfl) | (simp [*, errW_none, errW_some] <;> rfl), by repeat (first | (with_reducible first | exact HB.out | apply below_alloc | apply pw_below_drewN | apply below_drew1 | refine below_set ?_ GE295.out) | exact HB.out)⟩
                       · rw [if_neg c31] at H
                         have c31b0 : ((rdOf ByteArray.empty l1 ((rd_T33 t288 x6_2).f1)).toList == ((rd_T33 t288 x6_2).f0).toList) = false := beq_eq_false_iff_ne.mpr c31
                         have c31b1 : ((rdOf ByteArray.empty l1 ((rd_T33 t288 x6_2).f1)).toList != ((rd_T33 t288 x6_2).f0).toList) = true := bne_iff_ne.mpr c31
                         obtain rfl := Option.some.inj H
                         have p294 : 0 ≤ (x6_2 : Int) := of_decide_eq_true (by first | (with_reducible assumption) | assumption)
                         have q294 : x6_2 < (t288.length : Int) := of_decide_eq_true (by first | (with_reducible assumption) | assumption)
                         obtain ⟨ad294, A294_2, c294_2, e294, hx294_0, hx294_1, hx294_2, hx294_3, hl294_2, hi294_2⟩ := at_T33 (Kd.S_reads' HO_5.out).2.2 x6_2 p294 q294
                         cases e294
                         obtain ⟨ce294, hce294, hMe294, hcc294⟩ := Kd.S_get HO_5.out z33 x6_2 p294 (by first | exact q294 | exact of_decide_eq_true (by first | (with_reducible assumption) | assumption) | (have e_ := (Kd.S_reads' HO_5.out).1; omega))
                         obtain ⟨ve294_2, rfl, ge294_2⟩ := k33_openM hMe294
                         have hv294_2 := hcc294 2 _ rfl
                         rw [add_field _ _ 2 (by omega)] at hv294_2
                         replace hv294_2 := Option.some.inj (hv294_2.symm.trans hx294_2)
                         rw [hv294_2] at ge294_2
                         have HL294_2 := Aside0.mk (show Kd.R (Kd.int .i64) 3 _ _ _ _ ((rd_T33 t288 x6_2).f2) from ge294_2)
                         clear hv294_2 ge294_2
                         clear hcc294 hce294
                         have HR294_2 := Aside0.mk hi294_2
                         have HC294_2 := Aside0.mk hl294_2
                         clear hi294_2 hl294_2
                         replace p294 := eq_true p294
                         replace q294 := eq_true q294
                         try go_wp2_with (first | ((with_reducible refine gate_dst (N := 7) rfl ?_); (try (refine gate_guard (by rfl) ?_; dsimp only)); refine box_event ?hg (N := 7) ?hd (cs := #[.string (⟨#[]⟩ : ByteArray), .int .i64 0, .slice none 0 0, .int .i64 0]) (t := 33) ?hr ?_; (case hd => rfl); (case hg => rfl); (case hr => first | (go_simp; done) | (go_simp; rfl)); intro gb295 hg w44 hbox hb; have n0_ := Aside0.mk (Kd.S_below (Kd.S_elderB (by (with_reducible repeat (first | apply Kd.S_alloc | apply Kd.S_drewN | apply Kd.S_drew)); exact HO_5.out) gb295 (Nat.le_of_eq hg.symm)) hb); have n1_ := Aside0.mk (Kd.R_below (by (with_reducible repeat (first | apply Kd.R_alloc | apply Kd.R_drewN | apply Kd.R_drew)); exact HL294_2.out) hb); have n2_ := Aside0.mk (Kd.C_below (by repeat (first | (with_reducible exact HR294_2.out) | (with_reducible refine Kd.C_alloc ?_ _) | (with_reducible refine Kd.C_drewN ?_ _) | (with_reducible refine Kd.C_drew ?_) | exact HR294_2.out)) hb); have n3_ := Aside0.mk (below_step (by repeat (first | (with_reducible first | exact HB.out | apply below_alloc | apply pw_below_drewN | apply below_drew1) | exact HB.out)) hb); have n4_ := Aside0.mk (hbox); have n5_ := Aside0.mk ((by rw [hg]; exact (below_size (by repeat (first | (with_reducible first | exact HB.out | apply below_alloc | apply pw_below_drewN | apply below_drew1) | exact HB.out))) : w.heap.size ≤ gb295)); have n6_ := Aside0.mk ((by rw [hg]; exact (below_size (by repeat (first | (with_reducible first | exact HB.out | apply below_alloc | apply pw_below_drewN | apply below_drew1) | exact HB.out))) : w.heap.size ≤ gb295)); clear HO_5; clear HL294_2; clear HR294_2; clear HB; have HO_5 := n0_; have HL294_2 := n1_; have HR294_2 := n2_; have HB := n3_; have BK295 := n4_; have GW295 := n5_; have GE295 := n6_; clear n0_ n1_ n2_ n3_ n4_ n5_ n6_; clear hb hbox hg; have hcz45_0 : w44.cell? ⟨gb295, 0, none⟩ = some (.string (⟨#[]⟩ : ByteArray)) := (blk_cell BK295.out 0).trans rfl; have hcz45_1 : w44.cell? ⟨gb295, 1, none⟩ = some (.int .i64 0) := (blk_cell BK295.out 1).trans rfl; have hcz45_2 : w44.cell? ⟨gb295, 2, none⟩ = some (.slice none 0 0) := (blk_cell BK295.out 2).trans rfl; have hcz45_3 : w44.cell? ⟨gb295, 3, none⟩ = some (.int .i64 0) := (blk_cell BK295.out 3).trans rfl; have hfz45_0 := blk_frozen BK295.out 0; have hfz45_1 := blk_frozen BK295.out 1; have hfz45_2 := blk_frozen BK295.out 2; have hfz45_3 := blk_frozen BK295.out 3))
                         have n0_ : Aside0 (Kd.S k33 33 ((((w44.setCell ⟨gb295, 0, none⟩ (.string ((rd_T33 t288 x6_2).f0))).setCell ⟨gb295, 1, none⟩ (.int .i64 ((rd_T33 t288 x6_2).f1))).setCell ⟨gb295, 2, none⟩ (.slice A294_2 ((rd_T33 t288 x6_2).f2).length c294_2)).setCell ⟨gb295, 3, none⟩ (.int .i64 ((rd_T33 t288 x6_2).f3))) w.heap.size (fun k_ => k_ ≠ gb295) (.slice (some ad294) t288.length co14) t288) := ⟨by (with_reducible repeat (first | apply Kd.S_alloc | apply Kd.S_drewN | apply Kd.S_drew)); exact Kd.S_mono (Kd.S_far (p := ⟨gb295, 3, none⟩) (Kd.S_far (p := ⟨gb295, 2, none⟩) (Kd.S_far (p := ⟨gb295, 1, none⟩) (Kd.S_far (p := ⟨gb295, 0, none⟩) (Kd.S_mono HO_5.out (fun k_ hk => (⟨hk, hk.2⟩ : _ ∧ k_ ≠ gb295))) (fun _ hk => hk.2) (.string ((rd_T33 t288 x6_2).f0))) (fun _ hk => hk.2) (.int .i64 ((rd_T33 t288 x6_2).f1))) (fun _ hk => hk.2) (.slice A294_2 ((rd_T33 t288 x6_2).f2).length c294_2)) (fun _ hk => hk.2) (.int .i64 ((rd_T33 t288 x6_2).f3))) (fun _ hk => hk.1.2)⟩
                         have n1_ : Aside0 (Kd.R (Kd.int .i64) 3 ((((w44.setCell ⟨gb295, 0, none⟩ (.string ((rd_T33 t288 x6_2).f0))).setCell ⟨gb295, 1, none⟩ (.int .i64 ((rd_T33 t288 x6_2).f1))).setCell ⟨gb295, 2, none⟩ (.slice A294_2 ((rd_T33 t288 x6_2).f2).length c294_2)).setCell ⟨gb295, 3, none⟩ (.int .i64 ((rd_T33 t288 x6_2).f3))) w.heap.size (fun k_ => some k_ ≠ (.slice (some ad294) t288.length co14 : Value).ownBlock) (.slice A294_2 ((rd_T33 t288 x6_2).f2).length c294_2) ((rd_T33 t288 x6_2).f2)) := ⟨by (with_reducible repeat (first | apply Kd.R_alloc | apply Kd.R_drewN | apply Kd.R_drew)); exact Kd.R_mono (Kd.R_far (p := ⟨gb295, 3, none⟩) (Kd.R_far (p := ⟨gb295, 2, none⟩) (Kd.R_far (p := ⟨gb295, 1, none⟩) (Kd.R_far (p := ⟨gb295, 0, none⟩) (Kd.R_types HL294_2.out BK295.out (by decide)) (fun _ hk => hk.2) (.string ((rd_T33 t288 x6_2).f0))) (fun _ hk => hk.2) (.int .i64 ((rd_T33 t288 x6_2).f1))) (fun _ hk => hk.2) (.slice A294_2 ((rd_T33 t288 x6_2).f2).length c294_2)) (fun _ hk => hk.2) (.int .i64 ((rd_T33 t288 x6_2).f3))) (fun _ hk => hk.1.2)⟩
                         have n2_ : Aside0 (((((w44.setCell ⟨gb295, 0, none⟩ (.string ((rd_T33 t288 x6_2).f0))).setCell ⟨gb295, 1, none⟩ (.int .i64 ((rd_T33 t288 x6_2).f1))).setCell ⟨gb295, 2, none⟩ (.slice A294_2 ((rd_T33 t288 x6_2).f2).length c294_2)).setCell ⟨gb295, 3, none⟩ (.int .i64 ((rd_T33 t288 x6_2).f3))).heap[gb295]? = some (.cells #[.string ((rd_T33 t288 x6_2).f0), .int .i64 ((rd_T33 t288 x6_2).f1), .slice A294_2 ((rd_T33 t288 x6_2).f2).length c294_2, .int .i64 ((rd_T33 t288 x6_2).f3)] 33 (0, 0))) := ⟨by (with_reducible repeat (first | refine blk_drewN ?_ _ | refine blk_drew ?_ | refine blk_alloc ?_ _)); refine blk_put (cs := #[.string ((rd_T33 t288 x6_2).f0), .int .i64 ((rd_T33 t288 x6_2).f1), .slice A294_2 ((rd_T33 t288 x6_2).f2).length c294_2, .int .i64 0]) ?_ 3 _ rfl; (with_reducible repeat (first | refine blk_drewN ?_ _ | refine blk_drew ?_ | refine blk_alloc ?_ _)); refine blk_put (cs := #[.string ((rd_T33 t288 x6_2).f0), .int .i64 ((rd_T33 t288 x6_2).f1), .slice none 0 0, .int .i64 0]) ?_ 2 _ rfl; (with_reducible repeat (first | refine blk_drewN ?_ _ | refine blk_drew ?_ | refine blk_alloc ?_ _)); refine blk_put (cs := #[.string ((rd_T33 t288 x6_2).f0), .int .i64 0, .slice none 0 0, .int .i64 0]) ?_ 1 _ rfl; (with_reducible repeat (first | refine blk_drewN ?_ _ | refine blk_drew ?_ | refine blk_alloc ?_ _)); refine blk_put (cs := #[.string (⟨#[]⟩ : ByteArray), .int .i64 0, .slice none 0 0, .int .i64 0]) ?_ 0 _ rfl; (with_reducible repeat (first | refine blk_drewN ?_ _ | refine blk_drew ?_ | refine blk_alloc ?_ _)); exact BK295.out⟩
                         have n3_ : Aside0 (Below w.heap.size w ((((w44.setCell ⟨gb295, 0, none⟩ (.string ((rd_T33 t288 x6_2).f0))).setCell ⟨gb295, 1, none⟩ (.int .i64 ((rd_T33 t288 x6_2).f1))).setCell ⟨gb295, 2, none⟩ (.slice A294_2 ((rd_T33 t288 x6_2).f2).length c294_2)).setCell ⟨gb295, 3, none⟩ (.int .i64 ((rd_T33 t288 x6_2).f3)))) := ⟨by repeat (first | (with_reducible first | exact HB.out | apply below_alloc | apply pw_below_drewN | apply below_drew1 | refine below_set ?_ GE295.out) | exact HB.out)⟩
                         (try clear HO_5)
                         (try clear HL294_2)
                         (try clear BK295)
                         (try clear HB)
                         generalize ((((w44.setCell ⟨gb295, 0, none⟩ (.string ((rd_T33 t288 x6_2).f0))).setCell ⟨gb295, 1, none⟩ (.int .i64 ((rd_T33 t288 x6_2).f1))).setCell ⟨gb295, 2, none⟩ (.slice A294_2 ((rd_T33 t288 x6_2).f2).length c294_2)).setCell ⟨gb295, 3, none⟩ (.int .i64 ((rd_T33 t288 x6_2).f3))) = w46 at n0_ n1_ n2_ n3_ ⊢
                         have HO_5 := n0_
                         have HL294_2 := n1_
                         have BK295 := n2_
                         have HB := n3_
                         clear n0_ n1_ n2_ n3_
                         have n0_ := Aside0.mk (Kd.S_drew HO_5.out)
                         have n1_ := Aside0.mk (Kd.R_drew HL294_2.out)
                         have n2_ := Aside0.mk (blk_drew BK295.out)
                         have n3_ := Aside0.mk (below_drew1 HB.out)
                         clear HO_5
                         clear HL294_2
                         clear BK295
                         clear HB
                         have HO_5 := n0_
                         have HL294_2 := n1_
                         have BK295 := n2_
                         have HB := n3_
                         clear n0_ n1_ n2_ n3_
                         have p296 : 0 ≤ (((rd_T33 t288 x6_2).f1) : Int) := of_decide_eq_true (by first | (with_reducible assumption) | assumption)
                         have q296 : ((rd_T33 t288 x6_2).f1) < (l1.length : Int) := of_decide_eq_true (by first | (with_reducible assumption) | assumption)
                         obtain ⟨ad296, e296, hx296_0⟩ := Kd.at_string HR1.out ((rd_T33 t288 x6_2).f1) p296 q296
                         have hw296_0 := hx296_0
                         cases e296
                         replace hx296_0 := (HB.out.cell (World.block_lt_of_cell? w _ hx296_0)).trans hx296_0
                         replace p296 := eq_true p296
                         replace q296 := eq_true q296
                         refine start_ (n := 29) (S := fun w' => w'.cell? ⟨gb295, 0, none⟩ = some (.string ((rd_T33 t288 x6_2).f0)) ∧ w'.cell? ⟨gb295, 1, none⟩ = some (.int .i64 ((rd_T33 t288 x6_2).f1)) ∧ w'.cell? ⟨gb295, 2, none⟩ = some (.slice A294_2 ((rd_T33 t288 x6_2).f2).length c294_2) ∧ w'.cell? ⟨gb295, 3, none⟩ = some (.int .i64 ((rd_T33 t288 x6_2).f3)) ∧ w'.cell? (ad296.add (((rd_T33 t288 x6_2).f1)).toNat) = some (.string (rdOf ByteArray.empty l1 ((rd_T33 t288 x6_2).f1)))) (ds := []) #[false, false, false, false, false, false, false, false, false, false, false, false, false, false, false, false, false, false, false, false, false, false, false, false, false, false, false, false, false] (by kernel_rfl) rfl rfl ⟨(blk_cell BK295.out 0).trans rfl, (blk_cell BK295.out 1).trans rfl, (blk_cell BK295.out 2).trans rfl, (blk_cell BK295.out 3).trans rfl, ((HB.out.cell (World.block_lt_of_cell? w _ hw296_0)).trans hw296_0)⟩ (fun hHeld => ?_); refine with_tabW laws_FnPlaces.tab12 laws_FnPlaces.bits12 (fun HT_ HW_ => ?_)
                         generalize w46.drew = w47 at HO_5 HL294_2 BK295 HB hx296_0 hHeld ⊢
                         refine pure_ (i := 0) (N := some 40) (v := ?_) (a' := ?_) #[true, false, false, false, false, false, false, false, false, false, false, false, false, false, false, false, false, false, false, false, false, false, false, false, false, false, false, false, false] rfl rfl (any_of HT_.out (by kernel_rfl)) (fun _ _ _ h => h) (Or.inl ⟨by rfl, ?_⟩) ?_ ?_
                         rotate_left
                         · intro w'
                           go_simp
                           with_reducible rfl
                         rotate_left
                         · simp only [Act.put, List.setIfInBounds_toArray, List.set_cons_zero, List.set_cons_succ, i64_w, i32_w]
                           rfl
                         refine take_ (i := 1) (N := some 41) (v := ?_) (a' := ?_) #[true, true, false, false, false, false, false, false, false, false, false, false, false, false, false, false, false, false, false, false, false, false, false, false, false, false, false, false, false] rfl rfl (take_ofW HT_.out HW_.out (by kernel_rfl)) (fun _ _ _ h => h) (Or.inl ⟨by rfl, ?_⟩) hHeld ?_ ?_
                         rotate_left
                         · rintro w' ⟨s0, s1, s2, s3, s4⟩
                           go_simp
                           with_reducible rfl
                         rotate_left
                         · simp only [Act.put, List.setIfInBounds_toArray, List.set_cons_zero, List.set_cons_succ, i64_w, i32_w]
                           rfl
                         refine pure_ (i := 2) (N := some 42) (v := ?_) (a' := ?_) #[true, true, true, false, false, false, false, false, false, false, false, false, false, false, false, false, false, false, false, false, false, false, false, false, false, false, false, false, false] rfl rfl (any_of HT_.out (by kernel_rfl)) (fun _ _ _ h => h) (Or.inl ⟨by rfl, ?_⟩) ?_ ?_
                         rotate_left
                         · intro w'
                           go_simp
                           with_reducible rfl
                         rotate_left
                         · simp only [Act.put, List.setIfInBounds_toArray, List.set_cons_zero, List.set_cons_succ, i64_w, i32_w]
                           rfl
                         refine pure_ (i := 3) (N := some 43) (v := ?_) (a' := ?_) #[true, true, true, true, false, false, false, false, false, false, false, false, false, false, false, false, false, false, false, false, false, false, false, false, false, false, false, false, false] rfl rfl (any_of HT_.out (by kernel_rfl)) (fun _ _ _ h => h) (Or.inl ⟨by rfl, ?_⟩) ?_ ?_
                         rotate_left
                         · intro w'
                           go_simp
                           with_reducible rfl
                         rotate_left
                         · simp only [Act.put, List.setIfInBounds_toArray, List.set_cons_zero, List.set_cons_succ, i64_w, i32_w]
                           rfl
                         refine pure_ (i := 4) (N := some 44) (v := ?_) (a' := ?_) #[true, true, true, true, true, false, false, false, false, false, false, false, false, false, false, false, false, false, false, false, false, false, false, false, false, false, false, false, false] rfl rfl (any_of HT_.out (by kernel_rfl)) (fun _ _ _ h => h) (Or.inl ⟨by rfl, ?_⟩) ?_ ?_
                         rotate_left
                         · intro w'
                           go_simp
                           with_reducible rfl
                         rotate_left
                         · simp only [Act.put, List.setIfInBounds_toArray, List.set_cons_zero, List.set_cons_succ, i64_w, i32_w]
                           rfl
                         refine pure_ (i := 6) (N := some 46) (v := ?_) (a' := ?_) #[true, true, true, true, true, false, true, false, false, false, false, false, false, false, false, false, false, false, false, false, false, false, false, false, false, false, false, false, false] rfl rfl (any_of HT_.out (by kernel_rfl)) (fun _ _ _ h => h) (Or.inl ⟨by rfl, ?_⟩) ?_ ?_
                         rotate_left
                         · intro w'
                           go_simp
                           with_reducible rfl
                         rotate_left
                         · simp only [Act.put, List.setIfInBounds_toArray, List.set_cons_zero, List.set_cons_succ, i64_w, i32_w]
                           rfl
                         refine pure_ (i := 7) (N := some 47) (v := ?_) (a' := ?_) #[true, true, true, true, true, false, true, true, false, false, false, false, false, false, false, false, false, false, false, false, false, false, false, false, false, false, false, false, false] rfl rfl (any_of HT_.out (by kernel_rfl)) (fun _ _ _ h => h) (Or.inl ⟨by rfl, ?_⟩) ?_ ?_
                         rotate_left
                         · intro w'
                           go_simp
                           with_reducible rfl
                         rotate_left
                         · simp only [Act.put, List.setIfInBounds_toArray, List.set_cons_zero, List.set_cons_succ, i64_w, i32_w]
                           rfl
                         refine take_ (i := 5) (N := some 45) (v := ?_) (a' := ?_) #[true, true, true, true, true, true, true, true, false, false, false, false, false, false, false, false, false, false, false, false, false, false, false, false, false, false, false, false, false] rfl rfl (take_ofW HT_.out HW_.out (by kernel_rfl)) (fun _ _ _ h => h) (Or.inl ⟨by rfl, ?_⟩) hHeld ?_ ?_
                         rotate_left
                         · rintro w' ⟨s0, s1, s2, s3, s4⟩
                           go_simp
                           with_reducible rfl
                         rotate_left
                         · simp only [Act.put, List.setIfInBounds_toArray, List.set_cons_zero, List.set_cons_succ, i64_w, i32_w]
                           rfl
                         refine pure_ (i := 8) (N := some 48) (v := ?_) (a' := ?_) #[true, true, true, true, true, true, true, true, true, false, false, false, false, false, false, false, false, false, false, false, false, false, false, false, false, false, false, false, false] rfl rfl (any_of HT_.out (by kernel_rfl)) (fun _ _ _ h => h) (Or.inl ⟨by rfl, ?_⟩) ?_ ?_
                         rotate_left
                         · intro w'
                           go_simp
                           with_reducible rfl
                         rotate_left
                         · simp only [Act.put, List.setIfInBounds_toArray, List.set_cons_zero, List.set_cons_succ, i64_w, i32_w]
                           rfl
                         refine pure_ (i := 9) (N := some 49) (v := ?_) (a' := ?_) #[true, true, true, true, true, true, true, true, true, true, false, false, false, false, false, false, false, false, false, false, false, false, false, false, false, false, false, false, false] rfl rfl (any_of HT_.out (by kernel_rfl)) (fun _ _ _ h => h) (Or.inl ⟨by rfl, ?_⟩) ?_ ?_
                         rotate_left
                         · intro w'
                           go_simp
                           with_reducible rfl
                         rotate_left
                         · simp only [Act.put, List.setIfInBounds_toArray, List.set_cons_zero, List.set_cons_succ, i64_w, i32_w]
                           rfl
                         refine pure_ (i := 10) (N := some 50) (v := ?_) (a' := ?_) #[true, true, true, true, true, true, true, true, true, true, true, false, false, false, false, false, false, false, false, false, false, false, false, false, false, false, false, false, false] rfl rfl (any_of HT_.out (by kernel_rfl)) (fun _ _ _ h => h) (Or.inl ⟨by rfl, ?_⟩) ?_ ?_
                         rotate_left
                         · intro w'
                           go_simp
                           with_reducible rfl
                         rotate_left
                         · simp only [Act.put, List.setIfInBounds_toArray, List.set_cons_zero, List.set_cons_succ, i64_w, i32_w]
                           rfl
                         refine pure_ (i := 11) (N := some 51) (v := ?_) (a' := ?_) #[true, true, true, true, true, true, true, true, true, true, true, true, false, false, false, false, false, false, false, false, false, false, false, false, false, false, false, false, false] rfl rfl (any_of HT_.out (by kernel_rfl)) (fun _ _ _ h => h) (Or.inl ⟨by rfl, ?_⟩) ?_ ?_
                         rotate_left
                         · intro w'
                           go_simp
                           with_reducible rfl
                         rotate_left
                         · simp only [Act.put, List.setIfInBounds_toArray, List.set_cons_zero, List.set_cons_succ, i64_w, i32_w]
                           rfl
                         refine pure_ (i := 12) (N := some 52) (v := ?_) (a' := ?_) #[true, true, true, true, true, true, true, true, true, true, true, true, true, false, false, false, false, false, false, false, false, false, false, false, false, false, false, false, false] rfl rfl (any_of HT_.out (by kernel_rfl)) (fun _ _ _ h => h) (Or.inl ⟨by rfl, ?_⟩) ?_ ?_
                         rotate_left
                         · intro w'
                           go_simp
                           with_reducible rfl
                         rotate_left
                         · simp only [Act.put, List.setIfInBounds_toArray, List.set_cons_zero, List.set_cons_succ, i64_w, i32_w]
                           rfl
                         refine pure_ (i := 16) (N := some 56) (v := ?_) (a' := ?_) #[true, true, true, true, true, true, true, true, true, true, true, true, true, false, false, false, true, false, false, false, false, false, false, false, false, false, false, false, false] rfl rfl (any_of HT_.out (by kernel_rfl)) (fun _ _ _ h => h) (Or.inl ⟨by rfl, ?_⟩) ?_ ?_
                         rotate_left
                         · intro w'
                           go_simp
                           with_reducible rfl
                         rotate_left
                         · simp only [Act.put, List.setIfInBounds_toArray, List.set_cons_zero, List.set_cons_succ, i64_w, i32_w]
                           rfl
                         refine take_ (i := 13) (N := some 53) (v := ?_) (a' := ?_) #[true, true, true, true, true, true, true, true, true, true, true, true, true, true, false, false, true, false, false, false, false, false, false, false, false, false, false, false, false] rfl rfl (take_ofW HT_.out HW_.out (by kernel_rfl)) (fun _ _ _ h => h) (Or.inl ⟨by rfl, ?_⟩) hHeld ?_ ?_
                         rotate_left
                         · rintro w' ⟨s0, s1, s2, s3, s4⟩
                           go_simp
                           with_reducible rfl
                         rotate_left
                         · simp only [Act.put, List.setIfInBounds_toArray, List.set_cons_zero, List.set_cons_succ, i64_w, i32_w]
                           rfl
                         refine pure_ (i := 14) (N := some 54) (v := ?_) (a' := ?_) #[true, true, true, true, true, true, true, true, true, true, true, true, true, true, true, false, true, false, false, false, false, false, false, false, false, false, false, false, false] rfl rfl (any_of HT_.out (by kernel_rfl)) (fun _ _ _ h => h) (Or.inl ⟨by rfl, ?_⟩) ?_ ?_
                         rotate_left
                         · intro w'
                           go_simp
                           with_reducible rfl
                         rotate_left
                         · simp only [Act.put, List.setIfInBounds_toArray, List.set_cons_zero, List.set_cons_succ, i64_w, i32_w]
                           rfl
                         refine take_ (i := 15) (N := some 55) (v := ?_) (a' := ?_) #[true, true, true, true, true, true, true, true, true, true, true, true, true, true, true, true, true, false, false, false, false, false, false, false, false, false, false, false, false] rfl rfl (take_ofW HT_.out HW_.out (by kernel_rfl)) (fun _ _ _ h => h) (Or.inl ⟨by rfl, ?_⟩) hHeld ?_ ?_
                         rotate_left
                         · rintro w' ⟨s0, s1, s2, s3, s4⟩
                           go_simp
                           with_reducible rfl
                         rotate_left
                         · simp only [Act.put, List.setIfInBounds_toArray, List.set_cons_zero, List.set_cons_succ, i64_w, i32_w]
                           rfl
                         refine take_ (i := 17) (N := some 57) (v := ?_) (a' := ?_) #[true, true, true, true, true, true, true, true, true, true, true, true, true, true, true, true, true, true, false, false, false, false, false, false, false, false, false, false, false] rfl rfl (take_ofW HT_.out HW_.out (by kernel_rfl)) (fun _ _ _ h => h) (Or.inl ⟨by rfl, ?_⟩) hHeld ?_ ?_
                         rotate_left
                         · rintro w' ⟨s0, s1, s2, s3, s4⟩
                           go_simp
                           with_reducible rfl
                         rotate_left
                         · simp only [Act.put, List.setIfInBounds_toArray, List.set_cons_zero, List.set_cons_succ, i64_w, i32_w]
                           rfl
                         refine pure_ (i := 18) (N := some 58) (v := ?_) (a' := ?_) #[true, true, true, true, true, true, true, true, true, true, true, true, true, true, true, true, true, true, true, false, false, false, false, false, false, false, false, false, false] rfl rfl (any_of HT_.out (by kernel_rfl)) (fun _ _ _ h => h) (Or.inl ⟨by rfl, ?_⟩) ?_ ?_
                         rotate_left
                         · intro w'
                           go_simp
                           with_reducible rfl
                         rotate_left
                         · simp only [Act.put, List.setIfInBounds_toArray, List.set_cons_zero, List.set_cons_succ, i64_w, i32_w]
                           rfl
                         refine pure_ (i := 19) (N := some 59) (v := ?_) (a' := ?_) #[true, true, true, true, true, true, true, true, true, true, true, true, true, true, true, true, true, true, true, true, false, false, false, false, false, false, false, false, false] rfl rfl (any_of HT_.out (by kernel_rfl)) (fun _ _ _ h => h) (Or.inl ⟨by rfl, ?_⟩) ?_ ?_
                         rotate_left
                         · intro w'
                           go_simp
                           with_reducible rfl
                         rotate_left
                         · simp only [Act.put, List.setIfInBounds_toArray, List.set_cons_zero, List.set_cons_succ, i64_w, i32_w]
                           rfl
                         refine pure_ (i := 20) (N := some 60) (v := ?_) (a' := ?_) #[true, true, true, true, true, true, true, true, true, true, true, true, true, true, true, true, true, true, true, true, true, false, false, false, false, false, false, false, false] rfl rfl (any_of HT_.out (by kernel_rfl)) (fun _ _ _ h => h) (Or.inl ⟨by rfl, ?_⟩) ?_ ?_
                         rotate_left
                         · intro w'
                           go_simp
                           with_reducible rfl
                         rotate_left
                         · simp only [Act.put, List.setIfInBounds_toArray, List.set_cons_zero, List.set_cons_succ, i64_w, i32_w]
                           rfl
                         refine pure_ (i := 21) (N := some 61) (v := undef) (a' := ?_) #[true, true, true, true, true, true, true, true, true, true, true, true, true, true, true, true, true, true, true, true, true, true, false, false, false, false, false, false, false] rfl rfl (any_of HT_.out (by kernel_rfl)) (fun _ _ _ h => h) (Or.inr ⟨by rfl, rfl⟩) ?_ ?_
                         rotate_left
                         · simp only [Act.put, List.setIfInBounds_toArray, List.set_cons_zero, List.set_cons_succ, i64_w, i32_w]
                           rfl
                         refine pure_ (i := 22) (N := some 62) (v := undef) (a' := ?_) #[true, true, true, true, true, true, true, true, true, true, true, true, true, true, true, true, true, true, true, true, true, true, true, false, false, false, false, false, false] rfl rfl (any_of HT_.out (by kernel_rfl)) (fun _ _ _ h => h) (Or.inr ⟨by rfl, rfl⟩) ?_ ?_
                         rotate_left
                         · simp only [Act.put, List.setIfInBounds_toArray, List.set_cons_zero, List.set_cons_succ, i64_w, i32_w]
                           rfl
                         refine pure_ (i := 23) (N := some 63) (v := undef) (a' := ?_) #[true, true, true, true, true, true, true, true, true, true, true, true, true, true, true, true, true, true, true, true, true, true, true, true, false, false, false, false, false] rfl rfl (any_of HT_.out (by kernel_rfl)) (fun _ _ _ h => h) (Or.inr ⟨by rfl, rfl⟩) ?_ ?_
                         rotate_left
                         · simp only [Act.put, List.setIfInBounds_toArray, List.set_cons_zero, List.set_cons_succ, i64_w, i32_w]
                           rfl
                         refine pure_ (i := 24) (N := some 64) (v := undef) (a' := ?_) #[true, true, true, true, true, true, true, true, true, true, true, true, true, true, true, true, true, true, true, true, true, true, true, true, true, false, false, false, false] rfl rfl (any_of HT_.out (by kernel_rfl)) (fun _ _ _ h => h) (Or.inr ⟨by rfl, rfl⟩) ?_ ?_
                         rotate_left
                         · simp only [Act.put, List.setIfInBounds_toArray, List.set_cons_zero, List.set_cons_succ, i64_w, i32_w]
                           rfl
                         refine pure_ (i := 25) (N := some 65) (v := undef) (a' := ?_) #[true, true, true, true, true, true, true, true, true, true, true, true, true, true, true, true, true, true, true, true, true, true, true, true, true, true, false, false, false] rfl rfl (any_of HT_.out (by kernel_rfl)) (fun _ _ _ h => h) (Or.inr ⟨by rfl, rfl⟩) ?_ ?_
                         rotate_left
                         · simp only [Act.put, List.setIfInBounds_toArray, List.set_cons_zero, List.set_cons_succ, i64_w, i32_w]
                           rfl
                         refine pure_ (i := 26) (N := some 66) (v := undef) (a' := ?_) #[true, true, true, true, true, true, true, true, true, true, true, true, true, true, true, true, true, true, true, true, true, true, true, true, true, true, true, false, false] rfl rfl (any_of HT_.out (by kernel_rfl)) (fun _ _ _ h => h) (Or.inr ⟨by rfl, rfl⟩) ?_ ?_
                         rotate_left
                         · simp only [Act.put, List.setIfInBounds_toArray, List.set_cons_zero, List.set_cons_succ, i64_w, i32_w]
                           rfl
                         refine pure_ (i := 27) (N := some 67) (v := undef) (a' := ?_) #[true, true, true, true, true, true, true, true, true, true, true, true, true, true, true, true, true, true, true, true, true, true, true, true, true, true, true, true, false] rfl rfl (any_of HT_.out (by kernel_rfl)) (fun _ _ _ h => h) (Or.inr ⟨by rfl, rfl⟩) ?_ ?_
                         rotate_left
                         · simp only [Act.put, List.setIfInBounds_toArray, List.set_cons_zero, List.set_cons_succ, i64_w, i32_w]
                           rfl
                         refine pure_ (i := 28) (N := some 68) (v := ?_) (a' := ?_) #[true, true, true, true, true, true, true, true, true, true, true, true, true, true, true, true, true, true, true, true, true, true, true, true, true, true, true, true, true] rfl rfl (any_of HT_.out (by kernel_rfl)) (fun _ _ _ h => h) (Or.inl ⟨by rfl, ?_⟩) ?_ ?_
                         rotate_left
                         · intro w'
                           go_simp
                           with_reducible rfl
                         rotate_left
                         · simp only [Act.put, List.setIfInBounds_toArray, List.set_cons_zero, List.set_cons_succ, i64_w, i32_w]
                           rfl
                         refine done_ (done_of HT_.out (by kernel_rfl)) ?_
                         try go_wp2
                         go_ret
                         exact ⟨by first | rfl | (simp [errW_none, errW_some] <;> rfl) | (simp [*, errW_none, errW_some] <;> rfl), by repeat (first | (with_reducible first | exact HB.out | apply below_alloc | apply pw_below_drewN | apply below_drew1 | refine below_set ?_ GE295.out) | exact HB.out)⟩
                     · rw [if_neg c30] at H
                       exact absurd H (by simp)
                   · rw [if_neg c29] at H
                     exact absurd H (by simp)
             · rw [if_neg c18] at H
               exact absurd H (by simp)
           · rw [if_neg c17] at H
             have c17b0 : decide (x6_2 < (t288.length : Int)) = false := decide_eq_false c17
             clear c17
             obtain rfl := Option.some.inj H
             go_wp2
             go_ret
             exact ⟨by first | rfl | (simp [errW_none, errW_some] <;> rfl) | (simp [*, errW_none, errW_some] <;> rfl), by repeat (first | (with_reducible first | exact HB.out | apply below_alloc | apply pw_below_drewN | apply below_drew1) | exact HB.out)⟩
       · rw [if_neg c11] at H
         have c11b0 : ((t288.length : Int) == (t291.length : Int)) = false := beq_eq_false_iff_ne.mpr c11
         have c11b1 : ((t288.length : Int) != (t291.length : Int)) = true := bne_iff_ne.mpr c11
         have c11b2 : (t288.length == t291.length) = false := by first | simpa using c11 | (simp at c11 ⊢; omega)
         obtain rfl := Option.some.inj H
         go_wp2_with (first | ((with_reducible refine gate_callee (f := 9) rfl ?_); refine goesL_ (some 18) rfl rfl Tryd.func9 (by kernel_rfl) rfl #[.string a0, .slice A1 l1.length c1] rfl (by (try simp only [List.map_toArray, List.map_cons, List.map_nil]); first | done | rfl | (simp only [List.length_drop, List.length_take]; rfl)) ?_; (with_reducible refine (spec_Short.calls kj2 a0 _ _ l1 true _ ?side1 ?side2 A7.out).mono ?_); (case side1 => repeat (first | exact (Kd.C_below HR1.out HB.out) | (with_reducible refine Kd.C_alloc ?_ _) | (with_reducible refine Kd.C_drewN ?_ _) | (with_reducible refine Kd.C_drew ?_))); (case side2 => exact HC1.out); rintro e w48 ⟨rfl, hb⟩; refine ⟨_, rfl, ?_⟩; have n0_ := Aside0.mk (below_step (by repeat (first | (with_reducible first | exact HB.out | apply below_alloc | apply pw_below_drewN | apply below_drew1) | exact HB.out)) hb); clear HB; have HB := n0_; clear n0_; (try clear hb); (try clear hb2); (try clear hk); (try clear hi)) | ((with_reducible refine gate_callee (f := 15) rfl ?_); refine goesL_ (some 22) rfl rfl Tryd.func15 (by kernel_rfl) rfl #[.string a0, .slice A1 l1.length c1] rfl (by (try simp only [List.map_toArray, List.map_cons, List.map_nil]); first | done | rfl | (simp only [List.length_drop, List.length_take]; rfl)) ?_; (with_reducible refine (impl_Find.calls kj2 a0 _ _ l1 t288 _ ?side1 ?side2 (by first | (with_reducible exact HAMB.out) | exact Amb.below HAMB.out (by repeat (first | (with_reducible first | exact HB.out | apply below_alloc | apply pw_below_drewN | apply below_drew1) | exact HB.out)) | exact Amb.below HAMB.out (by repeat (first | (with_reducible first | exact Below.refl _ _ | apply pw_below_drewN | apply below_drew1 | apply below_alloc)))) A9.out).mono ?_); (case side1 => repeat (first | exact (Kd.C_below HR1.out HB.out) | (with_reducible refine Kd.C_alloc ?_ _) | (with_reducible refine Kd.C_drewN ?_ _) | (with_reducible refine Kd.C_drew ?_))); (case side2 => exact HC1.out); rintro e w49 ⟨v289, rfl, ho0, hb⟩; refine ⟨_, rfl, ?_⟩; have n0_ := Aside0.mk (Kd.S_lower ho0 (below_size (by repeat (first | (with_reducible first | exact HB.out | apply below_alloc | apply pw_below_drewN | apply below_drew1) | exact HB.out)))); have n1_ := Aside0.mk (below_step (by repeat (first | (with_reducible first | exact HB.out | apply below_alloc | apply pw_below_drewN | apply below_drew1) | exact HB.out)) hb); clear HB; have HO290 := n0_; have HB := n1_; clear n0_ n1_; (try clear hb); (try clear hb2); (try clear hk); (try clear hi); (try clear ho0); obtain ⟨Ao50, co50, eo50⟩ := Kd.S_slice HO290.out; subst eo50) | ((with_reducible refine gate_callee (f := 12) rfl ?_); refine goesL_ (some 27) rfl rfl Tryd.func12 (by kernel_rfl) rfl #[.string a0, .slice A1 l1.length c1] rfl (by (try simp only [List.map_toArray, List.map_cons, List.map_nil]); first | done | rfl | (simp only [List.length_drop, List.length_take]; rfl)) ?_; (with_reducible refine (spec_Found.calls kj2 a0 _ _ l1 t291 _ ?side1 ?side2 (by first | (with_reducible exact HAMB.out) | exact Amb.below HAMB.out (by repeat (first | (with_reducible first | exact HB.out | apply below_alloc | apply pw_below_drewN | apply below_drew1) | exact HB.out)) | exact Amb.below HAMB.out (by repeat (first | (with_reducible first | exact Below.refl _ _ | apply pw_below_drewN | apply below_drew1 | apply below_alloc)))) A10.out).mono ?_); (case side1 => repeat (first | exact (Kd.C_below HR1.out HB.out) | (with_reducible refine Kd.C_alloc ?_ _) | (with_reducible refine Kd.C_drewN ?_ _) | (with_reducible refine Kd.C_drew ?_))); (case side2 => exact HC1.out); rintro e w51 ⟨v292, rfl, ho0, hb⟩; refine ⟨_, rfl, ?_⟩; have n0_ := Aside0.mk (Kd.S_elder' (by (with_reducible repeat (first | apply Kd.S_alloc | apply Kd.S_drewN | apply Kd.S_drew)); exact HO290.out) (Kd.S_base ho0) hb); have n1_ := Aside0.mk (Kd.S_lower (Kd.S_new' ho0 (Kd.S_lt (by (with_reducible repeat (first | apply Kd.S_alloc | apply Kd.S_drewN | apply Kd.S_drew)); exact HO290.out))) (below_size (by repeat (first | (with_reducible first | exact HB.out | apply below_alloc | apply pw_below_drewN | apply below_drew1) | exact HB.out)))); have n2_ := Aside0.mk (below_step (by repeat (first | (with_reducible first | exact HB.out | apply below_alloc | apply pw_below_drewN | apply below_drew1) | exact HB.out)) hb); clear HO290; clear HB; have HO290 := n0_; have HO293 := n1_; have HB := n2_; clear n0_ n1_ n2_; (try clear hb); (try clear hb2); (try clear hk); (try clear hi); (try clear ho0); obtain ⟨Ao52, co52, eo52⟩ := Kd.S_slice HO293.out; subst eo52))
         go_ret
         exact ⟨by first | rfl | (simp [errW_none, errW_some] <;> rfl) | (simp [*, errW_none, errW_some] <;> rfl), by repeat (first | (with_reducible first | exact HB.out | apply below_alloc | apply pw_below_drewN | apply below_drew1) | exact HB.out)⟩
     · replace c8 := Bool.eq_false_iff.mpr c8
       subst c8
       have H1 : (some true) = some r := by rw [if_neg (show ¬ (false = true) by decide)] at H; exact H
       clear H
       have H := H1
       clear H1
       obtain rfl := Option.some.inj H
       go_wp2_with (first | ((with_reducible refine gate_callee (f := 9) rfl ?_); refine goesL_ (some 18) rfl rfl Tryd.func9 (by kernel_rfl) rfl #[.string a0, .slice A1 l1.length c1] rfl (by (try simp only [List.map_toArray, List.map_cons, List.map_nil]); first | done | rfl | (simp only [List.length_drop, List.length_take]; rfl)) ?_; (with_reducible refine (spec_Short.calls kj2 a0 _ _ l1 false _ ?side1 ?side2 A7.out).mono ?_); (case side1 => repeat (first | exact (Kd.C_below HR1.out HB.out) | (with_reducible refine Kd.C_alloc ?_ _) | (with_reducible refine Kd.C_drewN ?_ _) | (with_reducible refine Kd.C_drew ?_))); (case side2 => exact HC1.out); rintro e w53 ⟨rfl, hb⟩; refine ⟨_, rfl, ?_⟩; have n0_ := Aside0.mk (below_step (by repeat (first | (with_reducible first | exact HB.out | apply below_alloc | apply pw_below_drewN | apply below_drew1) | exact HB.out)) hb); clear HB; have HB := n0_; clear n0_; (try clear hb); (try clear hb2); (try clear hk); (try clear hi)))
       go_ret
       exact ⟨by first | rfl | (simp [errW_none, errW_some] <;> rfl) | (simp [*, errW_none, errW_some] <;> rfl), by repeat (first | (with_reducible first | exact HB.out | apply below_alloc | apply pw_below_drewN | apply below_drew1) | exact HB.out)⟩

end Go.Proofs.YtgeimklpcfepaaaDoor.P
