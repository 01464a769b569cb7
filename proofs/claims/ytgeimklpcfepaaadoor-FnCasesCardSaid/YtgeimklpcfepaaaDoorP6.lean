-- written by a program of this session (wip/tools), out of the translation
import Derived.Test.YtgeimklpcfepaaaDoorP0
import Derived.Test.YtgeimklpcfepaaaDoorExtFold
namespace Go.Proofs.YtgeimklpcfepaaaDoor.P
open Go.RowKit Go.Proofs.YtgeimklpcfepaaaDoorW.PrintWords Go.Proofs.YtgeimklpcfepaaaDoorW.PrintLast Go.Proofs.YtgeimklpcfepaaaDoorW.PrintMore
attribute [local go_sem] max2_int min2_int max_two min_two max_three min_three max_four min_four   -- for this text's walks alone
set_option linter.unusedVariables false
set_option linter.unusedSimpArgs false

/-! ### sahilm_zzNull: function 32 -/
def sahilm_zzNull.l0 : Nat → ByteArray → Int → Option (Int)
 | 0, _, _ => none
 | k + 1, x0, x3 => if x3 < (x0.size : Int) then (if 0 ≤ x3 then (if (bt x0 x3) = 0 then (some x3) else (sahilm_zzNull.l0 k x0 (wrap64 (x3 + 1)))) else (none)) else (some (-1))
def sahilm_zzNull.f (k : Nat) (a0 : ByteArray) : Option (Int) := sahilm_zzNull.l0 k a0 0
theorem sahilm_zzNull.mono_l : ∀ k, (∀ y0 y1, LeO (sahilm_zzNull.l0 k y0 y1) (sahilm_zzNull.l0 (k + 1) y0 y1))
 | 0 => fun _ _ r h => by simp [sahilm_zzNull.l0] at h
 | k + 1 => by
  have ih0 := sahilm_zzNull.mono_l k
  · intro y0 y1
    unfold sahilm_zzNull.l0
    repeat' first
    | (with_reducible exact ih0 _ _)
    | (with_reducible exact LeO.refl _)
    | (with_reducible exact LeO.none _)
    | (with_reducible refine LeO.ite ?_ ?_)
    | (with_reducible refine LeO.bind ?_ (fun _ => ?_))
    | exact ih0 _ _
    | exact LeO.none _
    | refine LeO.ite ?_ ?_
    | refine LeO.bind ?_ (fun _ => ?_)
theorem sahilm_zzNull.mono : ∀ a0 k, LeO (sahilm_zzNull.f k a0) (sahilm_zzNull.f (k + 1) a0) := by
 intro a0 k
 have ih0 := sahilm_zzNull.mono_l k
 unfold sahilm_zzNull.f
 repeat' first
  | (with_reducible exact ih0 _ _)
  | (with_reducible exact LeO.refl _)
  | (with_reducible exact LeO.none _)
  | (with_reducible refine LeO.ite ?_ ?_)
  | (with_reducible refine LeO.bind ?_ (fun _ => ?_))
  | exact ih0 _ _
  | exact LeO.none _
  | refine LeO.ite ?_ ?_
  | refine LeO.bind ?_ (fun _ => ?_)
set_option maxHeartbeats 8000000 in
set_option maxRecDepth 100000 in
theorem sahilm_zzNull.calls (k : Nat) (a0 : ByteArray) (r : Int) (w : World) (h : sahilm_zzNull.f k a0 = some r) :
 Calls Tryd.prog 32 #[.string a0] w fun e w' => e = .returned (.int .i64 r) ∧ Drawn0 w w' := by
 have H : (sahilm_zzNull.l0 k a0 0) = some r := h
 clear h
 have H' := Aside0.mk H
 clear H
 go_enter Tryd.func32, Tryd.ntmps32
 go_wp2
 go_loopg [3] k (fun kq v3 w' => ∃ (x3_1 : Int), v3 = .int .i64 x3_1 ∧ Aside0 (sahilm_zzNull.l0 kq a0 x3_1 = some r) ∧ Aside0 (kq ≤ k) ∧ Drawn0 w w')
 case atStart => exact ⟨(0), (by first | rfl | (simp; done) | (simp [*]; done)), H', ⟨Nat.le_refl _⟩, by repeat (first | exact Drawn0.refl _ | apply Drawn0.step)⟩
 case round =>
  clear H'
  obtain ⟨x3_1, rfl, HA, HK1, ⟨m1, rfl⟩⟩ := hrel
  cases gk with
  | zero => exact absurd HA.out (by simp [sahilm_zzNull.l0])
  | succ k1 =>
   have H := HA.out
   clear HA
   simp only [sahilm_zzNull.l0] at H
   by_cases c2 : x3_1 < (a0.size : Int)
   · rw [if_pos c2] at H
     have c2b0 : decide (x3_1 < (a0.size : Int)) = true := decide_eq_true c2
     clear c2
     by_cases c3 : 0 ≤ x3_1
     · rw [if_pos c3] at H
       have c3b0 : decide (0 ≤ x3_1) = true := decide_eq_true c3
       clear c3
       by_cases c5 : (bt a0 x3_1) = 0
       · rw [if_pos c5] at H
         have c5b0 : ((bt a0 x3_1) == 0) = true := beq_iff_eq.mpr c5
         have c5b1 : ((bt a0 x3_1) != 0) = false := bne_eq_false_iff_eq.mpr c5
         clear c5
         obtain rfl := Option.some.inj H
         have p4 : 0 ≤ (x3_1 : Int) := of_decide_eq_true (by first | (with_reducible assumption) | assumption)
         have q4 : x3_1 < (a0.size : Int) := of_decide_eq_true (by first | (with_reducible assumption) | assumption)
         have hx4 := bt_at a0 x3_1
         replace p4 := eq_true p4
         replace q4 := eq_true q4
         go_wp2
         go_ret
         exact ⟨by first | rfl | (simp; done) | (simp [*]; done), by repeat (first | exact Drawn0.refl _ | apply Drawn0.step)⟩
       · rw [if_neg c5] at H
         have c5b0 : ((bt a0 x3_1) == 0) = false := beq_eq_false_iff_ne.mpr c5
         have c5b1 : ((bt a0 x3_1) != 0) = true := bne_iff_ne.mpr c5
         have H' := Aside0.mk H
         clear H
         have p4 : 0 ≤ (x3_1 : Int) := of_decide_eq_true (by first | (with_reducible assumption) | assumption)
         have q4 : x3_1 < (a0.size : Int) := of_decide_eq_true (by first | (with_reducible assumption) | assumption)
         have hx4 := bt_at a0 x3_1
         replace p4 := eq_true p4
         replace q4 := eq_true q4
         go_wp2
         go_roundg k1
         case measure => have := HK1.out; omega
         case rel => exact ⟨(wrap64 (x3_1 + 1)), (by first | rfl | (simp; done) | (simp [*]; done)), H', ⟨by have := HK1.out; omega⟩, by repeat (first | exact Drawn0.refl _ | apply Drawn0.step)⟩
     · rw [if_neg c3] at H
       exact absurd H (by simp)
   · rw [if_neg c2] at H
     have c2b0 : decide (x3_1 < (a0.size : Int)) = false := decide_eq_false c2
     clear c2
     obtain rfl := Option.some.inj H
     go_wp2
     go_ret
     exact ⟨by first | rfl | (simp; done) | (simp [*]; done), by repeat (first | exact Drawn0.refl _ | apply Drawn0.step)⟩

-- NOT PRINTED: function 44 (utf8_decodeRuneInStringSlow)

-- NOT PRINTED: function 33 (utf8_DecodeRuneInString)

-- NOT PRINTED: function 41 (unicode_lookupCaseRange)

-- NOT PRINTED: function 42 (unicode_convertCase)

-- TOLD BY HAND: function 30 (unicode_SimpleFold)

/-! ### sahilm_equalFold: function 34 -/
mutual
def sahilm_equalFold.j0 : Nat → Int → Int → Option (Bool)
 | 0, _, _ => none
 | k + 1, x0, x1 => if x0 < 128 then (if 65 ≤ x1 then (if x1 ≤ 90 then (if x0 = (wrap32 ((wrap32 (x1 + 97)) - 65)) then (some true) else (some false)) else (some false)) else (some false)) else ((unicode_SimpleFold.f x1).bind fun t130 => (sahilm_equalFold.l0 k x0 x1 t130))
def sahilm_equalFold.l0 : Nat → Int → Int → Int → Option (Bool)
 | 0, _, _, _ => none
 | k + 1, x0, x1, x5 => if x5 = x1 then (some (x5 == x0)) else (if x5 < x0 then ((unicode_SimpleFold.f x5).bind fun t131 => (sahilm_equalFold.l0 k x0 x1 t131)) else (some (x5 == x0)))
end
def sahilm_equalFold.f (k : Nat) (a0 : Int) (a1 : Int) : Option (Bool) := if a0 = a1 then (some true) else (if a0 < a1 then (sahilm_equalFold.j0 k a1 a0) else (sahilm_equalFold.j0 k a0 a1))
theorem sahilm_equalFold.mono_l : ∀ k, (∀ y0 y1, LeO (sahilm_equalFold.j0 k y0 y1) (sahilm_equalFold.j0 (k + 1) y0 y1)) ∧ (∀ y0 y1 y2, LeO (sahilm_equalFold.l0 k y0 y1 y2) (sahilm_equalFold.l0 (k + 1) y0 y1 y2))
 | 0 => ⟨fun _ _ r h => by simp [sahilm_equalFold.j0] at h, fun _ _ _ r h => by simp [sahilm_equalFold.l0] at h⟩
 | k + 1 => by
  obtain ⟨ih0, ih1⟩ := sahilm_equalFold.mono_l k
  refine ⟨?_, ?_⟩
  · intro y0 y1
    unfold sahilm_equalFold.j0
    repeat' first
    | (with_reducible exact ih0 _ _)
    | (with_reducible exact ih1 _ _ _)
    | (with_reducible exact LeO.refl _)
    | (with_reducible exact LeO.none _)
    | (with_reducible refine LeO.ite ?_ ?_)
    | (with_reducible refine LeO.bind ?_ (fun _ => ?_))
    | exact ih0 _ _
    | exact ih1 _ _ _
    | exact LeO.none _
    | refine LeO.ite ?_ ?_
    | refine LeO.bind ?_ (fun _ => ?_)
  · intro y0 y1 y2
    unfold sahilm_equalFold.l0
    repeat' first
    | (with_reducible exact ih0 _ _)
    | (with_reducible exact ih1 _ _ _)
    | (with_reducible exact LeO.refl _)
    | (with_reducible exact LeO.none _)
    | (with_reducible refine LeO.ite ?_ ?_)
    | (with_reducible refine LeO.bind ?_ (fun _ => ?_))
    | exact ih0 _ _
    | exact ih1 _ _ _
    | exact LeO.none _
    | refine LeO.ite ?_ ?_
    | refine LeO.bind ?_ (fun _ => ?_)
theorem sahilm_equalFold.mono : ∀ a0 a1 k, LeO (sahilm_equalFold.f k a0 a1) (sahilm_equalFold.f (k + 1) a0 a1) := by
 intro a0 a1 k
 obtain ⟨ih0, ih1⟩ := sahilm_equalFold.mono_l k
 unfold sahilm_equalFold.f
 repeat' first
  | (with_reducible exact ih0 _ _)
  | (with_reducible exact ih1 _ _ _)
  | (with_reducible exact LeO.refl _)
  | (with_reducible exact LeO.none _)
  | (with_reducible refine LeO.ite ?_ ?_)
  | (with_reducible refine LeO.bind ?_ (fun _ => ?_))
  | exact ih0 _ _
  | exact ih1 _ _ _
  | exact LeO.none _
  | refine LeO.ite ?_ ?_
  | refine LeO.bind ?_ (fun _ => ?_)
set_option maxHeartbeats 8000000 in
set_option maxRecDepth 100000 in
theorem sahilm_equalFold.calls (k : Nat) (a0 : Int) (a1 : Int) (r : Bool) (w : World) (hA_ : Amb w) (h : sahilm_equalFold.f k a0 a1 = some r) :
 Calls Tryd.prog 34 #[.int .i32 a0, .int .i32 a1] w fun e w' => e = .returned (.bool r) ∧ Below w.heap.size w w' := by
 have HAMB := Aside0.mk hA_
 clear hA_
 have HB := Aside0.mk (Below.refl w.heap.size w)
 have H : (if a0 = a1 then (some true) else (if a0 < a1 then (sahilm_equalFold.j0 k a1 a0) else (sahilm_equalFold.j0 k a0 a1))) = some r := h
 clear h
 by_cases c3 : a0 = a1
 · rw [if_pos c3] at H
   have c3b0 : (a0 == a1) = true := beq_iff_eq.mpr c3
   have c3b1 : (a0 != a1) = false := bne_eq_false_iff_eq.mpr c3
   clear c3
   obtain rfl := Option.some.inj H
   go_enter Tryd.func34, Tryd.ntmps34
   go_wp2
   go_ret
   exact ⟨by first | rfl | (simp [errW_none, errW_some] <;> rfl) | (simp [*, errW_none, errW_some] <;> rfl), by repeat (first | (with_reducible first | exact HB.out | apply below_alloc | apply pw_below_drewN | apply below_drew1) | exact HB.out)⟩
 · rw [if_neg c3] at H
   have c3b0 : (a0 == a1) = false := beq_eq_false_iff_ne.mpr c3
   have c3b1 : (a0 != a1) = true := bne_iff_ne.mpr c3
   have HC4 := Aside0.mk H
   clear H
   go_enter Tryd.func34, Tryd.ntmps34
   go_upto_if 11 with (fail)
   go_cut [0, 1] (fun v0 v1 wc => ∃ (kq : Nat) (x0_3 : Int) (x1_3 : Int), v0 = .int .i32 x0_3 ∧ v1 = .int .i32 x1_3 ∧ Aside0 (sahilm_equalFold.j0 kq x0_3 x1_3 = some r) ∧ Aside0 (kq ≤ k) ∧ Aside0 (Below w.heap.size w wc))
   case first =>
    have H := HC4.out
    clear HC4
    by_cases c5 : a0 < a1
    · rw [if_pos c5] at H
      have c5b0 : decide (a0 < a1) = true := decide_eq_true c5
      clear c5
      (first | rw [c5b0] | (simp only [i64_w, i32_w]; rw [c5b0]) | skip)
      have H' := Aside0.mk H
      clear H
      go_wp2
      go_meet
      case rel => exact ⟨_, (a1), (a0), (by first | rfl | (simp; done) | (simp [*]; done)), (by first | rfl | (simp; done) | (simp [*]; done)), H', ⟨by first | omega | exact Nat.le_refl _⟩, ⟨by repeat (first | (with_reducible first | exact HB.out | apply below_alloc | apply pw_below_drewN | apply below_drew1) | exact HB.out)⟩⟩
    · rw [if_neg c5] at H
      have c5b0 : decide (a0 < a1) = false := decide_eq_false c5
      clear c5
      (first | rw [c5b0] | (simp only [i64_w, i32_w]; rw [c5b0]) | skip)
      have H' := Aside0.mk H
      clear H
      go_wp2
      go_meet
      case rel => exact ⟨_, (a0), (a1), (by first | rfl | (simp; done) | (simp [*]; done)), (by first | rfl | (simp; done) | (simp [*]; done)), H', ⟨by first | omega | exact Nat.le_refl _⟩, ⟨by repeat (first | (with_reducible first | exact HB.out | apply below_alloc | apply pw_below_drewN | apply below_drew1) | exact HB.out)⟩⟩
   case rest =>
    clear HC4
    try clear p2
    try clear c3
    try clear c3b0
    try clear c3b1
    try clear c5
    try clear c5b0
    obtain ⟨kq, x0_3, x1_3, rfl, rfl, HA, HJ3, HB⟩ := hcut
    cases kq with
    | zero => exact absurd HA.out (by simp [sahilm_equalFold.j0])
    | succ kj3 =>
     have H := HA.out
     clear HA
     simp only [sahilm_equalFold.j0] at H
     by_cases c6 : x0_3 < 128
     · rw [if_pos c6] at H
       have c6b0 : decide (x0_3 < 128) = true := decide_eq_true c6
       clear c6
       by_cases c7 : 65 ≤ x1_3
       · rw [if_pos c7] at H
         have c7b0 : decide (65 ≤ x1_3) = true := decide_eq_true c7
         clear c7
         by_cases c8 : x1_3 ≤ 90
         · rw [if_pos c8] at H
           have c8b0 : decide (x1_3 ≤ 90) = true := decide_eq_true c8
           clear c8
           by_cases c9 : x0_3 = (wrap32 ((wrap32 (x1_3 + 97)) - 65))
           · rw [if_pos c9] at H
             have c9b0 : (x0_3 == (wrap32 ((wrap32 (x1_3 + 97)) - 65))) = true := beq_iff_eq.mpr c9
             have c9b1 : (x0_3 != (wrap32 ((wrap32 (x1_3 + 97)) - 65))) = false := bne_eq_false_iff_eq.mpr c9
             clear c9
             obtain rfl := Option.some.inj H
             go_wp2
             go_ret
             exact ⟨by first | rfl | (simp [errW_none, errW_some] <;> rfl) | (simp [*, errW_none, errW_some] <;> rfl), by repeat (first | (with_reducible first | exact HB.out | apply below_alloc | apply pw_below_drewN | apply below_drew1) | exact HB.out)⟩
           · rw [if_neg c9] at H
             have c9b0 : (x0_3 == (wrap32 ((wrap32 (x1_3 + 97)) - 65))) = false := beq_eq_false_iff_ne.mpr c9
             have c9b1 : (x0_3 != (wrap32 ((wrap32 (x1_3 + 97)) - 65))) = true := bne_iff_ne.mpr c9
             obtain rfl := Option.some.inj H
             go_wp2
             go_ret
             exact ⟨by first | rfl | (simp [errW_none, errW_some] <;> rfl) | (simp [*, errW_none, errW_some] <;> rfl), by repeat (first | (with_reducible first | exact HB.out | apply below_alloc | apply pw_below_drewN | apply below_drew1) | exact HB.out)⟩
         · rw [if_neg c8] at H
           have c8b0 : decide (x1_3 ≤ 90) = false := decide_eq_false c8
           clear c8
           obtain rfl := Option.some.inj H
           go_wp2
           go_ret
           exact ⟨by first | rfl | (simp [errW_none, errW_some] <;> rfl) | (simp [*, errW_none, errW_some] <;> rfl), by repeat (first | (with_reducible first | exact HB.out | apply below_alloc | apply pw_below_drewN | apply below_drew1) | exact HB.out)⟩
       · rw [if_neg c7] at H
         have c7b0 : decide (65 ≤ x1_3) = false := decide_eq_false c7
         clear c7
         obtain rfl := Option.some.inj H
         go_wp2
         go_ret
         exact ⟨by first | rfl | (simp [errW_none, errW_some] <;> rfl) | (simp [*, errW_none, errW_some] <;> rfl), by repeat (first | (with_reducible first | exact HB.out | apply below_alloc | apply pw_below_drewN | apply below_drew1) | exact HB.out)⟩
     · rw [if_neg c6] at H
       have c6b0 : decide (x0_3 < 128) = false := decide_eq_false c6
       clear c6
       replace H := Option.bind_eq_some_iff.mp H
       obtain ⟨t130, A100, H⟩ := H
       replace H : (sahilm_equalFold.l0 kj3 x0_3 x1_3 t130) = some r := H
       have A10 := Aside0.mk A100
       clear A100
       have H' := Aside0.mk H
       clear H
       go_wp2_with (first | ((with_reducible refine gate_callee (f := 30) rfl ?_); refine goesL_ (some 30) rfl rfl Tryd.func30 (by kernel_rfl) rfl #[.int .i32 x1_3] rfl (by (try simp only [List.map_toArray, List.map_cons, List.map_nil]); first | done | rfl | (simp only [List.length_drop, List.length_take]; rfl)) ?_; (with_reducible refine (unicode_SimpleFold.calls x1_3 t130 _ (by first | (with_reducible exact HAMB.out) | exact Amb.below HAMB.out (by repeat (first | (with_reducible first | exact HB.out | apply below_alloc | apply pw_below_drewN | apply below_drew1) | exact HB.out)) | exact Amb.below HAMB.out (by repeat (first | (with_reducible first | exact Below.refl _ _ | apply pw_below_drewN | apply below_drew1 | apply below_alloc)))) A10.out).mono ?_); rintro e w11 ⟨rfl, hb⟩; refine ⟨_, rfl, ?_⟩; have n0_ := Aside0.mk (below_step (by repeat (first | (with_reducible first | exact HB.out | apply below_alloc | apply pw_below_drewN | apply below_drew1) | exact HB.out)) hb); clear HB; have HB := n0_; clear n0_; (try clear hb); (try clear hb2); (try clear hk); (try clear hi)))
       go_loopg [5] kj3 (fun kq v5 w' => ∃ (x5_2 : Int), v5 = .int .i32 x5_2 ∧ Aside0 (sahilm_equalFold.l0 kq x0_3 x1_3 x5_2 = some r) ∧ Aside0 (kq ≤ kj3) ∧ Aside0 (Below w.heap.size w w'))
       case atStart => exact ⟨(t130), (by first | rfl | (simp; done) | (simp [*]; done)), H', ⟨Nat.le_refl _⟩, ⟨by repeat (first | (with_reducible first | exact HB.out | apply below_alloc | apply pw_below_drewN | apply below_drew1) | exact HB.out)⟩⟩
       case round =>
        clear H'
        try clear p2
        try clear c3
        try clear c3b0
        try clear c3b1
        try clear p3
        try clear c5
        try clear c5b0
        try clear c6
        try clear c6b0
        try clear c7
        try clear c7b0
        try clear c8
        try clear c8b0
        try clear c9
        try clear c9b0
        try clear c9b1
        try clear p2
        obtain ⟨x5_2, rfl, HA, HK2, HB⟩ := hrel
        cases gk with
        | zero => exact absurd HA.out (by simp [sahilm_equalFold.l0])
        | succ k2 =>
         have H := HA.out
         clear HA
         simp only [sahilm_equalFold.l0] at H
         by_cases c12 : x5_2 = x1_3
         · rw [if_pos c12] at H
           have c12b0 : (x5_2 == x1_3) = true := beq_iff_eq.mpr c12
           have c12b1 : (x5_2 != x1_3) = false := bne_eq_false_iff_eq.mpr c12
           clear c12
           obtain rfl := Option.some.inj H
           go_wp2
           go_ret
           exact ⟨by first | rfl | (simp [errW_none, errW_some] <;> rfl) | (simp [*, errW_none, errW_some] <;> rfl), by repeat (first | (with_reducible first | exact HB.out | apply below_alloc | apply pw_below_drewN | apply below_drew1) | exact HB.out)⟩
         · rw [if_neg c12] at H
           have c12b0 : (x5_2 == x1_3) = false := beq_eq_false_iff_ne.mpr c12
           have c12b1 : (x5_2 != x1_3) = true := bne_iff_ne.mpr c12
           by_cases c13 : x5_2 < x0_3
           · rw [if_pos c13] at H
             have c13b0 : decide (x5_2 < x0_3) = true := decide_eq_true c13
             clear c13
             replace H := Option.bind_eq_some_iff.mp H
             obtain ⟨t131, A140, H⟩ := H
             replace H : (sahilm_equalFold.l0 k2 x0_3 x1_3 t131) = some r := H
             have A14 := Aside0.mk A140
             clear A140
             have H' := Aside0.mk H
             clear H
             go_wp2_with (first | ((with_reducible refine gate_callee (f := 30) rfl ?_); refine goesL_ (some 40) rfl rfl Tryd.func30 (by kernel_rfl) rfl #[.int .i32 x5_2] rfl (by (try simp only [List.map_toArray, List.map_cons, List.map_nil]); first | done | rfl | (simp only [List.length_drop, List.length_take]; rfl)) ?_; (with_reducible refine (unicode_SimpleFold.calls x5_2 t131 _ (by first | (with_reducible exact HAMB.out) | exact Amb.below HAMB.out (by repeat (first | (with_reducible first | exact HB.out | apply below_alloc | apply pw_below_drewN | apply below_drew1) | exact HB.out)) | exact Amb.below HAMB.out (by repeat (first | (with_reducible first | exact Below.refl _ _ | apply pw_below_drewN | apply below_drew1 | apply below_alloc)))) A14.out).mono ?_); rintro e w15 ⟨rfl, hb⟩; refine ⟨_, rfl, ?_⟩; have n0_ := Aside0.mk (below_step (by repeat (first | (with_reducible first | exact HB.out | apply below_alloc | apply pw_below_drewN | apply below_drew1) | exact HB.out)) hb); clear HB; have HB := n0_; clear n0_; (try clear hb); (try clear hb2); (try clear hk); (try clear hi)))
             go_roundg k2
             case measure => have := HJ3.out; have := HK2.out; omega
             case rel => exact ⟨(t131), (by first | rfl | (simp; done) | (simp [*]; done)), H', ⟨by have := HJ3.out; have := HK2.out; omega⟩, ⟨by repeat (first | (with_reducible first | exact HB.out | apply below_alloc | apply pw_below_drewN | apply below_drew1) | exact HB.out)⟩⟩
           · rw [if_neg c13] at H
             have c13b0 : decide (x5_2 < x0_3) = false := decide_eq_false c13
             clear c13
             obtain rfl := Option.some.inj H
             go_wp2
             go_ret
             exact ⟨by first | rfl | (simp [errW_none, errW_some] <;> rfl) | (simp [*, errW_none, errW_some] <;> rfl), by repeat (first | (with_reducible first | exact HB.out | apply below_alloc | apply pw_below_drewN | apply below_drew1) | exact HB.out)⟩

-- NOT PRINTED: function 47 (unicode_is16)

-- NOT PRINTED: function 48 (unicode_is32)

-- NOT PRINTED: function 45 (unicode_isExcludingLatin)

-- TOLD BY HAND: function 35 (unicode_IsLower)

-- TOLD BY HAND: function 36 (unicode_IsUpper)

-- TOLD BY HAND: function 37 (sahilm_isSeparator)

/-! ### sahilm_adjacentCharBonus: function 38 -/
def sahilm_adjacentCharBonus.f (a0 : Int) (a1 : Int) (a2 : Int) : Option (Int) := if a1 = a0 then (some (wrap64 ((wrap64 (a2 * 2)) + 5))) else (some 0)
set_option maxHeartbeats 8000000 in
set_option maxRecDepth 100000 in
theorem sahilm_adjacentCharBonus.calls (a0 : Int) (a1 : Int) (a2 : Int) (r : Int) (w : World) (h : sahilm_adjacentCharBonus.f a0 a1 a2 = some r) :
 Calls Tryd.prog 38 #[.int .i64 a0, .int .i64 a1, .int .i64 a2] w fun e w' => e = .returned (.int .i64 r) ∧ Drawn0 w w' := by
 have H : (if a1 = a0 then (some (wrap64 ((wrap64 (a2 * 2)) + 5))) else (some 0)) = some r := h
 clear h
 by_cases c4 : a1 = a0
 · rw [if_pos c4] at H
   have c4b0 : (a1 == a0) = true := beq_iff_eq.mpr c4
   have c4b1 : (a1 != a0) = false := bne_eq_false_iff_eq.mpr c4
   clear c4
   obtain rfl := Option.some.inj H
   go_enter Tryd.func38, Tryd.ntmps38
   go_wp2
   go_ret
   exact ⟨by first | rfl | (simp; done) | (simp [*]; done), by repeat (first | exact Drawn0.refl _ | apply Drawn0.step)⟩
 · rw [if_neg c4] at H
   have c4b0 : (a1 == a0) = false := beq_eq_false_iff_ne.mpr c4
   have c4b1 : (a1 != a0) = true := bne_iff_ne.mpr c4
   obtain rfl := Option.some.inj H
   go_enter Tryd.func38, Tryd.ntmps38
   go_wp2
   go_ret
   exact ⟨by first | rfl | (simp; done) | (simp [*]; done), by repeat (first | exact Drawn0.refl _ | apply Drawn0.step)⟩

/-! ### sahilm_max: function 39 -/
def sahilm_max.f (a0 : Int) (a1 : Int) : Option (Int) := if a0 > a1 then (some a0) else (some a1)
set_option maxHeartbeats 8000000 in
set_option maxRecDepth 100000 in
theorem sahilm_max.calls (a0 : Int) (a1 : Int) (r : Int) (w : World) (h : sahilm_max.f a0 a1 = some r) :
 Calls Tryd.prog 39 #[.int .i64 a0, .int .i64 a1] w fun e w' => e = .returned (.int .i64 r) ∧ Drawn0 w w' := by
 have H : (if a0 > a1 then (some a0) else (some a1)) = some r := h
 clear h
 by_cases c3 : a0 > a1
 · rw [if_pos c3] at H
   have c3b0 : decide (a1 < a0) = true := decide_eq_true c3
   clear c3
   obtain rfl := Option.some.inj H
   go_enter Tryd.func39, Tryd.ntmps39
   go_wp2
   go_ret
   exact ⟨by first | rfl | (simp; done) | (simp [*]; done), by repeat (first | exact Drawn0.refl _ | apply Drawn0.step)⟩
 · rw [if_neg c3] at H
   have c3b0 : decide (a1 < a0) = false := decide_eq_false c3
   clear c3
   obtain rfl := Option.some.inj H
   go_enter Tryd.func39, Tryd.ntmps39
   go_wp2
   go_ret
   exact ⟨by first | rfl | (simp; done) | (simp [*]; done), by repeat (first | exact Drawn0.refl _ | apply Drawn0.step)⟩

-- NOT PRINTED: function 27 (sahilm_FindFromNoSort)

-- TOLD BY HAND: function 22 (sahilm_FindNoSort)

end Go.Proofs.YtgeimklpcfepaaaDoor.P
namespace Go.Proofs.YtgeimklpcfepaaaDoor.P
open Go.RowKit Go.Proofs.YtgeimklpcfepaaaDoorW.PrintWords Go.Proofs.YtgeimklpcfepaaaDoorW.PrintLast Go.Proofs.YtgeimklpcfepaaaDoorW.PrintMore
attribute [local go_sem] max2_int min2_int max_two min_two max_three min_three max_four min_four   -- for this text's walks alone
set_option linter.unusedVariables false
set_option linter.unusedSimpArgs false

/-! ### spec_Alike: function 25 -/
def spec_Alike.l0 : Nat → Int → Int → Int → Option (Bool)
 | 0, _, _, _ => none
 | k + 1, x0, x1, x5 => if x5 = x1 then (some true) else ((unicode_SimpleFold.f x5).bind fun t145 => (if t145 = x0 then (some false) else (spec_Alike.l0 k x0 x1 t145)))
def spec_Alike.f (k : Nat) (a0 : Int) (a1 : Int) : Option (Bool) := spec_Alike.l0 k a0 a1 a0
theorem spec_Alike.mono_l : ∀ k, (∀ y0 y1 y2, LeO (spec_Alike.l0 k y0 y1 y2) (spec_Alike.l0 (k + 1) y0 y1 y2))
 | 0 => fun _ _ _ r h => by simp [spec_Alike.l0] at h
 | k + 1 => by
  have ih0 := spec_Alike.mono_l k
  · intro y0 y1 y2
    unfold spec_Alike.l0
    repeat' first
    | (with_reducible exact ih0 _ _ _)
    | (with_reducible exact LeO.refl _)
    | (with_reducible exact LeO.none _)
    | (with_reducible refine LeO.ite ?_ ?_)
    | (with_reducible refine LeO.bind ?_ (fun _ => ?_))
    | exact ih0 _ _ _
    | exact LeO.none _
    | refine LeO.ite ?_ ?_
    | refine LeO.bind ?_ (fun _ => ?_)
theorem spec_Alike.mono : ∀ a0 a1 k, LeO (spec_Alike.f k a0 a1) (spec_Alike.f (k + 1) a0 a1) := by
 intro a0 a1 k
 have ih0 := spec_Alike.mono_l k
 unfold spec_Alike.f
 repeat' first
  | (with_reducible exact ih0 _ _ _)
  | (with_reducible exact LeO.refl _)
  | (with_reducible exact LeO.none _)
  | (with_reducible refine LeO.ite ?_ ?_)
  | (with_reducible refine LeO.bind ?_ (fun _ => ?_))
  | exact ih0 _ _ _
  | exact LeO.none _
  | refine LeO.ite ?_ ?_
  | refine LeO.bind ?_ (fun _ => ?_)
set_option maxHeartbeats 8000000 in
set_option maxRecDepth 100000 in
theorem spec_Alike.calls (k : Nat) (a0 : Int) (a1 : Int) (r : Bool) (w : World) (hA_ : Amb w) (h : spec_Alike.f k a0 a1 = some r) :
 Calls Tryd.prog 25 #[.int .i32 a0, .int .i32 a1] w fun e w' => e = .returned (.bool r) ∧ Below w.heap.size w w' := by
 have HAMB := Aside0.mk hA_
 clear hA_
 have HB := Aside0.mk (Below.refl w.heap.size w)
 have H : (spec_Alike.l0 k a0 a1 a0) = some r := h
 clear h
 have H' := Aside0.mk H
 clear H
 go_enter Tryd.func25, Tryd.ntmps25
 go_wp2
 go_loopg [5] k (fun kq v5 w' => ∃ (x5_1 : Int), v5 = .int .i32 x5_1 ∧ Aside0 (spec_Alike.l0 kq a0 a1 x5_1 = some r) ∧ Aside0 (kq ≤ k) ∧ Aside0 (Below w.heap.size w w'))
 case atStart => exact ⟨(a0), (by first | rfl | (simp; done) | (simp [*]; done)), H', ⟨Nat.le_refl _⟩, ⟨by repeat (first | (with_reducible first | exact HB.out | apply below_alloc | apply pw_below_drewN | apply below_drew1) | exact HB.out)⟩⟩
 case round =>
  clear H'
  try clear c2
  try clear p2
  obtain ⟨x5_1, rfl, HA, HK1, HB⟩ := hrel
  cases gk with
  | zero => exact absurd HA.out (by simp [spec_Alike.l0])
  | succ k1 =>
   have H := HA.out
   clear HA
   simp only [spec_Alike.l0] at H
   by_cases c3 : x5_1 = a1
   · rw [if_pos c3] at H
     have c3b0 : (x5_1 == a1) = true := beq_iff_eq.mpr c3
     have c3b1 : (x5_1 != a1) = false := bne_eq_false_iff_eq.mpr c3
     clear c3
     obtain rfl := Option.some.inj H
     go_wp2
     go_ret
     exact ⟨by first | rfl | (simp [errW_none, errW_some] <;> rfl) | (simp [*, errW_none, errW_some] <;> rfl), by repeat (first | (with_reducible first | exact HB.out | apply below_alloc | apply pw_below_drewN | apply below_drew1) | exact HB.out)⟩
   · rw [if_neg c3] at H
     have c3b0 : (x5_1 == a1) = false := beq_eq_false_iff_ne.mpr c3
     have c3b1 : (x5_1 != a1) = true := bne_iff_ne.mpr c3
     replace H := Option.bind_eq_some_iff.mp H
     obtain ⟨t145, A40, H⟩ := H
     replace H : (if t145 = a0 then (some false) else (spec_Alike.l0 k1 a0 a1 t145)) = some r := H
     have A4 := Aside0.mk A40
     clear A40
     by_cases c5 : t145 = a0
     · rw [if_pos c5] at H
       have c5b0 : (t145 == a0) = true := beq_iff_eq.mpr c5
       have c5b1 : (t145 != a0) = false := bne_eq_false_iff_eq.mpr c5
       clear c5
       obtain rfl := Option.some.inj H
       go_wp2_with (first | ((with_reducible refine gate_callee (f := 30) rfl ?_); refine goesL_ (some 11) rfl rfl Tryd.func30 (by kernel_rfl) rfl #[.int .i32 x5_1] rfl (by (try simp only [List.map_toArray, List.map_cons, List.map_nil]); first | done | rfl | (simp only [List.length_drop, List.length_take]; rfl)) ?_; (with_reducible refine (unicode_SimpleFold.calls x5_1 t145 _ (by first | (with_reducible exact HAMB.out) | exact Amb.below HAMB.out (by repeat (first | (with_reducible first | exact HB.out | apply below_alloc | apply pw_below_drewN | apply below_drew1) | exact HB.out)) | exact Amb.below HAMB.out (by repeat (first | (with_reducible first | exact Below.refl _ _ | apply pw_below_drewN | apply below_drew1 | apply below_alloc)))) A4.out).mono ?_); rintro e w6 ⟨rfl, hb⟩; refine ⟨_, rfl, ?_⟩; have n0_ := Aside0.mk (below_step (by repeat (first | (with_reducible first | exact HB.out | apply below_alloc | apply pw_below_drewN | apply below_drew1) | exact HB.out)) hb); clear HB; have HB := n0_; clear n0_; (try clear hb); (try clear hb2); (try clear hk); (try clear hi)))
       go_ret
       exact ⟨by first | rfl | (simp [errW_none, errW_some] <;> rfl) | (simp [*, errW_none, errW_some] <;> rfl), by repeat (first | (with_reducible first | exact HB.out | apply below_alloc | apply pw_below_drewN | apply below_drew1) | exact HB.out)⟩
     · rw [if_neg c5] at H
       have c5b0 : (t145 == a0) = false := beq_eq_false_iff_ne.mpr c5
       have c5b1 : (t145 != a0) = true := bne_iff_ne.mpr c5
       have H' := Aside0.mk H
       clear H
       go_wp2_with (first | ((with_reducible refine gate_callee (f := 30) rfl ?_); refine goesL_ (some 11) rfl rfl Tryd.func30 (by kernel_rfl) rfl #[.int .i32 x5_1] rfl (by (try simp only [List.map_toArray, List.map_cons, List.map_nil]); first | done | rfl | (simp only [List.length_drop, List.length_take]; rfl)) ?_; (with_reducible refine (unicode_SimpleFold.calls x5_1 t145 _ (by first | (with_reducible exact HAMB.out) | exact Amb.below HAMB.out (by repeat (first | (with_reducible first | exact HB.out | apply below_alloc | apply pw_below_drewN | apply below_drew1) | exact HB.out)) | exact Amb.below HAMB.out (by repeat (first | (with_reducible first | exact Below.refl _ _ | apply pw_below_drewN | apply below_drew1 | apply below_alloc)))) A4.out).mono ?_); rintro e w7 ⟨rfl, hb⟩; refine ⟨_, rfl, ?_⟩; have n0_ := Aside0.mk (below_step (by repeat (first | (with_reducible first | exact HB.out | apply below_alloc | apply pw_below_drewN | apply below_drew1) | exact HB.out)) hb); clear HB; have HB := n0_; clear n0_; (try clear hb); (try clear hb2); (try clear hk); (try clear hi)))
       go_roundg k1
       case measure => have := HK1.out; omega
       case rel => exact ⟨(t145), (by first | rfl | (simp; done) | (simp [*]; done)), H', ⟨by have := HK1.out; omega⟩, ⟨by repeat (first | (with_reducible first | exact HB.out | apply below_alloc | apply pw_below_drewN | apply below_drew1) | exact HB.out)⟩⟩

/-! ### spec_first: function 24 -/
def spec_first.l0 : Nat → List (S45) → Int → Int → Option (Int)
 | 0, _, _, _ => none
 | k + 1, x0, x1, x2 => if x1 < (x0.length : Int) then (if 0 ≤ x1 then ((spec_Alike.f k ((rd_T45 x0 x1).f0) x2).bind fun t147 => (if t147 = true then (some x1) else (spec_first.l0 k x0 (wrap64 (x1 + 1)) x2))) else (none)) else (some x1)
def spec_first.f (k : Nat) (l0 : List (S45)) (a1 : Int) (a2 : Int) : Option (Int) := spec_first.l0 k l0 a1 a2
theorem spec_first.mono_l : ∀ k, (∀ y0 y1 y2, LeO (spec_first.l0 k y0 y1 y2) (spec_first.l0 (k + 1) y0 y1 y2))
 | 0 => fun _ _ _ r h => by simp [spec_first.l0] at h
 | k + 1 => by
  have ih0 := spec_first.mono_l k
  · intro y0 y1 y2
    unfold spec_first.l0
    repeat' first
    | (with_reducible exact ih0 _ _ _)
    | (with_reducible exact spec_Alike.mono _ _ _)
    | (with_reducible exact LeO.refl _)
    | (with_reducible exact LeO.none _)
    | (with_reducible refine LeO.ite ?_ ?_)
    | (with_reducible refine LeO.bind ?_ (fun _ => ?_))
    | exact ih0 _ _ _
    | exact spec_Alike.mono _ _ _
    | exact LeO.none _
    | refine LeO.ite ?_ ?_
    | refine LeO.bind ?_ (fun _ => ?_)
theorem spec_first.mono : ∀ a0 a1 a2 k, LeO (spec_first.f k a0 a1 a2) (spec_first.f (k + 1) a0 a1 a2) := by
 intro a0 a1 a2 k
 have ih0 := spec_first.mono_l k
 unfold spec_first.f
 repeat' first
  | (with_reducible exact ih0 _ _ _)
  | (with_reducible exact spec_Alike.mono _ _ _)
  | (with_reducible exact LeO.refl _)
  | (with_reducible exact LeO.none _)
  | (with_reducible refine LeO.ite ?_ ?_)
  | (with_reducible refine LeO.bind ?_ (fun _ => ?_))
  | exact ih0 _ _ _
  | exact spec_Alike.mono _ _ _
  | exact LeO.none _
  | refine LeO.ite ?_ ?_
  | refine LeO.bind ?_ (fun _ => ?_)
set_option maxHeartbeats 8000000 in
set_option maxRecDepth 100000 in
theorem spec_first.calls (k : Nat) (A0 : Option Addr) (c0 : Nat) (l0 : List (S45)) (a1 : Int) (a2 : Int) (r : Int) (w : World) (hr0 : Kd.C k45 w A0 l0.length l0) (hc0 : l0.length ≤ c0) (hA_ : Amb w) (h : spec_first.f k l0 a1 a2 = some r) :
 Calls Tryd.prog 24 #[.slice A0 l0.length c0, .int .i64 a1, .int .i32 a2] w fun e w' => e = .returned (.int .i64 r) ∧ Below w.heap.size w w' := by
 have HR0 := Aside0.mk hr0
 have HC0 := Aside0.mk hc0
 clear hr0 hc0
 have HAMB := Aside0.mk hA_
 clear hA_
 have HB := Aside0.mk (Below.refl w.heap.size w)
 have H : (spec_first.l0 k l0 a1 a2) = some r := h
 clear h
 have H' := Aside0.mk H
 clear H
 go_enter Tryd.func24, Tryd.ntmps24
 go_wp2
 go_loopg [1] k (fun kq v1 w' => ∃ (x1_1 : Int), v1 = .int .i64 x1_1 ∧ Aside0 (spec_first.l0 kq l0 x1_1 a2 = some r) ∧ Aside0 (kq ≤ k) ∧ Aside0 (Below w.heap.size w w'))
 case atStart => exact ⟨(a1), (by first | rfl | (simp; done) | (simp [*]; done)), H', ⟨Nat.le_refl _⟩, ⟨by repeat (first | (with_reducible first | exact HB.out | apply below_alloc | apply pw_below_drewN | apply below_drew1) | exact HB.out)⟩⟩
 case round =>
  clear H'
  try clear c2
  try clear p2
  obtain ⟨x1_1, rfl, HA, HK1, HB⟩ := hrel
  cases gk with
  | zero => exact absurd HA.out (by simp [spec_first.l0])
  | succ k1 =>
   have H := HA.out
   clear HA
   simp only [spec_first.l0] at H
   by_cases c4 : x1_1 < (l0.length : Int)
   · rw [if_pos c4] at H
     have c4b0 : decide (x1_1 < (l0.length : Int)) = true := decide_eq_true c4
     clear c4
     by_cases c5 : 0 ≤ x1_1
     · rw [if_pos c5] at H
       have c5b0 : decide (0 ≤ x1_1) = true := decide_eq_true c5
       clear c5
       replace H := Option.bind_eq_some_iff.mp H
       obtain ⟨t147, A60, H⟩ := H
       replace H : (if t147 = true then (some x1_1) else (spec_first.l0 k1 l0 (wrap64 (x1_1 + 1)) a2)) = some r := H
       have A6 := Aside0.mk A60
       clear A60
       by_cases c7 : t147 = true
       · subst c7
         have H1 : (some x1_1) = some r := by rw [if_pos rfl] at H; exact H
         clear H
         have H := H1
         clear H1
         obtain rfl := Option.some.inj H
         have p146 : 0 ≤ (x1_1 : Int) := of_decide_eq_true (by first | (with_reducible assumption) | assumption)
         have q146 : x1_1 < (l0.length : Int) := of_decide_eq_true (by first | (with_reducible assumption) | assumption)
         obtain ⟨ad146, e146, hx146_0, hx146_1⟩ := at_T45 HR0.out x1_1 p146 q146
         cases e146
         replace hx146_0 := (HB.out.cell (World.block_lt_of_cell? w _ hx146_0)).trans hx146_0
         replace hx146_1 := (HB.out.cell (World.block_lt_of_cell? w _ hx146_1)).trans hx146_1
         replace p146 := eq_true p146
         replace q146 := eq_true q146
         go_wp2_with (first | (go_at_call 25; (with_reducible refine (spec_Alike.calls k1 ((rd_T45 l0 x1_1).f0) a2 true _ (by first | (with_reducible exact HAMB.out) | exact Amb.below HAMB.out (by repeat (first | (with_reducible first | exact HB.out | apply below_alloc | apply pw_below_drewN | apply below_drew1) | exact HB.out)) | exact Amb.below HAMB.out (by repeat (first | (with_reducible first | exact Below.refl _ _ | apply pw_below_drewN | apply below_drew1 | apply below_alloc)))) A6.out).mono ?_); rintro e w8 ⟨rfl, hb⟩; have n0_ := Aside0.mk (below_step (by repeat (first | (with_reducible first | exact HB.out | apply below_alloc | apply pw_below_drewN | apply below_drew1) | exact HB.out)) hb); clear HB; have HB := n0_; clear n0_; (try clear hb); (try clear hb2); (try clear hk); (try clear hi)))
         go_ret
         exact ⟨by first | rfl | (simp [errW_none, errW_some] <;> rfl) | (simp [*, errW_none, errW_some] <;> rfl), by repeat (first | (with_reducible first | exact HB.out | apply below_alloc | apply pw_below_drewN | apply below_drew1) | exact HB.out)⟩
       · replace c7 := Bool.eq_false_iff.mpr c7
         subst c7
         have H1 : (spec_first.l0 k1 l0 (wrap64 (x1_1 + 1)) a2) = some r := by rw [if_neg (show ¬ (false = true) by decide)] at H; exact H
         clear H
         have H := H1
         clear H1
         have H' := Aside0.mk H
         clear H
         have p146 : 0 ≤ (x1_1 : Int) := of_decide_eq_true (by first | (with_reducible assumption) | assumption)
         have q146 : x1_1 < (l0.length : Int) := of_decide_eq_true (by first | (with_reducible assumption) | assumption)
         obtain ⟨ad146, e146, hx146_0, hx146_1⟩ := at_T45 HR0.out x1_1 p146 q146
         cases e146
         replace hx146_0 := (HB.out.cell (World.block_lt_of_cell? w _ hx146_0)).trans hx146_0
         replace hx146_1 := (HB.out.cell (World.block_lt_of_cell? w _ hx146_1)).trans hx146_1
         replace p146 := eq_true p146
         replace q146 := eq_true q146
         go_wp2_with (first | (go_at_call 25; (with_reducible refine (spec_Alike.calls k1 ((rd_T45 l0 x1_1).f0) a2 false _ (by first | (with_reducible exact HAMB.out) | exact Amb.below HAMB.out (by repeat (first | (with_reducible first | exact HB.out | apply below_alloc | apply pw_below_drewN | apply below_drew1) | exact HB.out)) | exact Amb.below HAMB.out (by repeat (first | (with_reducible first | exact Below.refl _ _ | apply pw_below_drewN | apply below_drew1 | apply below_alloc)))) A6.out).mono ?_); rintro e w9 ⟨rfl, hb⟩; have n0_ := Aside0.mk (below_step (by repeat (first | (with_reducible first | exact HB.out | apply below_alloc | apply pw_below_drewN | apply below_drew1) | exact HB.out)) hb); clear HB; have HB := n0_; clear n0_; (try clear hb); (try clear hb2); (try clear hk); (try clear hi)))
         go_roundg k1
         case measure => have := HK1.out; omega
         case rel => exact ⟨(wrap64 (x1_1 + 1)), (by first | rfl | (simp; done) | (simp [*]; done)), H', ⟨by have := HK1.out; omega⟩, ⟨by repeat (first | (with_reducible first | exact HB.out | apply below_alloc | apply pw_below_drewN | apply below_drew1) | exact HB.out)⟩⟩
     · rw [if_neg c5] at H
       exact absurd H (by simp)
   · rw [if_neg c4] at H
     have c4b0 : decide (x1_1 < (l0.length : Int)) = false := decide_eq_false c4
     clear c4
     obtain rfl := Option.some.inj H
     go_wp2
     go_ret
     exact ⟨by first | rfl | (simp [errW_none, errW_some] <;> rfl) | (simp [*, errW_none, errW_some] <;> rfl), by repeat (first | (with_reducible first | exact HB.out | apply below_alloc | apply pw_below_drewN | apply below_drew1) | exact HB.out)⟩

/-! ### spec_stop: function 28 -/
def spec_stop.l0 : Nat → List (S45) → Int → Bool → Int → Option (Int)
 | 0, _, _, _, _ => none
 | k + 1, x0, x2, x3, x9 => if x9 < (x0.length : Int) then (if (wrap64 (x9 + 1)) = (x0.length : Int) then (some x9) else (if x3 = true then (if 0 ≤ (wrap64 (x9 + 1)) then (if (wrap64 (x9 + 1)) < (x0.length : Int) then ((spec_Alike.f k ((rd_T45 x0 (wrap64 (x9 + 1))).f0) x2).bind fun t149 => (if t149 = true then (some x9) else (spec_stop.l0 k x0 x2 x3 (wrap64 (x9 + 1))))) else (none)) else (none)) else (spec_stop.l0 k x0 x2 x3 (wrap64 (x9 + 1))))) else (some (wrap64 ((x0.length : Int) - 1)))
def spec_stop.f (k : Nat) (l0 : List (S45)) (a1 : Int) (a2 : Int) (a3 : Bool) : Option (Int) := spec_stop.l0 k l0 a2 a3 a1
theorem spec_stop.mono_l : ∀ k, (∀ y0 y1 y2 y3, LeO (spec_stop.l0 k y0 y1 y2 y3) (spec_stop.l0 (k + 1) y0 y1 y2 y3))
 | 0 => fun _ _ _ _ r h => by simp [spec_stop.l0] at h
 | k + 1 => by
  have ih0 := spec_stop.mono_l k
  · intro y0 y1 y2 y3
    unfold spec_stop.l0
    repeat' first
    | (with_reducible exact ih0 _ _ _ _)
    | (with_reducible exact spec_Alike.mono _ _ _)
    | (with_reducible exact LeO.refl _)
    | (with_reducible exact LeO.none _)
    | (with_reducible refine LeO.ite ?_ ?_)
    | (with_reducible refine LeO.bind ?_ (fun _ => ?_))
    | exact ih0 _ _ _ _
    | exact spec_Alike.mono _ _ _
    | exact LeO.none _
    | refine LeO.ite ?_ ?_
    | refine LeO.bind ?_ (fun _ => ?_)
theorem spec_stop.mono : ∀ a0 a1 a2 a3 k, LeO (spec_stop.f k a0 a1 a2 a3) (spec_stop.f (k + 1) a0 a1 a2 a3) := by
 intro a0 a1 a2 a3 k
 have ih0 := spec_stop.mono_l k
 unfold spec_stop.f
 repeat' first
  | (with_reducible exact ih0 _ _ _ _)
  | (with_reducible exact spec_Alike.mono _ _ _)
  | (with_reducible exact LeO.refl _)
  | (with_reducible exact LeO.none _)
  | (with_reducible refine LeO.ite ?_ ?_)
  | (with_reducible refine LeO.bind ?_ (fun _ => ?_))
  | exact ih0 _ _ _ _
  | exact spec_Alike.mono _ _ _
  | exact LeO.none _
  | refine LeO.ite ?_ ?_
  | refine LeO.bind ?_ (fun _ => ?_)
set_option maxHeartbeats 8000000 in
set_option maxRecDepth 100000 in
theorem spec_stop.calls (k : Nat) (A0 : Option Addr) (c0 : Nat) (l0 : List (S45)) (a1 : Int) (a2 : Int) (a3 : Bool) (r : Int) (w : World) (hr0 : Kd.C k45 w A0 l0.length l0) (hc0 : l0.length ≤ c0) (hA_ : Amb w) (h : spec_stop.f k l0 a1 a2 a3 = some r) :
 Calls Tryd.prog 28 #[.slice A0 l0.length c0, .int .i64 a1, .int .i32 a2, .bool a3] w fun e w' => e = .returned (.int .i64 r) ∧ Below w.heap.size w w' := by
 have HR0 := Aside0.mk hr0
 have HC0 := Aside0.mk hc0
 clear hr0 hc0
 have HAMB := Aside0.mk hA_
 clear hA_
 have HB := Aside0.mk (Below.refl w.heap.size w)
 have H : (spec_stop.l0 k l0 a2 a3 a1) = some r := h
 clear h
 have H' := Aside0.mk H
 clear H
 go_enter Tryd.func28, Tryd.ntmps28
 go_wp2
 go_loopg [9] k (fun kq v9 w' => ∃ (x9_1 : Int), v9 = .int .i64 x9_1 ∧ Aside0 (spec_stop.l0 kq l0 a2 a3 x9_1 = some r) ∧ Aside0 (kq ≤ k) ∧ Aside0 (Below w.heap.size w w'))
 case atStart => exact ⟨(a1), (by first | rfl | (simp; done) | (simp [*]; done)), H', ⟨Nat.le_refl _⟩, ⟨by repeat (first | (with_reducible first | exact HB.out | apply below_alloc | apply pw_below_drewN | apply below_drew1) | exact HB.out)⟩⟩
 case round =>
  clear H'
  try clear c2
  try clear p2
  obtain ⟨x9_1, rfl, HA, HK1, HB⟩ := hrel
  cases gk with
  | zero => exact absurd HA.out (by simp [spec_stop.l0])
  | succ k1 =>
   have H := HA.out
   clear HA
   simp only [spec_stop.l0] at H
   by_cases c5 : x9_1 < (l0.length : Int)
   · rw [if_pos c5] at H
     have c5b0 : decide (x9_1 < (l0.length : Int)) = true := decide_eq_true c5
     clear c5
     by_cases c6 : (wrap64 (x9_1 + 1)) = (l0.length : Int)
     · rw [if_pos c6] at H
       have c6b0 : ((wrap64 (x9_1 + 1)) == (l0.length : Int)) = true := beq_iff_eq.mpr c6
       have c6b1 : ((wrap64 (x9_1 + 1)) != (l0.length : Int)) = false := bne_eq_false_iff_eq.mpr c6
       clear c6
       obtain rfl := Option.some.inj H
       go_wp2
       go_ret
       exact ⟨by first | rfl | (simp [errW_none, errW_some] <;> rfl) | (simp [*, errW_none, errW_some] <;> rfl), by repeat (first | (with_reducible first | exact HB.out | apply below_alloc | apply pw_below_drewN | apply below_drew1) | exact HB.out)⟩
     · rw [if_neg c6] at H
       have c6b0 : ((wrap64 (x9_1 + 1)) == (l0.length : Int)) = false := beq_eq_false_iff_ne.mpr c6
       have c6b1 : ((wrap64 (x9_1 + 1)) != (l0.length : Int)) = true := bne_iff_ne.mpr c6
       by_cases c7 : a3 = true
       · subst c7
         have H1 : (if 0 ≤ (wrap64 (x9_1 + 1)) then (if (wrap64 (x9_1 + 1)) < (l0.length : Int) then ((spec_Alike.f k1 ((rd_T45 l0 (wrap64 (x9_1 + 1))).f0) a2).bind fun t149 => (if t149 = true then (some x9_1) else (spec_stop.l0 k1 l0 a2 true (wrap64 (x9_1 + 1))))) else (none)) else (none)) = some r := by rw [if_pos rfl] at H; exact H
         clear H
         have H := H1
         clear H1
         obtain ⟨ji8, hji8⟩ : ∃ j_ : Int, (wrap64 (x9_1 + 1)) = j_ := ⟨_, rfl⟩
         replace H : (if 0 ≤ (ji8) then (if (ji8) < (l0.length : Int) then ((spec_Alike.f k1 ((rd_T45 l0 (ji8)).f0) a2).bind fun t149 => (if t149 = true then (some x9_1) else (spec_stop.l0 k1 l0 a2 true ji8))) else (none)) else (none)) = some r := by first | (rw [hji8] at H; exact H) | (simp only [hji8] at H ⊢; exact H)
         (try rw [hji8] at c6b0)
         (try rw [hji8] at c6b1)
         have hji8w : (IntKind.i64.wrap (x9_1 + 1)) = ji8 := (i64_w _).trans hji8
         by_cases c9 : 0 ≤ (ji8)
         · rw [if_pos c9] at H
           have c9b0 : decide (0 ≤ (ji8)) = true := decide_eq_true c9
           clear c9
           by_cases c10 : (ji8) < (l0.length : Int)
           · rw [if_pos c10] at H
             have c10b0 : decide ((ji8) < (l0.length : Int)) = true := decide_eq_true c10
             clear c10
             replace H := Option.bind_eq_some_iff.mp H
             obtain ⟨t149, A110, H⟩ := H
             replace H : (if t149 = true then (some x9_1) else (spec_stop.l0 k1 l0 a2 true ji8)) = some r := H
             have A11 := Aside0.mk A110
             clear A110
             by_cases c12 : t149 = true
             · subst c12
               have H1 : (some x9_1) = some r := by rw [if_pos rfl] at H; exact H
               clear H
               have H := H1
               clear H1
               obtain rfl := Option.some.inj H
               have p148 : 0 ≤ ((ji8) : Int) := of_decide_eq_true (by first | (with_reducible assumption) | assumption)
               have q148 : (ji8) < (l0.length : Int) := of_decide_eq_true (by first | (with_reducible assumption) | assumption)
               obtain ⟨ad148, e148, hx148_0, hx148_1⟩ := at_T45 HR0.out (ji8) p148 q148
               cases e148
               replace hx148_0 := (HB.out.cell (World.block_lt_of_cell? w _ hx148_0)).trans hx148_0
               replace hx148_1 := (HB.out.cell (World.block_lt_of_cell? w _ hx148_1)).trans hx148_1
               replace p148 := eq_true p148
               replace q148 := eq_true q148
               go_wp2_with (first | (go_at_call 25; (with_reducible refine (spec_Alike.calls k1 ((rd_T45 l0 (ji8)).f0) a2 true _ (by first | (with_reducible exact HAMB.out) | exact Amb.below HAMB.out (by repeat (first | (with_reducible first | exact HB.out | apply below_alloc | apply pw_below_drewN | apply below_drew1) | exact HB.out)) | exact Amb.below HAMB.out (by repeat (first | (with_reducible first | exact Below.refl _ _ | apply pw_below_drewN | apply below_drew1 | apply below_alloc)))) A11.out).mono ?_); rintro e w13 ⟨rfl, hb⟩; have n0_ := Aside0.mk (below_step (by repeat (first | (with_reducible first | exact HB.out | apply below_alloc | apply pw_below_drewN | apply below_drew1) | exact HB.out)) hb); clear HB; have HB := n0_; clear n0_; (try clear hb); (try clear hb2); (try clear hk); (try clear hi)))
               go_ret
               exact ⟨by first | rfl | (simp [errW_none, errW_some] <;> rfl) | (simp only [← hji8]; first | rfl | (simp [errW_none, errW_some] <;> rfl)) | (simp [*, errW_none, errW_some] <;> rfl), by repeat (first | (with_reducible first | exact HB.out | apply below_alloc | apply pw_below_drewN | apply below_drew1) | exact HB.out)⟩
             · replace c12 := Bool.eq_false_iff.mpr c12
               subst c12
               have H1 : (spec_stop.l0 k1 l0 a2 true ji8) = some r := by rw [if_neg (show ¬ (false = true) by decide)] at H; exact H
               clear H
               have H := H1
               clear H1
               have H' := Aside0.mk H
               clear H
               have p148 : 0 ≤ ((ji8) : Int) := of_decide_eq_true (by first | (with_reducible assumption) | assumption)
               have q148 : (ji8) < (l0.length : Int) := of_decide_eq_true (by first | (with_reducible assumption) | assumption)
               obtain ⟨ad148, e148, hx148_0, hx148_1⟩ := at_T45 HR0.out (ji8) p148 q148
               cases e148
               replace hx148_0 := (HB.out.cell (World.block_lt_of_cell? w _ hx148_0)).trans hx148_0
               replace hx148_1 := (HB.out.cell (World.block_lt_of_cell? w _ hx148_1)).trans hx148_1
               replace p148 := eq_true p148
               replace q148 := eq_true q148
               go_wp2_with (first | (go_at_call 25; (with_reducible refine (spec_Alike.calls k1 ((rd_T45 l0 (ji8)).f0) a2 false _ (by first | (with_reducible exact HAMB.out) | exact Amb.below HAMB.out (by repeat (first | (with_reducible first | exact HB.out | apply below_alloc | apply pw_below_drewN | apply below_drew1) | exact HB.out)) | exact Amb.below HAMB.out (by repeat (first | (with_reducible first | exact Below.refl _ _ | apply pw_below_drewN | apply below_drew1 | apply below_alloc)))) A11.out).mono ?_); rintro e w14 ⟨rfl, hb⟩; have n0_ := Aside0.mk (below_step (by repeat (first | (with_reducible first | exact HB.out | apply below_alloc | apply pw_below_drewN | apply below_drew1) | exact HB.out)) hb); clear HB; have HB := n0_; clear n0_; (try clear hb); (try clear hb2); (try clear hk); (try clear hi)))
               first | go_roundg k1 | (simp only [← hji8]; go_roundg k1)
               case measure => have := HK1.out; omega
               case rel => exact ⟨(ji8), (by first | rfl | (simp; done) | (simp only [← hji8] <;> (first | rfl | simp)) | (simp [*]; done)), H', ⟨by have := HK1.out; omega⟩, ⟨by repeat (first | (with_reducible first | exact HB.out | apply below_alloc | apply pw_below_drewN | apply below_drew1) | exact HB.out)⟩⟩
           · rw [if_neg c10] at H
             exact absurd H (by simp)
         · rw [if_neg c9] at H
           exact absurd H (by simp)
       · replace c7 := Bool.eq_false_iff.mpr c7
         subst c7
         have H1 : (spec_stop.l0 k1 l0 a2 false (wrap64 (x9_1 + 1))) = some r := by rw [if_neg (show ¬ (false = true) by decide)] at H; exact H
         clear H
         have H := H1
         clear H1
         have H' := Aside0.mk H
         clear H
         go_wp2
         go_roundg k1
         case measure => have := HK1.out; omega
         case rel => exact ⟨(wrap64 (x9_1 + 1)), (by first | rfl | (simp; done) | (simp [*]; done)), H', ⟨by have := HK1.out; omega⟩, ⟨by repeat (first | (with_reducible first | exact HB.out | apply below_alloc | apply pw_below_drewN | apply below_drew1) | exact HB.out)⟩⟩
   · rw [if_neg c5] at H
     have c5b0 : decide (x9_1 < (l0.length : Int)) = false := decide_eq_false c5
     clear c5
     obtain rfl := Option.some.inj H
     go_wp2
     go_ret
     exact ⟨by first | rfl | (simp [errW_none, errW_some] <;> rfl) | (simp [*, errW_none, errW_some] <;> rfl), by repeat (first | (with_reducible first | exact HB.out | apply below_alloc | apply pw_below_drewN | apply below_drew1) | exact HB.out)⟩

/-! ### spec_separator: function 40 -/
def spec_separator.f (a0 : Int) : Option (Bool) := if a0 = 47 then (some true) else (if a0 = 45 then (some true) else (if a0 = 95 then (some true) else (if a0 = 32 then (some true) else (if a0 = 46 then (some true) else (some (a0 == 92))))))
set_option maxHeartbeats 8000000 in
set_option maxRecDepth 100000 in
theorem spec_separator.calls (a0 : Int) (r : Bool) (w : World) (h : spec_separator.f a0 = some r) :
 Calls Tryd.prog 40 #[.int .i32 a0] w fun e w' => e = .returned (.bool r) ∧ Drawn0 w w' := by
 have H : (if a0 = 47 then (some true) else (if a0 = 45 then (some true) else (if a0 = 95 then (some true) else (if a0 = 32 then (some true) else (if a0 = 46 then (some true) else (some (a0 == 92))))))) = some r := h
 clear h
 by_cases c2 : a0 = 47
 · rw [if_pos c2] at H
   have c2b0 : (a0 == 47) = true := beq_iff_eq.mpr c2
   have c2b1 : (a0 != 47) = false := bne_eq_false_iff_eq.mpr c2
   clear c2
   obtain rfl := Option.some.inj H
   go_enter Tryd.func40, Tryd.ntmps40
   go_wp2
   go_ret
   exact ⟨by first | rfl | (simp; done) | (simp [*]; done), by repeat (first | exact Drawn0.refl _ | apply Drawn0.step)⟩
 · rw [if_neg c2] at H
   have c2b0 : (a0 == 47) = false := beq_eq_false_iff_ne.mpr c2
   have c2b1 : (a0 != 47) = true := bne_iff_ne.mpr c2
   by_cases c3 : a0 = 45
   · rw [if_pos c3] at H
     have c3b0 : (a0 == 45) = true := beq_iff_eq.mpr c3
     have c3b1 : (a0 != 45) = false := bne_eq_false_iff_eq.mpr c3
     clear c3
     obtain rfl := Option.some.inj H
     go_enter Tryd.func40, Tryd.ntmps40
     go_wp2
     go_ret
     exact ⟨by first | rfl | (simp; done) | (simp [*]; done), by repeat (first | exact Drawn0.refl _ | apply Drawn0.step)⟩
   · rw [if_neg c3] at H
     have c3b0 : (a0 == 45) = false := beq_eq_false_iff_ne.mpr c3
     have c3b1 : (a0 != 45) = true := bne_iff_ne.mpr c3
     by_cases c4 : a0 = 95
     · rw [if_pos c4] at H
       have c4b0 : (a0 == 95) = true := beq_iff_eq.mpr c4
       have c4b1 : (a0 != 95) = false := bne_eq_false_iff_eq.mpr c4
       clear c4
       obtain rfl := Option.some.inj H
       go_enter Tryd.func40, Tryd.ntmps40
       go_wp2
       go_ret
       exact ⟨by first | rfl | (simp; done) | (simp [*]; done), by repeat (first | exact Drawn0.refl _ | apply Drawn0.step)⟩
     · rw [if_neg c4] at H
       have c4b0 : (a0 == 95) = false := beq_eq_false_iff_ne.mpr c4
       have c4b1 : (a0 != 95) = true := bne_iff_ne.mpr c4
       by_cases c5 : a0 = 32
       · rw [if_pos c5] at H
         have c5b0 : (a0 == 32) = true := beq_iff_eq.mpr c5
         have c5b1 : (a0 != 32) = false := bne_eq_false_iff_eq.mpr c5
         clear c5
         obtain rfl := Option.some.inj H
         go_enter Tryd.func40, Tryd.ntmps40
         go_wp2
         go_ret
         exact ⟨by first | rfl | (simp; done) | (simp [*]; done), by repeat (first | exact Drawn0.refl _ | apply Drawn0.step)⟩
       · rw [if_neg c5] at H
         have c5b0 : (a0 == 32) = false := beq_eq_false_iff_ne.mpr c5
         have c5b1 : (a0 != 32) = true := bne_iff_ne.mpr c5
         by_cases c6 : a0 = 46
         · rw [if_pos c6] at H
           have c6b0 : (a0 == 46) = true := beq_iff_eq.mpr c6
           have c6b1 : (a0 != 46) = false := bne_eq_false_iff_eq.mpr c6
           clear c6
           obtain rfl := Option.some.inj H
           go_enter Tryd.func40, Tryd.ntmps40
           go_wp2
           go_ret
           exact ⟨by first | rfl | (simp; done) | (simp [*]; done), by repeat (first | exact Drawn0.refl _ | apply Drawn0.step)⟩
         · rw [if_neg c6] at H
           have c6b0 : (a0 == 46) = false := beq_eq_false_iff_ne.mpr c6
           have c6b1 : (a0 != 46) = true := bne_iff_ne.mpr c6
           obtain rfl := Option.some.inj H
           go_enter Tryd.func40, Tryd.ntmps40
           go_wp2
           go_ret
           exact ⟨by first | rfl | (simp; done) | (simp [*]; done), by repeat (first | exact Drawn0.refl _ | apply Drawn0.step)⟩

end Go.Proofs.YtgeimklpcfepaaaDoor.P
namespace Go.Proofs.YtgeimklpcfepaaaDoor.P
open Go.RowKit Go.Proofs.YtgeimklpcfepaaaDoorW.PrintWords Go.Proofs.YtgeimklpcfepaaaDoorW.PrintLast Go.Proofs.YtgeimklpcfepaaaDoorW.PrintMore
attribute [local go_sem] max2_int min2_int max_two min_two max_three min_three max_four min_four   -- for this text's walks alone
set_option linter.unusedVariables false
set_option linter.unusedSimpArgs false

/-! ### spec_worth: function 29 -/
def spec_worth.j0 : Nat → List (S45) → Int → Int → Bool → Option (Int)
 | 0, _, _, _, _ => none
 | k + 1, x0, x1, x5, x22 => if x22 = true then (if 0 ≤ (wrap64 (x1 - 1)) then (if (wrap64 (x1 - 1)) < (x0.length : Int) then ((spec_separator.f ((rd_T45 x0 (wrap64 (x1 - 1))).f0)).bind fun t155 => (if t155 = true then (some (wrap64 ((wrap64 (x5 + 20)) + 20))) else (some (wrap64 (x5 + 20))))) else (none)) else (none)) else (if 0 ≤ (wrap64 (x1 - 1)) then (if (wrap64 (x1 - 1)) < (x0.length : Int) then ((spec_separator.f ((rd_T45 x0 (wrap64 (x1 - 1))).f0)).bind fun t157 => (if t157 = true then (some (wrap64 (x5 + 20))) else (some x5))) else (none)) else (none))
def spec_worth.f (k : Nat) (l0 : List (S45)) (a1 : Int) : Option (Int) := if a1 = 0 then (some 10) else (if 0 ≤ (wrap64 (a1 - 1)) then (if (wrap64 (a1 - 1)) < (l0.length : Int) then ((unicode_IsLower.f ((rd_T45 l0 (wrap64 (a1 - 1))).f0)).bind fun t151 => (if t151 = true then (if 0 ≤ a1 then (if a1 < (l0.length : Int) then ((unicode_IsUpper.f ((rd_T45 l0 a1).f0)).bind fun t153 => (spec_worth.j0 k l0 a1 0 t153)) else (none)) else (none)) else (spec_worth.j0 k l0 a1 0 false))) else (none)) else (none))
theorem spec_worth.mono_l : ∀ k, (∀ y0 y1 y2 y3, LeO (spec_worth.j0 k y0 y1 y2 y3) (spec_worth.j0 (k + 1) y0 y1 y2 y3))
 | 0 => fun _ _ _ _ r h => by simp [spec_worth.j0] at h
 | k + 1 => by
  have ih0 := spec_worth.mono_l k
  · intro y0 y1 y2 y3
    unfold spec_worth.j0
    repeat' first
    | (with_reducible exact ih0 _ _ _ _)
    | (with_reducible exact LeO.refl _)
    | (with_reducible exact LeO.none _)
    | (with_reducible refine LeO.ite ?_ ?_)
    | (with_reducible refine LeO.bind ?_ (fun _ => ?_))
    | exact ih0 _ _ _ _
    | exact LeO.none _
    | refine LeO.ite ?_ ?_
    | refine LeO.bind ?_ (fun _ => ?_)
theorem spec_worth.mono : ∀ a0 a1 k, LeO (spec_worth.f k a0 a1) (spec_worth.f (k + 1) a0 a1) := by
 intro a0 a1 k
 have ih0 := spec_worth.mono_l k
 unfold spec_worth.f
 repeat' first
  | (with_reducible exact ih0 _ _ _ _)
  | (with_reducible exact LeO.refl _)
  | (with_reducible exact LeO.none _)
  | (with_reducible refine LeO.ite ?_ ?_)
  | (with_reducible refine LeO.bind ?_ (fun _ => ?_))
  | exact ih0 _ _ _ _
  | exact LeO.none _
  | refine LeO.ite ?_ ?_
  | refine LeO.bind ?_ (fun _ => ?_)
set_option maxHeartbeats 8000000 in
set_option maxRecDepth 100000 in
theorem spec_worth.calls (k : Nat) (A0 : Option Addr) (c0 : Nat) (l0 : List (S45)) (a1 : Int) (r : Int) (w : World) (hr0 : Kd.C k45 w A0 l0.length l0) (hc0 : l0.length ≤ c0) (hA_ : Amb w) (h : spec_worth.f k l0 a1 = some r) :
 Calls Tryd.prog 29 #[.slice A0 l0.length c0, .int .i64 a1] w fun e w' => e = .returned (.int .i64 r) ∧ Below w.heap.size w w' := by
 have HR0 := Aside0.mk hr0
 have HC0 := Aside0.mk hc0
 clear hr0 hc0
 have HAMB := Aside0.mk hA_
 clear hA_
 have HB := Aside0.mk (Below.refl w.heap.size w)
 have H : (if a1 = 0 then (some 10) else (if 0 ≤ (wrap64 (a1 - 1)) then (if (wrap64 (a1 - 1)) < (l0.length : Int) then ((unicode_IsLower.f ((rd_T45 l0 (wrap64 (a1 - 1))).f0)).bind fun t151 => (if t151 = true then (if 0 ≤ a1 then (if a1 < (l0.length : Int) then ((unicode_IsUpper.f ((rd_T45 l0 a1).f0)).bind fun t153 => (spec_worth.j0 k l0 a1 0 t153)) else (none)) else (none)) else (spec_worth.j0 k l0 a1 0 false))) else (none)) else (none))) = some r := h
 clear h
 by_cases c3 : a1 = 0
 · rw [if_pos c3] at H
   have c3b0 : (a1 == 0) = true := beq_iff_eq.mpr c3
   have c3b1 : (a1 != 0) = false := bne_eq_false_iff_eq.mpr c3
   clear c3
   obtain rfl := Option.some.inj H
   go_enter Tryd.func29, Tryd.ntmps29
   go_wp2
   go_ret
   exact ⟨by first | rfl | (simp [wrap64]; done) | (simp; unfold wrap64; omega) | (simp [errW_none, errW_some] <;> rfl) | (simp [*, errW_none, errW_some] <;> rfl), by repeat (first | (with_reducible first | exact HB.out | apply below_alloc | apply pw_below_drewN | apply below_drew1) | exact HB.out)⟩
 · rw [if_neg c3] at H
   have c3b0 : (a1 == 0) = false := beq_eq_false_iff_ne.mpr c3
   have c3b1 : (a1 != 0) = true := bne_iff_ne.mpr c3
   have HC4 := Aside0.mk H
   clear H
   go_enter Tryd.func29, Tryd.ntmps29
   go_upto_region 4 with (fail)
   go_cut [22] (fun v22 wc => ∃ (kq : Nat) (x22_3 : Bool), v22 = .bool x22_3 ∧ Aside0 (spec_worth.j0 kq l0 a1 0 x22_3 = some r) ∧ Aside0 (kq ≤ k) ∧ Aside0 (Below w.heap.size w wc))
   case first =>
    have H := HC4.out
    clear HC4
    obtain ⟨ji5, hji5⟩ : ∃ j_ : Int, (wrap64 (a1 - 1)) = j_ := ⟨_, rfl⟩
    replace H : (if 0 ≤ (ji5) then (if (ji5) < (l0.length : Int) then ((unicode_IsLower.f ((rd_T45 l0 (ji5)).f0)).bind fun t151 => (if t151 = true then (if 0 ≤ a1 then (if a1 < (l0.length : Int) then ((unicode_IsUpper.f ((rd_T45 l0 a1).f0)).bind fun t153 => (spec_worth.j0 k l0 a1 0 t153)) else (none)) else (none)) else (spec_worth.j0 k l0 a1 0 false))) else (none)) else (none)) = some r := by first | (rw [hji5] at H; exact H) | (simp only [hji5] at H ⊢; exact H)
    have hji5w : (IntKind.i64.wrap (a1 - 1)) = ji5 := (i64_w _).trans hji5
    by_cases c6 : 0 ≤ (ji5)
    · rw [if_pos c6] at H
      have c6b0 : decide (0 ≤ (ji5)) = true := decide_eq_true c6
      clear c6
      (first | rw [c6b0] | (simp only [i64_w, i32_w]; rw [c6b0]) | skip)
      by_cases c7 : (ji5) < (l0.length : Int)
      · rw [if_pos c7] at H
        have c7b0 : decide ((ji5) < (l0.length : Int)) = true := decide_eq_true c7
        clear c7
        replace H := Option.bind_eq_some_iff.mp H
        obtain ⟨t151, A80, H⟩ := H
        replace H : (if t151 = true then (if 0 ≤ a1 then (if a1 < (l0.length : Int) then ((unicode_IsUpper.f ((rd_T45 l0 a1).f0)).bind fun t153 => (spec_worth.j0 k l0 a1 0 t153)) else (none)) else (none)) else (spec_worth.j0 k l0 a1 0 false)) = some r := H
        have A8 := Aside0.mk A80
        clear A80
        by_cases c9 : t151 = true
        · subst c9
          have H1 : (if 0 ≤ a1 then (if a1 < (l0.length : Int) then ((unicode_IsUpper.f ((rd_T45 l0 a1).f0)).bind fun t153 => (spec_worth.j0 k l0 a1 0 t153)) else (none)) else (none)) = some r := by rw [if_pos rfl] at H; exact H
          clear H
          have H := H1
          clear H1
          by_cases c10 : 0 ≤ a1
          · rw [if_pos c10] at H
            have c10b0 : decide (0 ≤ a1) = true := decide_eq_true c10
            clear c10
            by_cases c11 : a1 < (l0.length : Int)
            · rw [if_pos c11] at H
              have c11b0 : decide (a1 < (l0.length : Int)) = true := decide_eq_true c11
              clear c11
              replace H := Option.bind_eq_some_iff.mp H
              obtain ⟨t153, A120, H⟩ := H
              replace H : (spec_worth.j0 k l0 a1 0 t153) = some r := H
              have A12 := Aside0.mk A120
              clear A120
              have H' := Aside0.mk H
              clear H
              have p150 : 0 ≤ ((ji5) : Int) := of_decide_eq_true (by first | (with_reducible assumption) | assumption)
              have q150 : (ji5) < (l0.length : Int) := of_decide_eq_true (by first | (with_reducible assumption) | assumption)
              obtain ⟨ad150, e150, hx150_0, hx150_1⟩ := at_T45 HR0.out (ji5) p150 q150
              cases e150
              replace hx150_0 := (HB.out.cell (World.block_lt_of_cell? w _ hx150_0)).trans hx150_0
              replace hx150_1 := (HB.out.cell (World.block_lt_of_cell? w _ hx150_1)).trans hx150_1
              replace p150 := eq_true p150
              replace q150 := eq_true q150
              go_wp2_with (first | ((with_reducible refine gate_callee (f := 35) rfl ?_); refine goesL_ (some 14) rfl rfl Tryd.func35 (by kernel_rfl) rfl #[.int .i32 ((rd_T45 l0 (ji5)).f0)] rfl (by (try simp only [List.map_toArray, List.map_cons, List.map_nil]); first | done | (simp only [hji5]; rfl) | rfl | (simp only [List.length_drop, List.length_take]; rfl)) ?_; (with_reducible refine (unicode_IsLower.calls ((rd_T45 l0 (ji5)).f0) true _ (by first | (with_reducible exact HAMB.out) | exact Amb.below HAMB.out (by repeat (first | (with_reducible first | exact HB.out | apply below_alloc | apply pw_below_drewN | apply below_drew1) | exact HB.out)) | exact Amb.below HAMB.out (by repeat (first | (with_reducible first | exact Below.refl _ _ | apply pw_below_drewN | apply below_drew1 | apply below_alloc)))) A8.out).mono ?_); rintro e w13 ⟨rfl, hb⟩; refine ⟨_, rfl, ?_⟩; have n0_ := Aside0.mk (below_step (by repeat (first | (with_reducible first | exact HB.out | apply below_alloc | apply pw_below_drewN | apply below_drew1) | exact HB.out)) hb); clear HB; have HB := n0_; clear n0_; (try clear hb); (try clear hb2); (try clear hk); (try clear hi); have p152 : 0 ≤ (a1 : Int) := of_decide_eq_true (by first | (with_reducible assumption) | assumption); have q152 : a1 < (l0.length : Int) := of_decide_eq_true (by first | (with_reducible assumption) | assumption); obtain ⟨ad152, e152, hx152_0, hx152_1⟩ := at_T45 HR0.out a1 p152 q152; obtain rfl : ad150 = ad152 := (by injection e152); replace hx152_0 := (HB.out.cell (World.block_lt_of_cell? w _ hx152_0)).trans hx152_0; replace hx152_1 := (HB.out.cell (World.block_lt_of_cell? w _ hx152_1)).trans hx152_1; replace p152 := eq_true p152; replace q152 := eq_true q152) | (go_at_call 36; (with_reducible refine (unicode_IsUpper.calls ((rd_T45 l0 a1).f0) t153 _ (by first | (with_reducible exact HAMB.out) | exact Amb.below HAMB.out (by repeat (first | (with_reducible first | exact HB.out | apply below_alloc | apply pw_below_drewN | apply below_drew1) | exact HB.out)) | exact Amb.below HAMB.out (by repeat (first | (with_reducible first | exact Below.refl _ _ | apply pw_below_drewN | apply below_drew1 | apply below_alloc)))) A12.out).mono ?_); rintro e w14 ⟨rfl, hb⟩; have n0_ := Aside0.mk (below_step (by repeat (first | (with_reducible first | exact HB.out | apply below_alloc | apply pw_below_drewN | apply below_drew1) | exact HB.out)) hb); clear HB; have HB := n0_; clear n0_; (try clear hb); (try clear hb2); (try clear hk); (try clear hi)))
              go_meet
              case rel => exact ⟨_, (t153), (by first | rfl | (simp; done) | (simp [*]; done)), H', ⟨by first | omega | exact Nat.le_refl _⟩, ⟨by repeat (first | (with_reducible first | exact HB.out | apply below_alloc | apply pw_below_drewN | apply below_drew1) | exact HB.out)⟩⟩
            · rw [if_neg c11] at H
              exact absurd H (by simp)
          · rw [if_neg c10] at H
            exact absurd H (by simp)
        · replace c9 := Bool.eq_false_iff.mpr c9
          subst c9
          have H1 : (spec_worth.j0 k l0 a1 0 false) = some r := by rw [if_neg (show ¬ (false = true) by decide)] at H; exact H
          clear H
          have H := H1
          clear H1
          have H' := Aside0.mk H
          clear H
          have p150 : 0 ≤ ((ji5) : Int) := of_decide_eq_true (by first | (with_reducible assumption) | assumption)
          have q150 : (ji5) < (l0.length : Int) := of_decide_eq_true (by first | (with_reducible assumption) | assumption)
          obtain ⟨ad150, e150, hx150_0, hx150_1⟩ := at_T45 HR0.out (ji5) p150 q150
          cases e150
          replace hx150_0 := (HB.out.cell (World.block_lt_of_cell? w _ hx150_0)).trans hx150_0
          replace hx150_1 := (HB.out.cell (World.block_lt_of_cell? w _ hx150_1)).trans hx150_1
          replace p150 := eq_true p150
          replace q150 := eq_true q150
          go_wp2_with (first | ((with_reducible refine gate_callee (f := 35) rfl ?_); refine goesL_ (some 14) rfl rfl Tryd.func35 (by kernel_rfl) rfl #[.int .i32 ((rd_T45 l0 (ji5)).f0)] rfl (by (try simp only [List.map_toArray, List.map_cons, List.map_nil]); first | done | (simp only [hji5]; rfl) | rfl | (simp only [List.length_drop, List.length_take]; rfl)) ?_; (with_reducible refine (unicode_IsLower.calls ((rd_T45 l0 (ji5)).f0) false _ (by first | (with_reducible exact HAMB.out) | exact Amb.below HAMB.out (by repeat (first | (with_reducible first | exact HB.out | apply below_alloc | apply pw_below_drewN | apply below_drew1) | exact HB.out)) | exact Amb.below HAMB.out (by repeat (first | (with_reducible first | exact Below.refl _ _ | apply pw_below_drewN | apply below_drew1 | apply below_alloc)))) A8.out).mono ?_); rintro e w15 ⟨rfl, hb⟩; refine ⟨_, rfl, ?_⟩; have n0_ := Aside0.mk (below_step (by repeat (first | (with_reducible first | exact HB.out | apply below_alloc | apply pw_below_drewN | apply below_drew1) | exact HB.out)) hb); clear HB; have HB := n0_; clear n0_; (try clear hb); (try clear hb2); (try clear hk); (try clear hi)))
          go_meet
          case rel => exact ⟨_, (false), (by first | rfl | (simp; done) | (simp [*]; done)), H', ⟨by first | omega | exact Nat.le_refl _⟩, ⟨by repeat (first | (with_reducible first | exact HB.out | apply below_alloc | apply pw_below_drewN | apply below_drew1) | exact HB.out)⟩⟩
      · rw [if_neg c7] at H
        exact absurd H (by simp)
    · rw [if_neg c6] at H
      exact absurd H (by simp)
   case rest =>
    clear HC4
    try clear c1
    try clear p1
    try clear q1
    try clear hx1
    try clear c2
    try clear p2
    try clear c3
    try clear c3b0
    try clear c3b1
    try clear c6
    try clear c6b0
    try clear p6
    try clear c7
    try clear c7b0
    try clear c9
    try clear c10
    try clear c10b0
    try clear c11
    try clear c11b0
    try clear p15
    try clear q15
    try clear hx15
    try clear hx150_0
    try clear hx150_1
    try clear hx152_0
    try clear hx152_1
    try clear p150
    try clear p152
    try clear q150
    try clear q152
    obtain ⟨kq, x22_3, rfl, HA, HJ3, HB⟩ := hcut
    cases kq with
    | zero => exact absurd HA.out (by simp [spec_worth.j0])
    | succ kj3 =>
     have H := HA.out
     clear HA
     simp only [spec_worth.j0] at H
     by_cases c16 : x22_3 = true
     · subst c16
       have H1 : (if 0 ≤ (wrap64 (a1 - 1)) then (if (wrap64 (a1 - 1)) < (l0.length : Int) then ((spec_separator.f ((rd_T45 l0 (wrap64 (a1 - 1))).f0)).bind fun t155 => (if t155 = true then (some (wrap64 ((wrap64 (0 + 20)) + 20))) else (some (wrap64 (0 + 20))))) else (none)) else (none)) = some r := by rw [if_pos rfl] at H; exact H
       clear H
       have H := H1
       clear H1
       obtain ⟨ji17, hji17⟩ : ∃ j_ : Int, (wrap64 (a1 - 1)) = j_ := ⟨_, rfl⟩
       replace H : (if 0 ≤ (ji17) then (if (ji17) < (l0.length : Int) then ((spec_separator.f ((rd_T45 l0 (ji17)).f0)).bind fun t155 => (if t155 = true then (some (wrap64 ((wrap64 (0 + 20)) + 20))) else (some (wrap64 (0 + 20))))) else (none)) else (none)) = some r := by first | (rw [hji17] at H; exact H) | (simp only [hji17] at H ⊢; exact H)
       have hji17w : (IntKind.i64.wrap (a1 - 1)) = ji17 := (i64_w _).trans hji17
       by_cases c18 : 0 ≤ (ji17)
       · rw [if_pos c18] at H
         have c18b0 : decide (0 ≤ (ji17)) = true := decide_eq_true c18
         clear c18
         by_cases c19 : (ji17) < (l0.length : Int)
         · rw [if_pos c19] at H
           have c19b0 : decide ((ji17) < (l0.length : Int)) = true := decide_eq_true c19
           clear c19
           replace H := Option.bind_eq_some_iff.mp H
           obtain ⟨t155, A200, H⟩ := H
           replace H : (if t155 = true then (some (wrap64 ((wrap64 (0 + 20)) + 20))) else (some (wrap64 (0 + 20)))) = some r := H
           have A20 := Aside0.mk A200
           clear A200
           by_cases c21 : t155 = true
           · subst c21
             have H1 : (some (wrap64 ((wrap64 (0 + 20)) + 20))) = some r := by rw [if_pos rfl] at H; exact H
             clear H
             have H := H1
             clear H1
             obtain rfl := Option.some.inj H
             have p154 : 0 ≤ ((ji17) : Int) := of_decide_eq_true (by first | (with_reducible assumption) | assumption)
             have q154 : (ji17) < (l0.length : Int) := of_decide_eq_true (by first | (with_reducible assumption) | assumption)
             obtain ⟨ad154, e154, hx154_0, hx154_1⟩ := at_T45 HR0.out (ji17) p154 q154
             cases e154
             replace hx154_0 := (HB.out.cell (World.block_lt_of_cell? w _ hx154_0)).trans hx154_0
             replace hx154_1 := (HB.out.cell (World.block_lt_of_cell? w _ hx154_1)).trans hx154_1
             replace p154 := eq_true p154
             replace q154 := eq_true q154
             go_wp2_with (first | ((with_reducible refine gate_callee (f := 40) rfl ?_); refine goesL_ (some 31) rfl rfl Tryd.func40 (by kernel_rfl) rfl #[.int .i32 ((rd_T45 l0 (ji17)).f0)] rfl (by (try simp only [List.map_toArray, List.map_cons, List.map_nil]); first | done | (simp only [hji17]; rfl) | rfl | (simp only [List.length_drop, List.length_take]; rfl)) ?_; (with_reducible refine (spec_separator.calls ((rd_T45 l0 (ji17)).f0) true _ A20.out).mono ?_); rintro e w' ⟨rfl, ⟨nd, rfl⟩⟩; refine ⟨_, rfl, ?_⟩))
             go_ret
             exact ⟨by first | rfl | (simp [wrap64]; done) | (simp; unfold wrap64; omega) | (simp [errW_none, errW_some] <;> rfl) | (simp only [← hji17]; first | rfl | (simp [errW_none, errW_some] <;> rfl)) | (simp [*, errW_none, errW_some] <;> rfl), by repeat (first | (with_reducible first | exact HB.out | apply below_alloc | apply pw_below_drewN | apply below_drew1) | exact HB.out)⟩
           · replace c21 := Bool.eq_false_iff.mpr c21
             subst c21
             have H1 : (some (wrap64 (0 + 20))) = some r := by rw [if_neg (show ¬ (false = true) by decide)] at H; exact H
             clear H
             have H := H1
             clear H1
             obtain rfl := Option.some.inj H
             have p154 : 0 ≤ ((ji17) : Int) := of_decide_eq_true (by first | (with_reducible assumption) | assumption)
             have q154 : (ji17) < (l0.length : Int) := of_decide_eq_true (by first | (with_reducible assumption) | assumption)
             obtain ⟨ad154, e154, hx154_0, hx154_1⟩ := at_T45 HR0.out (ji17) p154 q154
             cases e154
             replace hx154_0 := (HB.out.cell (World.block_lt_of_cell? w _ hx154_0)).trans hx154_0
             replace hx154_1 := (HB.out.cell (World.block_lt_of_cell? w _ hx154_1)).trans hx154_1
             replace p154 := eq_true p154
             replace q154 := eq_true q154
             go_wp2_with (first | ((with_reducible refine gate_callee (f := 40) rfl ?_); refine goesL_ (some 31) rfl rfl Tryd.func40 (by kernel_rfl) rfl #[.int .i32 ((rd_T45 l0 (ji17)).f0)] rfl (by (try simp only [List.map_toArray, List.map_cons, List.map_nil]); first | done | (simp only [hji17]; rfl) | rfl | (simp only [List.length_drop, List.length_take]; rfl)) ?_; (with_reducible refine (spec_separator.calls ((rd_T45 l0 (ji17)).f0) false _ A20.out).mono ?_); rintro e w' ⟨rfl, ⟨nd, rfl⟩⟩; refine ⟨_, rfl, ?_⟩))
             go_ret
             exact ⟨by first | rfl | (simp [wrap64]; done) | (simp; unfold wrap64; omega) | (simp [errW_none, errW_some] <;> rfl) | (simp only [← hji17]; first | rfl | (simp [errW_none, errW_some] <;> rfl)) | (simp [*, errW_none, errW_some] <;> rfl), by repeat (first | (with_reducible first | exact HB.out | apply below_alloc | apply pw_below_drewN | apply below_drew1) | exact HB.out)⟩
         · rw [if_neg c19] at H
           exact absurd H (by simp)
       · rw [if_neg c18] at H
         exact absurd H (by simp)
     · replace c16 := Bool.eq_false_iff.mpr c16
       subst c16
       have H1 : (if 0 ≤ (wrap64 (a1 - 1)) then (if (wrap64 (a1 - 1)) < (l0.length : Int) then ((spec_separator.f ((rd_T45 l0 (wrap64 (a1 - 1))).f0)).bind fun t157 => (if t157 = true then (some (wrap64 (0 + 20))) else (some 0))) else (none)) else (none)) = some r := by rw [if_neg (show ¬ (false = true) by decide)] at H; exact H
       clear H
       have H := H1
       clear H1
       obtain ⟨ji22, hji22⟩ : ∃ j_ : Int, (wrap64 (a1 - 1)) = j_ := ⟨_, rfl⟩
       replace H : (if 0 ≤ (ji22) then (if (ji22) < (l0.length : Int) then ((spec_separator.f ((rd_T45 l0 (ji22)).f0)).bind fun t157 => (if t157 = true then (some (wrap64 (0 + 20))) else (some 0))) else (none)) else (none)) = some r := by first | (rw [hji22] at H; exact H) | (simp only [hji22] at H ⊢; exact H)
       have hji22w : (IntKind.i64.wrap (a1 - 1)) = ji22 := (i64_w _).trans hji22
       by_cases c23 : 0 ≤ (ji22)
       · rw [if_pos c23] at H
         have c23b0 : decide (0 ≤ (ji22)) = true := decide_eq_true c23
         clear c23
         by_cases c24 : (ji22) < (l0.length : Int)
         · rw [if_pos c24] at H
           have c24b0 : decide ((ji22) < (l0.length : Int)) = true := decide_eq_true c24
           clear c24
           replace H := Option.bind_eq_some_iff.mp H
           obtain ⟨t157, A250, H⟩ := H
           replace H : (if t157 = true then (some (wrap64 (0 + 20))) else (some 0)) = some r := H
           have A25 := Aside0.mk A250
           clear A250
           by_cases c26 : t157 = true
           · subst c26
             have H1 : (some (wrap64 (0 + 20))) = some r := by rw [if_pos rfl] at H; exact H
             clear H
             have H := H1
             clear H1
             obtain rfl := Option.some.inj H
             have p156 : 0 ≤ ((ji22) : Int) := of_decide_eq_true (by first | (with_reducible assumption) | assumption)
             have q156 : (ji22) < (l0.length : Int) := of_decide_eq_true (by first | (with_reducible assumption) | assumption)
             obtain ⟨ad156, e156, hx156_0, hx156_1⟩ := at_T45 HR0.out (ji22) p156 q156
             cases e156
             replace hx156_0 := (HB.out.cell (World.block_lt_of_cell? w _ hx156_0)).trans hx156_0
             replace hx156_1 := (HB.out.cell (World.block_lt_of_cell? w _ hx156_1)).trans hx156_1
             replace p156 := eq_true p156
             replace q156 := eq_true q156
             go_wp2_with (first | ((with_reducible refine gate_callee (f := 40) rfl ?_); refine goesL_ (some 31) rfl rfl Tryd.func40 (by kernel_rfl) rfl #[.int .i32 ((rd_T45 l0 (ji22)).f0)] rfl (by (try simp only [List.map_toArray, List.map_cons, List.map_nil]); first | done | (simp only [hji22]; rfl) | rfl | (simp only [List.length_drop, List.length_take]; rfl)) ?_; (with_reducible refine (spec_separator.calls ((rd_T45 l0 (ji22)).f0) true _ A25.out).mono ?_); rintro e w' ⟨rfl, ⟨nd, rfl⟩⟩; refine ⟨_, rfl, ?_⟩))
             go_ret
             exact ⟨by first | rfl | (simp [wrap64]; done) | (simp; unfold wrap64; omega) | (simp [errW_none, errW_some] <;> rfl) | (simp only [← hji22]; first | rfl | (simp [errW_none, errW_some] <;> rfl)) | (simp [*, errW_none, errW_some] <;> rfl), by repeat (first | (with_reducible first | exact HB.out | apply below_alloc | apply pw_below_drewN | apply below_drew1) | exact HB.out)⟩
           · replace c26 := Bool.eq_false_iff.mpr c26
             subst c26
             have H1 : (some 0) = some r := by rw [if_neg (show ¬ (false = true) by decide)] at H; exact H
             clear H
             have H := H1
             clear H1
             obtain rfl := Option.some.inj H
             have p156 : 0 ≤ ((ji22) : Int) := of_decide_eq_true (by first | (with_reducible assumption) | assumption)
             have q156 : (ji22) < (l0.length : Int) := of_decide_eq_true (by first | (with_reducible assumption) | assumption)
             obtain ⟨ad156, e156, hx156_0, hx156_1⟩ := at_T45 HR0.out (ji22) p156 q156
             cases e156
             replace hx156_0 := (HB.out.cell (World.block_lt_of_cell? w _ hx156_0)).trans hx156_0
             replace hx156_1 := (HB.out.cell (World.block_lt_of_cell? w _ hx156_1)).trans hx156_1
             replace p156 := eq_true p156
             replace q156 := eq_true q156
             go_wp2_with (first | ((with_reducible refine gate_callee (f := 40) rfl ?_); refine goesL_ (some 31) rfl rfl Tryd.func40 (by kernel_rfl) rfl #[.int .i32 ((rd_T45 l0 (ji22)).f0)] rfl (by (try simp only [List.map_toArray, List.map_cons, List.map_nil]); first | done | (simp only [hji22]; rfl) | rfl | (simp only [List.length_drop, List.length_take]; rfl)) ?_; (with_reducible refine (spec_separator.calls ((rd_T45 l0 (ji22)).f0) false _ A25.out).mono ?_); rintro e w' ⟨rfl, ⟨nd, rfl⟩⟩; refine ⟨_, rfl, ?_⟩))
             go_ret
             exact ⟨by first | rfl | (simp [wrap64]; done) | (simp; unfold wrap64; omega) | (simp [errW_none, errW_some] <;> rfl) | (simp only [← hji22]; first | rfl | (simp [errW_none, errW_some] <;> rfl)) | (simp [*, errW_none, errW_some] <;> rfl), by repeat (first | (with_reducible first | exact HB.out | apply below_alloc | apply pw_below_drewN | apply below_drew1) | exact HB.out)⟩
         · rw [if_neg c24] at H
           exact absurd H (by simp)
       · rw [if_neg c23] at H
         exact absurd H (by simp)

end Go.Proofs.YtgeimklpcfepaaaDoor.P
