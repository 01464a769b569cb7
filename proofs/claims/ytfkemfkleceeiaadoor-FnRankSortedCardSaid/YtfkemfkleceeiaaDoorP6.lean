-- written by a program of this session (wip/tools), out of the translation
import Derived.Test.YtfkemfkleceeiaaDoorP0
import Derived.Test.YtfkemfkleceeiaaDoorP4
import Derived.Test.YtfkemfkleceeiaaDoorP5
import Derived.Test.YtfkemfkleceeiaaDoorExtFold
namespace Go.Proofs.YtfkemfkleceeiaaDoor.P
open Go.RowKit Go.Proofs.YtfkemfkleceeiaaDoorW.PrintWords Go.Proofs.YtfkemfkleceeiaaDoorW.PrintLast Go.Proofs.YtfkemfkleceeiaaDoorW.PrintMore
attribute [local go_sem] max2_int min2_int max_two min_two max_three min_three max_four min_four   -- for this text's walks alone
set_option linter.unusedVariables false
set_option linter.unusedSimpArgs false

/-! ### laws_FnDistance: function 3 -/
mutual
def laws_FnDistance.j0 : Nat → ByteArray → ByteArray → Bool → Option (Bool)
  | 0, _, _, _ => none
  | k + 1, x0, x1, x12 => if x12 = true then (some true) else (if (x0.size : Int) > 60 then (laws_FnDistance.j1 k x0 x1 true) else (laws_FnDistance.j1 k x0 x1 (decide ((x1.size : Int) > 60))))
def laws_FnDistance.j1 : Nat → ByteArray → ByteArray → Bool → Option (Bool)
  | 0, _, _, _ => none
  | k + 1, x0, x1, x20 => if x20 = true then (some true) else ((impl_Distance.f k x0 x1).bind fun t168 => ((spec_Distance.f k x0 x1).bind fun t169 => (some (t168 == t169))))
end
def laws_FnDistance.f (k : Nat) (a0 : ByteArray) (a1 : ByteArray) : Option (Bool) := if (a0.size : Int) > 2147483647 then (laws_FnDistance.j0 k a0 a1 true) else (laws_FnDistance.j0 k a0 a1 (decide ((a1.size : Int) > 2147483647)))
theorem laws_FnDistance.mono_l : ∀ k, (∀ y0 y1 y2, LeO (laws_FnDistance.j0 k y0 y1 y2) (laws_FnDistance.j0 (k + 1) y0 y1 y2)) ∧ (∀ y0 y1 y2, LeO (laws_FnDistance.j1 k y0 y1 y2) (laws_FnDistance.j1 (k + 1) y0 y1 y2))
  | 0 => ⟨fun _ _ _ r h => by simp [laws_FnDistance.j0] at h, fun _ _ _ r h => by simp [laws_FnDistance.j1] at h⟩
  | k + 1 => by
    obtain ⟨ih0, ih1⟩ := laws_FnDistance.mono_l k
    refine ⟨?_, ?_⟩
    · intro y0 y1 y2
      unfold laws_FnDistance.j0
      repeat' first
      | (with_reducible exact ih0 _ _ _)
      | (with_reducible exact ih1 _ _ _)
      | (with_reducible exact impl_Distance.mono _ _ _)
      | (with_reducible exact spec_Distance.mono _ _ _)
      | (with_reducible exact LeO.refl _)
      | (with_reducible exact LeO.none _)
      | (with_reducible refine LeO.ite ?_ ?_)
      | (with_reducible refine LeO.bind ?_ (fun _ => ?_))
      | exact ih0 _ _ _
      | exact ih1 _ _ _
      | exact impl_Distance.mono _ _ _
      | exact spec_Distance.mono _ _ _
      | exact LeO.none _
      | refine LeO.ite ?_ ?_
      | refine LeO.bind ?_ (fun _ => ?_)
    · intro y0 y1 y2
      unfold laws_FnDistance.j1
      repeat' first
      | (with_reducible exact ih0 _ _ _)
      | (with_reducible exact ih1 _ _ _)
      | (with_reducible exact impl_Distance.mono _ _ _)
      | (with_reducible exact spec_Distance.mono _ _ _)
      | (with_reducible exact LeO.refl _)
      | (with_reducible exact LeO.none _)
      | (with_reducible refine LeO.ite ?_ ?_)
      | (with_reducible refine LeO.bind ?_ (fun _ => ?_))
      | exact ih0 _ _ _
      | exact ih1 _ _ _
      | exact impl_Distance.mono _ _ _
      | exact spec_Distance.mono _ _ _
      | exact LeO.none _
      | refine LeO.ite ?_ ?_
      | refine LeO.bind ?_ (fun _ => ?_)
theorem laws_FnDistance.mono : ∀ a0 a1 k, LeO (laws_FnDistance.f k a0 a1) (laws_FnDistance.f (k + 1) a0 a1) := by
  intro a0 a1 k
  obtain ⟨ih0, ih1⟩ := laws_FnDistance.mono_l k
  unfold laws_FnDistance.f
  repeat' first
      | (with_reducible exact ih0 _ _ _)
      | (with_reducible exact ih1 _ _ _)
      | (with_reducible exact impl_Distance.mono _ _ _)
      | (with_reducible exact spec_Distance.mono _ _ _)
      | (with_reducible exact LeO.refl _)
      | (with_reducible exact LeO.none _)
      | (with_reducible refine LeO.ite ?_ ?_)
      | (with_reducible refine LeO.bind ?_ (fun _ => ?_))
      | exact ih0 _ _ _
      | exact ih1 _ _ _
      | exact impl_Distance.mono _ _ _
      | exact spec_Distance.mono _ _ _
      | exact LeO.none _
      | refine LeO.ite ?_ ?_
      | refine LeO.bind ?_ (fun _ => ?_)
set_option maxHeartbeats 8000000 in
set_option maxRecDepth 100000 in
theorem laws_FnDistance.calls (k : Nat) (a0 : ByteArray) (a1 : ByteArray) (r : Bool) (w : World) (hA_ : Amb w) (h : laws_FnDistance.f k a0 a1 = some r) :
    Calls Tryd.prog 3 #[.string a0, .string a1] w fun e w' => e = .returned (.bool r) ∧ Below w.heap.size w w' := by
  have HAMB := Aside0.mk hA_
  clear hA_
  have HB := Aside0.mk (Below.refl w.heap.size w)
  have H : (if (a0.size : Int) > 2147483647 then (laws_FnDistance.j0 k a0 a1 true) else (laws_FnDistance.j0 k a0 a1 (decide ((a1.size : Int) > 2147483647)))) = some r := h
  clear h
  have HC3 := Aside0.mk H
  clear H
  go_enter Tryd.func3, Tryd.ntmps3
  go_upto_region 1 with (fail)
  go_cut [12] (fun v12 wc => ∃ (kq : Nat) (x12_2 : Bool), v12 = .bool x12_2 ∧ Aside0 (laws_FnDistance.j0 kq a0 a1 x12_2 = some r) ∧ Aside0 (kq ≤ k) ∧ Aside0 (Below w.heap.size w wc))
  case first =>
    have H := HC3.out
    clear HC3
    by_cases c4 : (a0.size : Int) > 2147483647
    · rw [if_pos c4] at H
      have c4b0 : decide (2147483647 < (a0.size : Int)) = true := decide_eq_true c4
      have c4b1 : decide (2147483647 < a0.size) = true := decide_eq_true (by omega)
      clear c4
      (first | rw [c4b0] | (simp only [i64_w, i32_w]; rw [c4b0]) | skip)
      have H' := Aside0.mk H
      clear H
      go_wp2
      go_meet
      case rel => exact ⟨_, (true), (by first | rfl | (simp; done) | (simp [*]; done)), H', ⟨by first | omega | exact Nat.le_refl _⟩, ⟨by repeat (first | (with_reducible first | exact HB.out | apply below_alloc | apply pw_below_drewN | apply below_drew1) | exact HB.out)⟩⟩
    · rw [if_neg c4] at H
      have c4b0 : decide (2147483647 < (a0.size : Int)) = false := decide_eq_false c4
      have c4b1 : decide (2147483647 < a0.size) = false := decide_eq_false (by omega)
      clear c4
      (first | rw [c4b0] | (simp only [i64_w, i32_w]; rw [c4b0]) | skip)
      have H' := Aside0.mk H
      clear H
      go_wp2
      go_meet
      case rel => exact ⟨_, (decide ((a1.size : Int) > 2147483647)), (by first | rfl | (simp; done) | (simp [*]; done)), H', ⟨by first | omega | exact Nat.le_refl _⟩, ⟨by repeat (first | (with_reducible first | exact HB.out | apply below_alloc | apply pw_below_drewN | apply below_drew1) | exact HB.out)⟩⟩
  case rest =>
    clear HC3
    try clear p2
    try clear c3
    try clear c4
    try clear c4b0
    try clear c4b1
    obtain ⟨kq, x12_2, rfl, HA, HJ2, HB⟩ := hcut
    cases kq with
    | zero => exact absurd HA.out (by simp [laws_FnDistance.j0])
    | succ kj2 =>
      have H := HA.out
      clear HA
      simp only [laws_FnDistance.j0] at H
      by_cases c5 : x12_2 = true
      · subst c5
        have H1 : (some true) = some r := by rw [if_pos rfl] at H; exact H
        clear H
        have H := H1
        clear H1
        obtain rfl := Option.some.inj H
        go_wp2
        go_ret
        exact ⟨by first | rfl | (simp [errW_none, errW_some] <;> rfl) | (simp [*, errW_none, errW_some] <;> rfl), by repeat (first | (with_reducible first | exact HB.out | apply below_alloc | apply pw_below_drewN | apply below_drew1) | exact HB.out)⟩
      · replace c5 := Bool.eq_false_iff.mpr c5
        subst c5
        have H1 : (if (a0.size : Int) > 60 then (laws_FnDistance.j1 kj2 a0 a1 true) else (laws_FnDistance.j1 kj2 a0 a1 (decide ((a1.size : Int) > 60)))) = some r := by rw [if_neg (show ¬ (false = true) by decide)] at H; exact H
        clear H
        have H := H1
        clear H1
        have HC6 := Aside0.mk H
        clear H
        go_upto_region 3 with (fail)
        go_cut [20] (fun v20 wc => ∃ (kq : Nat) (x20_5 : Bool), v20 = .bool x20_5 ∧ Aside0 (laws_FnDistance.j1 kq a0 a1 x20_5 = some r) ∧ Aside0 (kq ≤ kj2) ∧ Aside0 (Below w.heap.size w wc))
        case first =>
          have H := HC6.out
          clear HC6
          by_cases c7 : (a0.size : Int) > 60
          · rw [if_pos c7] at H
            have c7b0 : decide (60 < (a0.size : Int)) = true := decide_eq_true c7
            have c7b1 : decide (60 < a0.size) = true := decide_eq_true (by omega)
            clear c7
            (first | rw [c7b0] | (simp only [i64_w, i32_w]; rw [c7b0]) | skip)
            have H' := Aside0.mk H
            clear H
            go_wp2
            go_meet
            case rel => exact ⟨_, (true), (by first | rfl | (simp; done) | (simp [*]; done)), H', ⟨by have := HJ2.out; first | omega | exact Nat.le_refl _⟩, ⟨by repeat (first | (with_reducible first | exact HB.out | apply below_alloc | apply pw_below_drewN | apply below_drew1) | exact HB.out)⟩⟩
          · rw [if_neg c7] at H
            have c7b0 : decide (60 < (a0.size : Int)) = false := decide_eq_false c7
            have c7b1 : decide (60 < a0.size) = false := decide_eq_false (by omega)
            clear c7
            (first | rw [c7b0] | (simp only [i64_w, i32_w]; rw [c7b0]) | skip)
            have H' := Aside0.mk H
            clear H
            go_wp2
            go_meet
            case rel => exact ⟨_, (decide ((a1.size : Int) > 60)), (by first | rfl | (simp; done) | (simp [*]; done)), H', ⟨by have := HJ2.out; first | omega | exact Nat.le_refl _⟩, ⟨by repeat (first | (with_reducible first | exact HB.out | apply below_alloc | apply pw_below_drewN | apply below_drew1) | exact HB.out)⟩⟩
        case rest =>
          clear HC6
          try clear p2
          try clear c3
          try clear c4
          try clear c4b0
          try clear c4b1
          try clear c5
          try clear c7
          try clear c7b0
          try clear c7b1
          try clear p2
          obtain ⟨kq, x20_5, rfl, HA, HJ5, HB⟩ := hcut
          cases kq with
          | zero => exact absurd HA.out (by simp [laws_FnDistance.j1])
          | succ kj5 =>
            have H := HA.out
            clear HA
            simp only [laws_FnDistance.j1] at H
            by_cases c8 : x20_5 = true
            · subst c8
              have H1 : (some true) = some r := by rw [if_pos rfl] at H; exact H
              clear H
              have H := H1
              clear H1
              obtain rfl := Option.some.inj H
              go_wp2
              go_ret
              exact ⟨by first | rfl | (simp [errW_none, errW_some] <;> rfl) | (simp [*, errW_none, errW_some] <;> rfl), by repeat (first | (with_reducible first | exact HB.out | apply below_alloc | apply pw_below_drewN | apply below_drew1) | exact HB.out)⟩
            · replace c8 := Bool.eq_false_iff.mpr c8
              subst c8
              have H1 : ((impl_Distance.f kj5 a0 a1).bind fun t168 => ((spec_Distance.f kj5 a0 a1).bind fun t169 => (some (t168 == t169)))) = some r := by rw [if_neg (show ¬ (false = true) by decide)] at H; exact H
              clear H
              have H := H1
              clear H1
              replace H := Option.bind_eq_some_iff.mp H
              obtain ⟨t168, A90, H⟩ := H
              replace H : ((spec_Distance.f kj5 a0 a1).bind fun t169 => (some (t168 == t169))) = some r := H
              have A9 := Aside0.mk A90
              clear A90
              replace H := Option.bind_eq_some_iff.mp H
              obtain ⟨t169, A100, H⟩ := H
              replace H : (some (t168 == t169)) = some r := H
              have A10 := Aside0.mk A100
              clear A100
              obtain rfl := Option.some.inj H
              go_wp2_with (first | ((with_reducible refine gate_callee (f := 12) rfl ?_); refine goesL_ (some 23) rfl rfl Tryd.func12 (by kernel_rfl) rfl #[.string a0, .string a1] rfl (by (try simp only [List.map_toArray, List.map_cons, List.map_nil]); first | done | rfl | (simp only [List.length_drop, List.length_take]; rfl)) ?_; (with_reducible refine (impl_Distance.calls kj5 a0 a1 t168 _ A9.out).mono ?_); rintro e w11 ⟨rfl, hb⟩; refine ⟨_, rfl, ?_⟩; have n0_ := Aside0.mk (below_step (by repeat (first | (with_reducible first | exact HB.out | apply below_alloc | apply pw_below_drewN | apply below_drew1) | exact HB.out)) hb); clear HB; have HB := n0_; clear n0_; (try clear hb); (try clear hb2); (try clear hk); (try clear hi)) | ((with_reducible refine gate_callee (f := 13) rfl ?_); refine goesL_ (some 26) rfl rfl Tryd.func13 (by kernel_rfl) rfl #[.string a0, .string a1] rfl (by (try simp only [List.map_toArray, List.map_cons, List.map_nil]); first | done | rfl | (simp only [List.length_drop, List.length_take]; rfl)) ?_; (with_reducible refine (spec_Distance.calls kj5 a0 a1 t169 _ (by first | (with_reducible exact HAMB.out) | exact Amb.below HAMB.out (by repeat (first | (with_reducible first | exact HB.out | apply below_alloc | apply pw_below_drewN | apply below_drew1) | exact HB.out)) | exact Amb.below HAMB.out (by repeat (first | (with_reducible first | exact Below.refl _ _ | apply pw_below_drewN | apply below_drew1 | apply below_alloc)))) A10.out).mono ?_); rintro e w12 ⟨rfl, hb⟩; refine ⟨_, rfl, ?_⟩; have n0_ := Aside0.mk (below_step (by repeat (first | (with_reducible first | exact HB.out | apply below_alloc | apply pw_below_drewN | apply below_drew1) | exact HB.out)) hb); clear HB; have HB := n0_; clear n0_; (try clear hb); (try clear hb2); (try clear hk); (try clear hi)))
              go_ret
              exact ⟨by first | rfl | (simp [errW_none, errW_some] <;> rfl) | (simp [*, errW_none, errW_some] <;> rfl), by repeat (first | (with_reducible first | exact HB.out | apply below_alloc | apply pw_below_drewN | apply below_drew1) | exact HB.out)⟩

-- TOLD BY HAND: function 30 (spec_Plain)

/-! ### spec_AllPlain: function 14 -/
mutual
def spec_AllPlain.j0 : Nat → List ByteArray → Bool → Option (Bool)
  | 0, _, _ => none
  | k + 1, x1, x13 => if x13 = true then (some false) else (spec_AllPlain.l0 k x1 0)
def spec_AllPlain.l0 : Nat → List ByteArray → Int → Option (Bool)
  | 0, _, _ => none
  | k + 1, x1, x5 => if x5 < (x1.length : Int) then (if 0 ≤ x5 then ((spec_Plain.f (rdOf ByteArray.empty x1 x5)).bind fun t172 => (if t172 = true then (spec_AllPlain.l0 k x1 (wrap64 (x5 + 1))) else (some false))) else (none)) else (some true)
end
def spec_AllPlain.f (k : Nat) (a0 : ByteArray) (l1 : List ByteArray) : Option (Bool) := (spec_Plain.f a0).bind fun t170 => (if t170 = true then (spec_AllPlain.j0 k l1 (decide ((l1.length : Int) > 20))) else (spec_AllPlain.j0 k l1 true))
theorem spec_AllPlain.mono_l : ∀ k, (∀ y0 y1, LeO (spec_AllPlain.j0 k y0 y1) (spec_AllPlain.j0 (k + 1) y0 y1)) ∧ (∀ y0 y1, LeO (spec_AllPlain.l0 k y0 y1) (spec_AllPlain.l0 (k + 1) y0 y1))
  | 0 => ⟨fun _ _ r h => by simp [spec_AllPlain.j0] at h, fun _ _ r h => by simp [spec_AllPlain.l0] at h⟩
  | k + 1 => by
    obtain ⟨ih0, ih1⟩ := spec_AllPlain.mono_l k
    refine ⟨?_, ?_⟩
    · intro y0 y1
      unfold spec_AllPlain.j0
      repeat' first
      | (with_reducible exact ih0 _ _)
      | (with_reducible exact ih1 _ _)
      | (with_reducible exact LeO.refl _)
      | (with_reducible exact LeO.none _)
      | (with_reducible refine LeO.ite ?_ ?_)
      | (with_reducible refine LeO.bind ?_ (fun _ => ?_))
      | exact ih0 _ _
      | exact ih1 _ _
      | exact LeO.none _
      | refine LeO.ite ?_ ?_
      | refine LeO.bind ?_ (fun _ => ?_)
    · intro y0 y1
      unfold spec_AllPlain.l0
      repeat' first
      | (with_reducible exact ih0 _ _)
      | (with_reducible exact ih1 _ _)
      | (with_reducible exact LeO.refl _)
      | (with_reducible exact LeO.none _)
      | (with_reducible refine LeO.ite ?_ ?_)
      | (with_reducible refine LeO.bind ?_ (fun _ => ?_))
      | exact ih0 _ _
      | exact ih1 _ _
      | exact LeO.none _
      | refine LeO.ite ?_ ?_
      | refine LeO.bind ?_ (fun _ => ?_)
theorem spec_AllPlain.mono : ∀ a0 a1 k, LeO (spec_AllPlain.f k a0 a1) (spec_AllPlain.f (k + 1) a0 a1) := by
  intro a0 a1 k
  obtain ⟨ih0, ih1⟩ := spec_AllPlain.mono_l k
  unfold spec_AllPlain.f
  repeat' first
      | (with_reducible exact ih0 _ _)
      | (with_reducible exact ih1 _ _)
      | (with_reducible exact LeO.refl _)
      | (with_reducible exact LeO.none _)
      | (with_reducible refine LeO.ite ?_ ?_)
      | (with_reducible refine LeO.bind ?_ (fun _ => ?_))
      | exact ih0 _ _
      | exact ih1 _ _
      | exact LeO.none _
      | refine LeO.ite ?_ ?_
      | refine LeO.bind ?_ (fun _ => ?_)
set_option maxHeartbeats 8000000 in
set_option maxRecDepth 100000 in
theorem spec_AllPlain.calls (k : Nat) (a0 : ByteArray) (A1 : Option Addr) (c1 : Nat) (l1 : List ByteArray) (r : Bool) (w : World) (hr1 : Kd.C Kd.string w A1 l1.length l1) (hc1 : l1.length ≤ c1) (h : spec_AllPlain.f k a0 l1 = some r) :
    Calls Tryd.prog 14 #[.string a0, .slice A1 l1.length c1] w fun e w' => e = .returned (.bool r) ∧ Below w.heap.size w w' := by
  have HR1 := Aside0.mk hr1
  have HC1 := Aside0.mk hc1
  clear hr1 hc1
  have HB := Aside0.mk (Below.refl w.heap.size w)
  have H : ((spec_Plain.f a0).bind fun t170 => (if t170 = true then (spec_AllPlain.j0 k l1 (decide ((l1.length : Int) > 20))) else (spec_AllPlain.j0 k l1 true))) = some r := h
  clear h
  have HC3 := Aside0.mk H
  clear H
  go_enter Tryd.func14, Tryd.ntmps14
  go_upto_region 1 with (fail)
  go_cut [13] (fun v13 wc => ∃ (kq : Nat) (x13_2 : Bool), v13 = .bool x13_2 ∧ Aside0 (spec_AllPlain.j0 kq l1 x13_2 = some r) ∧ Aside0 (kq ≤ k) ∧ Aside0 (Below w.heap.size w wc))
  case first =>
    have H := HC3.out
    clear HC3
    replace H := Option.bind_eq_some_iff.mp H
    obtain ⟨t170, A40, H⟩ := H
    replace H : (if t170 = true then (spec_AllPlain.j0 k l1 (decide ((l1.length : Int) > 20))) else (spec_AllPlain.j0 k l1 true)) = some r := H
    have A4 := Aside0.mk A40
    clear A40
    by_cases c5 : t170 = true
    · subst c5
      have H1 : (spec_AllPlain.j0 k l1 (decide ((l1.length : Int) > 20))) = some r := by rw [if_pos rfl] at H; exact H
      clear H
      have H := H1
      clear H1
      have H' := Aside0.mk H
      clear H
      go_wp2_with (first | ((with_reducible refine gate_callee (f := 30) rfl ?_); refine goesL_ (some 7) rfl rfl Tryd.func30 (by kernel_rfl) rfl #[.string a0] rfl (by (try simp only [List.map_toArray, List.map_cons, List.map_nil]); first | done | rfl | (simp only [List.length_drop, List.length_take]; rfl)) ?_; (with_reducible refine (spec_Plain.calls a0 true _ A4.out).mono ?_); rintro e w6 ⟨rfl, hb⟩; refine ⟨_, rfl, ?_⟩; have n0_ := Aside0.mk (below_step (by repeat (first | (with_reducible first | exact HB.out | apply below_alloc | apply pw_below_drewN | apply below_drew1) | exact HB.out)) hb); clear HB; have HB := n0_; clear n0_; (try clear hb); (try clear hb2); (try clear hk); (try clear hi)))
      go_meet
      case rel => exact ⟨_, (decide ((l1.length : Int) > 20)), (by first | rfl | (simp; done) | (simp [*]; done)), H', ⟨by first | omega | exact Nat.le_refl _⟩, ⟨by repeat (first | (with_reducible first | exact HB.out | apply below_alloc | apply pw_below_drewN | apply below_drew1) | exact HB.out)⟩⟩
    · replace c5 := Bool.eq_false_iff.mpr c5
      subst c5
      have H1 : (spec_AllPlain.j0 k l1 true) = some r := by rw [if_neg (show ¬ (false = true) by decide)] at H; exact H
      clear H
      have H := H1
      clear H1
      have H' := Aside0.mk H
      clear H
      go_wp2_with (first | ((with_reducible refine gate_callee (f := 30) rfl ?_); refine goesL_ (some 7) rfl rfl Tryd.func30 (by kernel_rfl) rfl #[.string a0] rfl (by (try simp only [List.map_toArray, List.map_cons, List.map_nil]); first | done | rfl | (simp only [List.length_drop, List.length_take]; rfl)) ?_; (with_reducible refine (spec_Plain.calls a0 false _ A4.out).mono ?_); rintro e w7 ⟨rfl, hb⟩; refine ⟨_, rfl, ?_⟩; have n0_ := Aside0.mk (below_step (by repeat (first | (with_reducible first | exact HB.out | apply below_alloc | apply pw_below_drewN | apply below_drew1) | exact HB.out)) hb); clear HB; have HB := n0_; clear n0_; (try clear hb); (try clear hb2); (try clear hk); (try clear hi)))
      go_meet
      case rel => exact ⟨_, (true), (by first | rfl | (simp; done) | (simp [*]; done)), H', ⟨by first | omega | exact Nat.le_refl _⟩, ⟨by repeat (first | (with_reducible first | exact HB.out | apply below_alloc | apply pw_below_drewN | apply below_drew1) | exact HB.out)⟩⟩
  case rest =>
    clear HC3
    try clear c1
    try clear p2
    try clear c3
    try clear c5
    obtain ⟨kq, x13_2, rfl, HA, HJ2, HB⟩ := hcut
    cases kq with
    | zero => exact absurd HA.out (by simp [spec_AllPlain.j0])
    | succ kj2 =>
      have H := HA.out
      clear HA
      simp only [spec_AllPlain.j0] at H
      by_cases c8 : x13_2 = true
      · subst c8
        have H1 : (some false) = some r := by rw [if_pos rfl] at H; exact H
        clear H
        have H := H1
        clear H1
        obtain rfl := Option.some.inj H
        go_wp2
        go_ret
        exact ⟨by first | rfl | (simp [errW_none, errW_some] <;> rfl) | (simp [*, errW_none, errW_some] <;> rfl), by repeat (first | (with_reducible first | exact HB.out | apply below_alloc | apply pw_below_drewN | apply below_drew1) | exact HB.out)⟩
      · replace c8 := Bool.eq_false_iff.mpr c8
        subst c8
        have H1 : (spec_AllPlain.l0 kj2 l1 0) = some r := by rw [if_neg (show ¬ (false = true) by decide)] at H; exact H
        clear H
        have H := H1
        clear H1
        have H' := Aside0.mk H
        clear H
        go_wp2
        go_loopg [5] kj2 (fun kq v5 w' => ∃ (x5_2 : Int), v5 = .int .i64 x5_2 ∧ Aside0 (spec_AllPlain.l0 kq l1 x5_2 = some r) ∧ Aside0 (kq ≤ kj2) ∧ Aside0 (Below w.heap.size w w'))
        case atStart => exact ⟨(0), (by first | rfl | (simp; done) | (simp [*]; done)), H', ⟨Nat.le_refl _⟩, ⟨by repeat (first | (with_reducible first | exact HB.out | apply below_alloc | apply pw_below_drewN | apply below_drew1) | exact HB.out)⟩⟩
        case round =>
          clear H'
          try clear c1
          try clear p2
          try clear c3
          try clear c5
          try clear c8
          try clear p2
          obtain ⟨x5_2, rfl, HA, HK2, HB⟩ := hrel
          cases gk with
          | zero => exact absurd HA.out (by simp [spec_AllPlain.l0])
          | succ k2 =>
            have H := HA.out
            clear HA
            simp only [spec_AllPlain.l0] at H
            by_cases c9 : x5_2 < (l1.length : Int)
            · rw [if_pos c9] at H
              have c9b0 : decide (x5_2 < (l1.length : Int)) = true := decide_eq_true c9
              clear c9
              by_cases c10 : 0 ≤ x5_2
              · rw [if_pos c10] at H
                have c10b0 : decide (0 ≤ x5_2) = true := decide_eq_true c10
                clear c10
                replace H := Option.bind_eq_some_iff.mp H
                obtain ⟨t172, A110, H⟩ := H
                replace H : (if t172 = true then (spec_AllPlain.l0 k2 l1 (wrap64 (x5_2 + 1))) else (some false)) = some r := H
                have A11 := Aside0.mk A110
                clear A110
                by_cases c12 : t172 = true
                · subst c12
                  have H1 : (spec_AllPlain.l0 k2 l1 (wrap64 (x5_2 + 1))) = some r := by rw [if_pos rfl] at H; exact H
                  clear H
                  have H := H1
                  clear H1
                  have H' := Aside0.mk H
                  clear H
                  have p171 : 0 ≤ (x5_2 : Int) := of_decide_eq_true (by first | (with_reducible assumption) | assumption)
                  have q171 : x5_2 < (l1.length : Int) := of_decide_eq_true (by first | (with_reducible assumption) | assumption)
                  obtain ⟨ad171, e171, hx171_0⟩ := Kd.at_string HR1.out x5_2 p171 q171
                  cases e171
                  replace hx171_0 := (HB.out.cell (World.block_lt_of_cell? w _ hx171_0)).trans hx171_0
                  replace p171 := eq_true p171
                  replace q171 := eq_true q171
                  go_wp2_with (first | ((with_reducible refine gate_callee (f := 30) rfl ?_); refine goesL_ (some 24) rfl rfl Tryd.func30 (by kernel_rfl) rfl #[.string (rdOf ByteArray.empty l1 x5_2)] rfl (by (try simp only [List.map_toArray, List.map_cons, List.map_nil]); first | done | rfl | (simp only [List.length_drop, List.length_take]; rfl)) ?_; (with_reducible refine (spec_Plain.calls (rdOf ByteArray.empty l1 x5_2) true _ A11.out).mono ?_); rintro e w13 ⟨rfl, hb⟩; refine ⟨_, rfl, ?_⟩; have n0_ := Aside0.mk (below_step (by repeat (first | (with_reducible first | exact HB.out | apply below_alloc | apply pw_below_drewN | apply below_drew1) | exact HB.out)) hb); clear HB; have HB := n0_; clear n0_; (try clear hb); (try clear hb2); (try clear hk); (try clear hi)))
                  go_roundg k2
                  case measure => have := HJ2.out; have := HK2.out; omega
                  case rel => exact ⟨(wrap64 (x5_2 + 1)), (by first | rfl | (simp; done) | (simp [*]; done)), H', ⟨by have := HJ2.out; have := HK2.out; omega⟩, ⟨by repeat (first | (with_reducible first | exact HB.out | apply below_alloc | apply pw_below_drewN | apply below_drew1) | exact HB.out)⟩⟩
                · replace c12 := Bool.eq_false_iff.mpr c12
                  subst c12
                  have H1 : (some false) = some r := by rw [if_neg (show ¬ (false = true) by decide)] at H; exact H
                  clear H
                  have H := H1
                  clear H1
                  obtain rfl := Option.some.inj H
                  have p171 : 0 ≤ (x5_2 : Int) := of_decide_eq_true (by first | (with_reducible assumption) | assumption)
                  have q171 : x5_2 < (l1.length : Int) := of_decide_eq_true (by first | (with_reducible assumption) | assumption)
                  obtain ⟨ad171, e171, hx171_0⟩ := Kd.at_string HR1.out x5_2 p171 q171
                  cases e171
                  replace hx171_0 := (HB.out.cell (World.block_lt_of_cell? w _ hx171_0)).trans hx171_0
                  replace p171 := eq_true p171
                  replace q171 := eq_true q171
                  go_wp2_with (first | ((with_reducible refine gate_callee (f := 30) rfl ?_); refine goesL_ (some 24) rfl rfl Tryd.func30 (by kernel_rfl) rfl #[.string (rdOf ByteArray.empty l1 x5_2)] rfl (by (try simp only [List.map_toArray, List.map_cons, List.map_nil]); first | done | rfl | (simp only [List.length_drop, List.length_take]; rfl)) ?_; (with_reducible refine (spec_Plain.calls (rdOf ByteArray.empty l1 x5_2) false _ A11.out).mono ?_); rintro e w14 ⟨rfl, hb⟩; refine ⟨_, rfl, ?_⟩; have n0_ := Aside0.mk (below_step (by repeat (first | (with_reducible first | exact HB.out | apply below_alloc | apply pw_below_drewN | apply below_drew1) | exact HB.out)) hb); clear HB; have HB := n0_; clear n0_; (try clear hb); (try clear hb2); (try clear hk); (try clear hi)))
                  go_ret
                  exact ⟨by first | rfl | (simp [errW_none, errW_some] <;> rfl) | (simp [*, errW_none, errW_some] <;> rfl), by repeat (first | (with_reducible first | exact HB.out | apply below_alloc | apply pw_below_drewN | apply below_drew1) | exact HB.out)⟩
              · rw [if_neg c10] at H
                exact absurd H (by simp)
            · rw [if_neg c9] at H
              have c9b0 : decide (x5_2 < (l1.length : Int)) = false := decide_eq_false c9
              clear c9
              obtain rfl := Option.some.inj H
              go_wp2
              go_ret
              exact ⟨by first | rfl | (simp [errW_none, errW_some] <;> rfl) | (simp [*, errW_none, errW_some] <;> rfl), by repeat (first | (with_reducible first | exact HB.out | apply below_alloc | apply pw_below_drewN | apply below_drew1) | exact HB.out)⟩

end Go.Proofs.YtfkemfkleceeiaaDoor.P
