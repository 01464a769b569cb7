-- written by a program of this session (wip/tools), out of the translation
import Derived.Test.YtgeimklpcfepaaaDoorP0
import Derived.Test.YtgeimklpcfepaaaDoorExtLetters
namespace Go.Proofs.YtgeimklpcfepaaaDoor.P
open Go.RowKit Go.Proofs.YtgeimklpcfepaaaDoorW.PrintWords Go.Proofs.YtgeimklpcfepaaaDoorW.PrintLast Go.Proofs.YtgeimklpcfepaaaDoorW.PrintMore
attribute [local go_sem] max2_int min2_int max_two min_two max_three min_three max_four min_four   -- for this text's walks alone
set_option linter.unusedVariables false
set_option linter.unusedSimpArgs false

/-! ### laws_zzFits1: function 8 -/
def laws_zzFits1.l0 : Nat → List ByteArray → Int → Int → Option (Bool)
 | 0, _, _, _ => none
 | k + 1, x8, x9, x10 => if x10 < x9 then (if 0 ≤ x10 then (if x10 < (x8.length : Int) then (if ((rdOf ByteArray.empty x8 x10).size : Int) > 2147483647 then (some false) else (laws_zzFits1.l0 k x8 x9 (wrap64 (x10 + 1)))) else (none)) else (none)) else (some true)
def laws_zzFits1.f (k : Nat) (l0 : List ByteArray) : Option (Bool) := if (l0.length : Int) > 2147483647 then (some false) else (laws_zzFits1.l0 k l0 (l0.length : Int) 0)
theorem laws_zzFits1.mono_l : ∀ k, (∀ y0 y1 y2, LeO (laws_zzFits1.l0 k y0 y1 y2) (laws_zzFits1.l0 (k + 1) y0 y1 y2))
 | 0 => fun _ _ _ r h => by simp [laws_zzFits1.l0] at h
 | k + 1 => by
  have ih0 := laws_zzFits1.mono_l k
  · intro y0 y1 y2
    unfold laws_zzFits1.l0
    repeat' first
    | (with_reducible exact ih0 _ _ _)
    | (with_reducible exact LeO.refl _)
    | (with_reducible exact LeO.none _)
    | (with_reducible refine LeO.ite ?_ ?_)
    | (with_reducible refine LeO.bind ?_ (fun _ => ?_))
    | exact ih0 _ _ _
    | exact LeO.none _
    | refine LeO.ite ?_ ?_
    | refine LeO.bind ?_ (fun _ => ?_)
theorem laws_zzFits1.mono : ∀ a0 k, LeO (laws_zzFits1.f k a0) (laws_zzFits1.f (k + 1) a0) := by
 intro a0 k
 have ih0 := laws_zzFits1.mono_l k
 unfold laws_zzFits1.f
 repeat' first
  | (with_reducible exact ih0 _ _ _)
  | (with_reducible exact LeO.refl _)
  | (with_reducible exact LeO.none _)
  | (with_reducible refine LeO.ite ?_ ?_)
  | (with_reducible refine LeO.bind ?_ (fun _ => ?_))
  | exact ih0 _ _ _
  | exact LeO.none _
  | refine LeO.ite ?_ ?_
  | refine LeO.bind ?_ (fun _ => ?_)
set_option maxHeartbeats 8000000 in
set_option maxRecDepth 100000 in
theorem laws_zzFits1.calls (k : Nat) (A0 : Option Addr) (c0 : Nat) (l0 : List ByteArray) (r : Bool) (w : World) (hr0 : Kd.C Kd.string w A0 l0.length l0) (hc0 : l0.length ≤ c0) (h : laws_zzFits1.f k l0 = some r) :
 Calls Tryd.prog 8 #[.slice A0 l0.length c0] w fun e w' => e = .returned (.bool r) ∧ Drawn0 w w' := by
 have HR0 := Aside0.mk hr0
 have HC0 := Aside0.mk hc0
 clear hr0 hc0
 have H : (if (l0.length : Int) > 2147483647 then (some false) else (laws_zzFits1.l0 k l0 (l0.length : Int) 0)) = some r := h
 clear h
 by_cases c2 : (l0.length : Int) > 2147483647
 · rw [if_pos c2] at H
   have c2b0 : decide (2147483647 < (l0.length : Int)) = true := decide_eq_true c2
   have c2b1 : decide (2147483647 < l0.length) = true := decide_eq_true (by omega)
   clear c2
   obtain rfl := Option.some.inj H
   go_enter Tryd.func8, Tryd.ntmps8
   go_wp2
   go_ret
   exact ⟨by first | rfl | (simp; done) | (simp [*]; done), by repeat (first | exact Drawn0.refl _ | apply Drawn0.step)⟩
 · rw [if_neg c2] at H
   have c2b0 : decide (2147483647 < (l0.length : Int)) = false := decide_eq_false c2
   have c2b1 : decide (2147483647 < l0.length) = false := decide_eq_false (by omega)
   clear c2
   have H' := Aside0.mk H
   clear H
   go_enter Tryd.func8, Tryd.ntmps8
   go_wp2
   go_loopg [10] k (fun kq v10 w' => ∃ (x10_1 : Int), v10 = .int .i64 x10_1 ∧ Aside0 (laws_zzFits1.l0 kq l0 (l0.length : Int) x10_1 = some r) ∧ Aside0 (kq ≤ k) ∧ Drawn0 w w')
   case atStart => exact ⟨(0), (by first | rfl | (simp; done) | (simp [*]; done)), H', ⟨Nat.le_refl _⟩, by repeat (first | exact Drawn0.refl _ | apply Drawn0.step)⟩
   case round =>
    clear H'
    try clear c2
    try clear c2b0
    try clear c2b1
    try clear p2
    obtain ⟨x10_1, rfl, HA, HK1, ⟨m1, rfl⟩⟩ := hrel
    cases gk with
    | zero => exact absurd HA.out (by simp [laws_zzFits1.l0])
    | succ k1 =>
     have H := HA.out
     clear HA
     simp only [laws_zzFits1.l0] at H
     by_cases c3 : x10_1 < (l0.length : Int)
     · rw [if_pos c3] at H
       have c3b0 : decide (x10_1 < (l0.length : Int)) = true := decide_eq_true c3
       clear c3
       by_cases c4 : 0 ≤ x10_1
       · rw [if_pos c4] at H
         have c4b0 : decide (0 ≤ x10_1) = true := decide_eq_true c4
         clear c4
         by_cases c5 : x10_1 < (l0.length : Int)
         · rw [if_pos c5] at H
           have c5b0 : decide (x10_1 < (l0.length : Int)) = true := decide_eq_true c5
           clear c5
           by_cases c6 : ((rdOf ByteArray.empty l0 x10_1).size : Int) > 2147483647
           · rw [if_pos c6] at H
             have c6b0 : decide (2147483647 < ((rdOf ByteArray.empty l0 x10_1).size : Int)) = true := decide_eq_true c6
             have c6b1 : decide (2147483647 < (rdOf ByteArray.empty l0 x10_1).size) = true := decide_eq_true (by omega)
             clear c6
             obtain rfl := Option.some.inj H
             have p101 : 0 ≤ (x10_1 : Int) := of_decide_eq_true (by first | (with_reducible assumption) | assumption)
             have q101 : x10_1 < (l0.length : Int) := of_decide_eq_true (by first | (with_reducible assumption) | assumption)
             obtain ⟨ad101, e101, hx101_0⟩ := Kd.at_string HR0.out x10_1 p101 q101
             cases e101
             replace p101 := eq_true p101
             replace q101 := eq_true q101
             go_wp2
             go_ret
             exact ⟨by first | rfl | (simp; done) | (simp [*]; done), by repeat (first | exact Drawn0.refl _ | apply Drawn0.step)⟩
           · rw [if_neg c6] at H
             have c6b0 : decide (2147483647 < ((rdOf ByteArray.empty l0 x10_1).size : Int)) = false := decide_eq_false c6
             have c6b1 : decide (2147483647 < (rdOf ByteArray.empty l0 x10_1).size) = false := decide_eq_false (by omega)
             clear c6
             have H' := Aside0.mk H
             clear H
             have p101 : 0 ≤ (x10_1 : Int) := of_decide_eq_true (by first | (with_reducible assumption) | assumption)
             have q101 : x10_1 < (l0.length : Int) := of_decide_eq_true (by first | (with_reducible assumption) | assumption)
             obtain ⟨ad101, e101, hx101_0⟩ := Kd.at_string HR0.out x10_1 p101 q101
             cases e101
             replace p101 := eq_true p101
             replace q101 := eq_true q101
             go_wp2
             go_roundg k1
             case measure => have := HK1.out; omega
             case rel => exact ⟨(wrap64 (x10_1 + 1)), (by first | rfl | (simp; done) | (simp [*]; done)), H', ⟨by have := HK1.out; omega⟩, by repeat (first | exact Drawn0.refl _ | apply Drawn0.step)⟩
         · rw [if_neg c5] at H
           exact absurd H (by simp)
       · rw [if_neg c4] at H
         exact absurd H (by simp)
     · rw [if_neg c3] at H
       have c3b0 : decide (x10_1 < (l0.length : Int)) = false := decide_eq_false c3
       clear c3
       obtain rfl := Option.some.inj H
       go_wp2
       go_ret
       exact ⟨by first | rfl | (simp; done) | (simp [*]; done), by repeat (first | exact Drawn0.refl _ | apply Drawn0.step)⟩

/-! ### spec_short: function 18 -/
def spec_short.l0 : Nat → ByteArray → Int → Option (Bool)
 | 0, _, _ => none
 | k + 1, x0, x3 => if x3 < (x0.size : Int) then (if 0 ≤ x3 then (if (bt x0 x3) = 0 then (some false) else (spec_short.l0 k x0 (wrap64 (x3 + 1)))) else (none)) else (some (decide ((x0.size : Int) ≤ 60)))
def spec_short.f (k : Nat) (a0 : ByteArray) : Option (Bool) := spec_short.l0 k a0 0
theorem spec_short.mono_l : ∀ k, (∀ y0 y1, LeO (spec_short.l0 k y0 y1) (spec_short.l0 (k + 1) y0 y1))
 | 0 => fun _ _ r h => by simp [spec_short.l0] at h
 | k + 1 => by
  have ih0 := spec_short.mono_l k
  · intro y0 y1
    unfold spec_short.l0
    repeat' first
    | (with_reducible exact ih0 _ _)
    | (with_reducible exact LeO.refl _)
    | (with_reducible exact LeO.none _)
    | (with_reducible refine LeO.ite ?_ ?_)
    | (with_reducible refine LeO.bind ?_ (fun _ => ?_))
    | exact ih0 _ _
    | exact LeO.none _
    | refine LeO.ite ?_ ?_
    | refine LeO.bind ?_ (fun _ => ?_)
theorem spec_short.mono : ∀ a0 k, LeO (spec_short.f k a0) (spec_short.f (k + 1) a0) := by
 intro a0 k
 have ih0 := spec_short.mono_l k
 unfold spec_short.f
 repeat' first
  | (with_reducible exact ih0 _ _)
  | (with_reducible exact LeO.refl _)
  | (with_reducible exact LeO.none _)
  | (with_reducible refine LeO.ite ?_ ?_)
  | (with_reducible refine LeO.bind ?_ (fun _ => ?_))
  | exact ih0 _ _
  | exact LeO.none _
  | refine LeO.ite ?_ ?_
  | refine LeO.bind ?_ (fun _ => ?_)
set_option maxHeartbeats 8000000 in
set_option maxRecDepth 100000 in
theorem spec_short.calls (k : Nat) (a0 : ByteArray) (r : Bool) (w : World) (h : spec_short.f k a0 = some r) :
 Calls Tryd.prog 18 #[.string a0] w fun e w' => e = .returned (.bool r) ∧ Drawn0 w w' := by
 have H : (spec_short.l0 k a0 0) = some r := h
 clear h
 have H' := Aside0.mk H
 clear H
 go_enter Tryd.func18, Tryd.ntmps18
 go_wp2
 go_loopg [3] k (fun kq v3 w' => ∃ (x3_1 : Int), v3 = .int .i64 x3_1 ∧ Aside0 (spec_short.l0 kq a0 x3_1 = some r) ∧ Aside0 (kq ≤ k) ∧ Drawn0 w w')
 case atStart => exact ⟨(0), (by first | rfl | (simp; done) | (simp [*]; done)), H', ⟨Nat.le_refl _⟩, by repeat (first | exact Drawn0.refl _ | apply Drawn0.step)⟩
 case round =>
  clear H'
  try clear c1
  obtain ⟨x3_1, rfl, HA, HK1, ⟨m1, rfl⟩⟩ := hrel
  cases gk with
  | zero => exact absurd HA.out (by simp [spec_short.l0])
  | succ k1 =>
   have H := HA.out
   clear HA
   simp only [spec_short.l0] at H
   by_cases c2 : x3_1 < (a0.size : Int)
   · rw [if_pos c2] at H
     have c2b0 : decide (x3_1 < (a0.size : Int)) = true := decide_eq_true c2
     clear c2
     by_cases c3 : 0 ≤ x3_1
     · rw [if_pos c3] at H
       have c3b0 : decide (0 ≤ x3_1) = true := decide_eq_true c3
       clear c3
       by_cases c5 : (bt a0 x3_1) = 0
       · rw [if_pos c5] at H
         have c5b0 : ((bt a0 x3_1) == 0) = true := beq_iff_eq.mpr c5
         have c5b1 : ((bt a0 x3_1) != 0) = false := bne_eq_false_iff_eq.mpr c5
         clear c5
         obtain rfl := Option.some.inj H
         have p4 : 0 ≤ (x3_1 : Int) := of_decide_eq_true (by first | (with_reducible assumption) | assumption)
         have q4 : x3_1 < (a0.size : Int) := of_decide_eq_true (by first | (with_reducible assumption) | assumption)
         have hx4 := bt_at a0 x3_1
         replace p4 := eq_true p4
         replace q4 := eq_true q4
         go_wp2
         go_ret
         exact ⟨by first | rfl | (simp; done) | (simp [*]; done), by repeat (first | exact Drawn0.refl _ | apply Drawn0.step)⟩
       · rw [if_neg c5] at H
         have c5b0 : ((bt a0 x3_1) == 0) = false := beq_eq_false_iff_ne.mpr c5
         have c5b1 : ((bt a0 x3_1) != 0) = true := bne_iff_ne.mpr c5
         have H' := Aside0.mk H
         clear H
         have p4 : 0 ≤ (x3_1 : Int) := of_decide_eq_true (by first | (with_reducible assumption) | assumption)
         have q4 : x3_1 < (a0.size : Int) := of_decide_eq_true (by first | (with_reducible assumption) | assumption)
         have hx4 := bt_at a0 x3_1
         replace p4 := eq_true p4
         replace q4 := eq_true q4
         go_wp2
         go_roundg k1
         case measure => have := HK1.out; omega
         case rel => exact ⟨(wrap64 (x3_1 + 1)), (by first | rfl | (simp; done) | (simp [*]; done)), H', ⟨by have := HK1.out; omega⟩, by repeat (first | exact Drawn0.refl _ | apply Drawn0.step)⟩
     · rw [if_neg c3] at H
       exact absurd H (by simp)
   · rw [if_neg c2] at H
     have c2b0 : decide (x3_1 < (a0.size : Int)) = false := decide_eq_false c2
     clear c2
     obtain rfl := Option.some.inj H
     go_wp2
     go_ret
     exact ⟨by first | rfl | (simp; done) | (simp [*]; done), by repeat (first | exact Drawn0.refl _ | apply Drawn0.step)⟩

-- TOLD BY HAND: function 19 (spec_Letters)

/-! ### spec_Short: function 9 -/
mutual
def spec_Short.j0 : Nat → List ByteArray → Bool → Option (Bool)
 | 0, _, _ => none
 | k + 1, x1, x19 => if x19 = true then (some false) else (spec_Short.l0 k x1 0)
def spec_Short.l0 : Nat → List ByteArray → Int → Option (Bool)
 | 0, _, _ => none
 | k + 1, x1, x5 => if x5 < (x1.length : Int) then (if 0 ≤ x5 then ((spec_short.f k (rdOf ByteArray.empty x1 x5)).bind fun t107 => (if t107 = true then (spec_Short.l0 k x1 (wrap64 (x5 + 1))) else (some false))) else (none)) else (some true)
end
def spec_Short.f (k : Nat) (a0 : ByteArray) (l1 : List ByteArray) : Option (Bool) := (spec_short.f k a0).bind fun t102 => (if t102 = true then ((spec_Letters.f a0).bind fun t103 => (if (t103.length : Int) > 39 then (spec_Short.j0 k l1 true) else (spec_Short.j0 k l1 (decide ((l1.length : Int) > 20))))) else (spec_Short.j0 k l1 true))
theorem spec_Short.mono_l : ∀ k, (∀ y0 y1, LeO (spec_Short.j0 k y0 y1) (spec_Short.j0 (k + 1) y0 y1)) ∧ (∀ y0 y1, LeO (spec_Short.l0 k y0 y1) (spec_Short.l0 (k + 1) y0 y1))
 | 0 => ⟨fun _ _ r h => by simp [spec_Short.j0] at h, fun _ _ r h => by simp [spec_Short.l0] at h⟩
 | k + 1 => by
  obtain ⟨ih0, ih1⟩ := spec_Short.mono_l k
  refine ⟨?_, ?_⟩
  · intro y0 y1
    unfold spec_Short.j0
    repeat' first
    | (with_reducible exact ih0 _ _)
    | (with_reducible exact ih1 _ _)
    | (with_reducible exact spec_short.mono _ _)
    | (with_reducible exact LeO.refl _)
    | (with_reducible exact LeO.none _)
    | (with_reducible refine LeO.ite ?_ ?_)
    | (with_reducible refine LeO.bind ?_ (fun _ => ?_))
    | exact ih0 _ _
    | exact ih1 _ _
    | exact spec_short.mono _ _
    | exact LeO.none _
    | refine LeO.ite ?_ ?_
    | refine LeO.bind ?_ (fun _ => ?_)
  · intro y0 y1
    unfold spec_Short.l0
    repeat' first
    | (with_reducible exact ih0 _ _)
    | (with_reducible exact ih1 _ _)
    | (with_reducible exact spec_short.mono _ _)
    | (with_reducible exact LeO.refl _)
    | (with_reducible exact LeO.none _)
    | (with_reducible refine LeO.ite ?_ ?_)
    | (with_reducible refine LeO.bind ?_ (fun _ => ?_))
    | exact ih0 _ _
    | exact ih1 _ _
    | exact spec_short.mono _ _
    | exact LeO.none _
    | refine LeO.ite ?_ ?_
    | refine LeO.bind ?_ (fun _ => ?_)
theorem spec_Short.mono : ∀ a0 a1 k, LeO (spec_Short.f k a0 a1) (spec_Short.f (k + 1) a0 a1) := by
 intro a0 a1 k
 obtain ⟨ih0, ih1⟩ := spec_Short.mono_l k
 unfold spec_Short.f
 repeat' first
  | (with_reducible exact ih0 _ _)
  | (with_reducible exact ih1 _ _)
  | (with_reducible exact spec_short.mono _ _)
  | (with_reducible exact LeO.refl _)
  | (with_reducible exact LeO.none _)
  | (with_reducible refine LeO.ite ?_ ?_)
  | (with_reducible refine LeO.bind ?_ (fun _ => ?_))
  | exact ih0 _ _
  | exact ih1 _ _
  | exact spec_short.mono _ _
  | exact LeO.none _
  | refine LeO.ite ?_ ?_
  | refine LeO.bind ?_ (fun _ => ?_)
set_option maxHeartbeats 8000000 in
set_option maxRecDepth 100000 in
theorem spec_Short.calls (k : Nat) (a0 : ByteArray) (A1 : Option Addr) (c1 : Nat) (l1 : List ByteArray) (r : Bool) (w : World) (hr1 : Kd.C Kd.string w A1 l1.length l1) (hc1 : l1.length ≤ c1) (h : spec_Short.f k a0 l1 = some r) :
 Calls Tryd.prog 9 #[.string a0, .slice A1 l1.length c1] w fun e w' => e = .returned (.bool r) ∧ Below w.heap.size w w' := by
 have HR1 := Aside0.mk hr1
 have HC1 := Aside0.mk hc1
 clear hr1 hc1
 have HB := Aside0.mk (Below.refl w.heap.size w)
 have H : ((spec_short.f k a0).bind fun t102 => (if t102 = true then ((spec_Letters.f a0).bind fun t103 => (if (t103.length : Int) > 39 then (spec_Short.j0 k l1 true) else (spec_Short.j0 k l1 (decide ((l1.length : Int) > 20))))) else (spec_Short.j0 k l1 true))) = some r := h
 clear h
 have HC3 := Aside0.mk H
 clear H
 go_enter Tryd.func9, Tryd.ntmps9
 go_upto_region 1 with (fail)
 go_cut [19] (fun v19 wc => ∃ (kq : Nat) (x19_2 : Bool), v19 = .bool x19_2 ∧ Aside0 (spec_Short.j0 kq l1 x19_2 = some r) ∧ Aside0 (kq ≤ k) ∧ Aside0 (Below w.heap.size w wc))
 case first =>
  have H := HC3.out
  clear HC3
  replace H := Option.bind_eq_some_iff.mp H
  obtain ⟨t102, A40, H⟩ := H
  replace H : (if t102 = true then ((spec_Letters.f a0).bind fun t103 => (if (t103.length : Int) > 39 then (spec_Short.j0 k l1 true) else (spec_Short.j0 k l1 (decide ((l1.length : Int) > 20))))) else (spec_Short.j0 k l1 true)) = some r := H
  have A4 := Aside0.mk A40
  clear A40
  by_cases c5 : t102 = true
  · subst c5
    have H1 : ((spec_Letters.f a0).bind fun t103 => (if (t103.length : Int) > 39 then (spec_Short.j0 k l1 true) else (spec_Short.j0 k l1 (decide ((l1.length : Int) > 20))))) = some r := by rw [if_pos rfl] at H; exact H
    clear H
    have H := H1
    clear H1
    replace H := Option.bind_eq_some_iff.mp H
    obtain ⟨t103, A60, H⟩ := H
    replace H : (if (t103.length : Int) > 39 then (spec_Short.j0 k l1 true) else (spec_Short.j0 k l1 (decide ((l1.length : Int) > 20)))) = some r := H
    have A6 := Aside0.mk A60
    clear A60
    by_cases c7 : (t103.length : Int) > 39
    · rw [if_pos c7] at H
      have c7b0 : decide (39 < (t103.length : Int)) = true := decide_eq_true c7
      have c7b1 : decide (39 < t103.length) = true := decide_eq_true (by omega)
      clear c7
      (first | rw [c7b0] | (simp only [i64_w, i32_w]; rw [c7b0]) | skip)
      have H' := Aside0.mk H
      clear H
      go_wp2_with (first | ((with_reducible refine gate_callee (f := 18) rfl ?_); refine goesL_ (some 7) rfl rfl Tryd.func18 (by kernel_rfl) rfl #[.string a0] rfl (by (try simp only [List.map_toArray, List.map_cons, List.map_nil]); first | done | rfl | (simp only [List.length_drop, List.length_take]; rfl)) ?_; (with_reducible refine (spec_short.calls k a0 true _ A4.out).mono ?_); rintro e w' ⟨rfl, ⟨nd, rfl⟩⟩; refine ⟨_, rfl, ?_⟩) | (go_at_call 19; (with_reducible refine (spec_Letters.calls a0 t103 _ A6.out).mono ?_); rintro e w8 ⟨v104, rfl, ho0, hb⟩; have n0_ := Aside0.mk (Kd.R_lower ho0 (below_size (by repeat (first | (with_reducible first | exact HB.out | apply below_alloc | apply pw_below_drewN | apply below_drew1) | exact HB.out)))); have n1_ := Aside0.mk (below_step (by repeat (first | (with_reducible first | exact HB.out | apply below_alloc | apply pw_below_drewN | apply below_drew1) | exact HB.out)) hb); clear HB; have HO105 := n0_; have HB := n1_; clear n0_ n1_; (try clear hb); (try clear hb2); (try clear hk); (try clear hi); (try clear ho0); obtain ⟨Ao9, co9, eo9⟩ := Kd.R_slice HO105.out; subst eo9))
      go_meet
      case rel => exact ⟨_, (true), (by first | rfl | (simp; done) | (simp [*]; done)), H', ⟨by first | omega | exact Nat.le_refl _⟩, ⟨by repeat (first | (with_reducible first | exact HB.out | apply below_alloc | apply pw_below_drewN | apply below_drew1) | exact HB.out)⟩⟩
    · rw [if_neg c7] at H
      have c7b0 : decide (39 < (t103.length : Int)) = false := decide_eq_false c7
      have c7b1 : decide (39 < t103.length) = false := decide_eq_false (by omega)
      clear c7
      (first | rw [c7b0] | (simp only [i64_w, i32_w]; rw [c7b0]) | skip)
      have H' := Aside0.mk H
      clear H
      go_wp2_with (first | ((with_reducible refine gate_callee (f := 18) rfl ?_); refine goesL_ (some 7) rfl rfl Tryd.func18 (by kernel_rfl) rfl #[.string a0] rfl (by (try simp only [List.map_toArray, List.map_cons, List.map_nil]); first | done | rfl | (simp only [List.length_drop, List.length_take]; rfl)) ?_; (with_reducible refine (spec_short.calls k a0 true _ A4.out).mono ?_); rintro e w' ⟨rfl, ⟨nd, rfl⟩⟩; refine ⟨_, rfl, ?_⟩) | (go_at_call 19; (with_reducible refine (spec_Letters.calls a0 t103 _ A6.out).mono ?_); rintro e w10 ⟨v104, rfl, ho0, hb⟩; have n0_ := Aside0.mk (Kd.R_lower ho0 (below_size (by repeat (first | (with_reducible first | exact HB.out | apply below_alloc | apply pw_below_drewN | apply below_drew1) | exact HB.out)))); have n1_ := Aside0.mk (below_step (by repeat (first | (with_reducible first | exact HB.out | apply below_alloc | apply pw_below_drewN | apply below_drew1) | exact HB.out)) hb); clear HB; have HO105 := n0_; have HB := n1_; clear n0_ n1_; (try clear hb); (try clear hb2); (try clear hk); (try clear hi); (try clear ho0); obtain ⟨Ao11, co11, eo11⟩ := Kd.R_slice HO105.out; subst eo11))
      go_meet
      case rel => exact ⟨_, (decide ((l1.length : Int) > 20)), (by first | rfl | (simp; done) | (simp [*]; done)), H', ⟨by first | omega | exact Nat.le_refl _⟩, ⟨by repeat (first | (with_reducible first | exact HB.out | apply below_alloc | apply pw_below_drewN | apply below_drew1) | exact HB.out)⟩⟩
  · replace c5 := Bool.eq_false_iff.mpr c5
    subst c5
    have H1 : (spec_Short.j0 k l1 true) = some r := by rw [if_neg (show ¬ (false = true) by decide)] at H; exact H
    clear H
    have H := H1
    clear H1
    have H' := Aside0.mk H
    clear H
    go_wp2_with (first | ((with_reducible refine gate_callee (f := 18) rfl ?_); refine goesL_ (some 7) rfl rfl Tryd.func18 (by kernel_rfl) rfl #[.string a0] rfl (by (try simp only [List.map_toArray, List.map_cons, List.map_nil]); first | done | rfl | (simp only [List.length_drop, List.length_take]; rfl)) ?_; (with_reducible refine (spec_short.calls k a0 false _ A4.out).mono ?_); rintro e w' ⟨rfl, ⟨nd, rfl⟩⟩; refine ⟨_, rfl, ?_⟩))
    go_meet
    case rel => exact ⟨_, (true), (by first | rfl | (simp; done) | (simp [*]; done)), H', ⟨by first | omega | exact Nat.le_refl _⟩, ⟨by repeat (first | (with_reducible first | exact HB.out | apply below_alloc | apply pw_below_drewN | apply below_drew1) | exact HB.out)⟩⟩
 case rest =>
  clear HC3
  try clear c1
  try clear p2
  try clear c5
  try clear c7
  try clear c7b0
  try clear c7b1
  try clear c9
  obtain ⟨kq, x19_2, rfl, HA, HJ2, HB⟩ := hcut
  cases kq with
  | zero => exact absurd HA.out (by simp [spec_Short.j0])
  | succ kj2 =>
   have H := HA.out
   clear HA
   simp only [spec_Short.j0] at H
   by_cases c12 : x19_2 = true
   · subst c12
     have H1 : (some false) = some r := by rw [if_pos rfl] at H; exact H
     clear H
     have H := H1
     clear H1
     obtain rfl := Option.some.inj H
     go_wp2
     go_ret
     exact ⟨by first | rfl | (simp [errW_none, errW_some] <;> rfl) | (simp [*, errW_none, errW_some] <;> rfl), by repeat (first | (with_reducible first | exact HB.out | apply below_alloc | apply pw_below_drewN | apply below_drew1) | exact HB.out)⟩
   · replace c12 := Bool.eq_false_iff.mpr c12
     subst c12
     have H1 : (spec_Short.l0 kj2 l1 0) = some r := by rw [if_neg (show ¬ (false = true) by decide)] at H; exact H
     clear H
     have H := H1
     clear H1
     have H' := Aside0.mk H
     clear H
     go_wp2
     go_loopg [5] kj2 (fun kq v5 w' => ∃ (x5_2 : Int), v5 = .int .i64 x5_2 ∧ Aside0 (spec_Short.l0 kq l1 x5_2 = some r) ∧ Aside0 (kq ≤ kj2) ∧ Aside0 (Below w.heap.size w w'))
     case atStart => exact ⟨(0), (by first | rfl | (simp; done) | (simp [*]; done)), H', ⟨Nat.le_refl _⟩, ⟨by repeat (first | (with_reducible first | exact HB.out | apply below_alloc | apply pw_below_drewN | apply below_drew1) | exact HB.out)⟩⟩
     case round =>
      clear H'
      try clear c1
      try clear p2
      try clear c5
      try clear c7
      try clear c7b0
      try clear c7b1
      try clear c9
      try clear c12
      try clear p2
      obtain ⟨x5_2, rfl, HA, HK2, HB⟩ := hrel
      cases gk with
      | zero => exact absurd HA.out (by simp [spec_Short.l0])
      | succ k2 =>
       have H := HA.out
       clear HA
       simp only [spec_Short.l0] at H
       by_cases c13 : x5_2 < (l1.length : Int)
       · rw [if_pos c13] at H
         have c13b0 : decide (x5_2 < (l1.length : Int)) = true := decide_eq_true c13
         clear c13
         by_cases c14 : 0 ≤ x5_2
         · rw [if_pos c14] at H
           have c14b0 : decide (0 ≤ x5_2) = true := decide_eq_true c14
           clear c14
           replace H := Option.bind_eq_some_iff.mp H
           obtain ⟨t107, A150, H⟩ := H
           replace H : (if t107 = true then (spec_Short.l0 k2 l1 (wrap64 (x5_2 + 1))) else (some false)) = some r := H
           have A15 := Aside0.mk A150
           clear A150
           by_cases c16 : t107 = true
           · subst c16
             have H1 : (spec_Short.l0 k2 l1 (wrap64 (x5_2 + 1))) = some r := by rw [if_pos rfl] at H; exact H
             clear H
             have H := H1
             clear H1
             have H' := Aside0.mk H
             clear H
             have p106 : 0 ≤ (x5_2 : Int) := of_decide_eq_true (by first | (with_reducible assumption) | assumption)
             have q106 : x5_2 < (l1.length : Int) := of_decide_eq_true (by first | (with_reducible assumption) | assumption)
             obtain ⟨ad106, e106, hx106_0⟩ := Kd.at_string HR1.out x5_2 p106 q106
             cases e106
             replace hx106_0 := (HB.out.cell (World.block_lt_of_cell? w _ hx106_0)).trans hx106_0
             replace p106 := eq_true p106
             replace q106 := eq_true q106
             go_wp2_with (first | ((with_reducible refine gate_callee (f := 18) rfl ?_); refine goesL_ (some 30) rfl rfl Tryd.func18 (by kernel_rfl) rfl #[.string (rdOf ByteArray.empty l1 x5_2)] rfl (by (try simp only [List.map_toArray, List.map_cons, List.map_nil]); first | done | rfl | (simp only [List.length_drop, List.length_take]; rfl)) ?_; (with_reducible refine (spec_short.calls k2 (rdOf ByteArray.empty l1 x5_2) true _ A15.out).mono ?_); rintro e w' ⟨rfl, ⟨nd, rfl⟩⟩; refine ⟨_, rfl, ?_⟩))
             go_roundg k2
             case measure => have := HJ2.out; have := HK2.out; omega
             case rel => exact ⟨(wrap64 (x5_2 + 1)), (by first | rfl | (simp; done) | (simp [*]; done)), H', ⟨by have := HJ2.out; have := HK2.out; omega⟩, ⟨by repeat (first | (with_reducible first | exact HB.out | apply below_alloc | apply pw_below_drewN | apply below_drew1) | exact HB.out)⟩⟩
           · replace c16 := Bool.eq_false_iff.mpr c16
             subst c16
             have H1 : (some false) = some r := by rw [if_neg (show ¬ (false = true) by decide)] at H; exact H
             clear H
             have H := H1
             clear H1
             obtain rfl := Option.some.inj H
             have p106 : 0 ≤ (x5_2 : Int) := of_decide_eq_true (by first | (with_reducible assumption) | assumption)
             have q106 : x5_2 < (l1.length : Int) := of_decide_eq_true (by first | (with_reducible assumption) | assumption)
             obtain ⟨ad106, e106, hx106_0⟩ := Kd.at_string HR1.out x5_2 p106 q106
             cases e106
             replace hx106_0 := (HB.out.cell (World.block_lt_of_cell? w _ hx106_0)).trans hx106_0
             replace p106 := eq_true p106
             replace q106 := eq_true q106
             go_wp2_with (first | ((with_reducible refine gate_callee (f := 18) rfl ?_); refine goesL_ (some 30) rfl rfl Tryd.func18 (by kernel_rfl) rfl #[.string (rdOf ByteArray.empty l1 x5_2)] rfl (by (try simp only [List.map_toArray, List.map_cons, List.map_nil]); first | done | rfl | (simp only [List.length_drop, List.length_take]; rfl)) ?_; (with_reducible refine (spec_short.calls k2 (rdOf ByteArray.empty l1 x5_2) false _ A15.out).mono ?_); rintro e w' ⟨rfl, ⟨nd, rfl⟩⟩; refine ⟨_, rfl, ?_⟩))
             go_ret
             exact ⟨by first | rfl | (simp [errW_none, errW_some] <;> rfl) | (simp [*, errW_none, errW_some] <;> rfl), by repeat (first | (with_reducible first | exact HB.out | apply below_alloc | apply pw_below_drewN | apply below_drew1) | exact HB.out)⟩
         · rw [if_neg c14] at H
           exact absurd H (by simp)
       · rw [if_neg c13] at H
         have c13b0 : decide (x5_2 < (l1.length : Int)) = false := decide_eq_false c13
         clear c13
         obtain rfl := Option.some.inj H
         go_wp2
         go_ret
         exact ⟨by first | rfl | (simp [errW_none, errW_some] <;> rfl) | (simp [*, errW_none, errW_some] <;> rfl), by repeat (first | (with_reducible first | exact HB.out | apply below_alloc | apply pw_below_drewN | apply below_drew1) | exact HB.out)⟩

end Go.Proofs.YtgeimklpcfepaaaDoor.P
namespace Go.Proofs.YtgeimklpcfepaaaDoor.P
open Go.RowKit Go.Proofs.YtgeimklpcfepaaaDoorW.PrintWords Go.Proofs.YtgeimklpcfepaaaDoorW.PrintLast Go.Proofs.YtgeimklpcfepaaaDoorW.PrintMore
attribute [local go_sem] max2_int min2_int max_two min_two max_three min_three max_four min_four   -- for this text's walks alone
set_option linter.unusedVariables false
set_option linter.unusedSimpArgs false

/-! ### impl_areShort: function 20 -/
def impl_areShort.l0 : Nat → ByteArray → List ByteArray → List ByteArray → Int → Int → Option (Bool)
 | 0, _, _, _, _, _ => none
 | k + 1, x0, x1, x7, x8, x9 => if x9 < x8 then (if 0 ≤ x9 then (if x9 < (x7.length : Int) then (if ((rdOf ByteArray.empty x7 x9).size : Int) > 60 then (some false) else (impl_areShort.l0 k x0 x1 x7 x8 (wrap64 (x9 + 1)))) else (none)) else (none)) else (if (x0.size : Int) ≤ 60 then (some (decide ((x1.length : Int) ≤ 20))) else (some false))
def impl_areShort.f (k : Nat) (a0 : ByteArray) (l1 : List ByteArray) : Option (Bool) := impl_areShort.l0 k a0 l1 l1 (l1.length : Int) 0
theorem impl_areShort.mono_l : ∀ k, (∀ y0 y1 y2 y3 y4, LeO (impl_areShort.l0 k y0 y1 y2 y3 y4) (impl_areShort.l0 (k + 1) y0 y1 y2 y3 y4))
 | 0 => fun _ _ _ _ _ r h => by simp [impl_areShort.l0] at h
 | k + 1 => by
  have ih0 := impl_areShort.mono_l k
  · intro y0 y1 y2 y3 y4
    unfold impl_areShort.l0
    repeat' first
    | (with_reducible exact ih0 _ _ _ _ _)
    | (with_reducible exact LeO.refl _)
    | (with_reducible exact LeO.none _)
    | (with_reducible refine LeO.ite ?_ ?_)
    | (with_reducible refine LeO.bind ?_ (fun _ => ?_))
    | exact ih0 _ _ _ _ _
    | exact LeO.none _
    | refine LeO.ite ?_ ?_
    | refine LeO.bind ?_ (fun _ => ?_)
theorem impl_areShort.mono : ∀ a0 a1 k, LeO (impl_areShort.f k a0 a1) (impl_areShort.f (k + 1) a0 a1) := by
 intro a0 a1 k
 have ih0 := impl_areShort.mono_l k
 unfold impl_areShort.f
 repeat' first
  | (with_reducible exact ih0 _ _ _ _ _)
  | (with_reducible exact LeO.refl _)
  | (with_reducible exact LeO.none _)
  | (with_reducible refine LeO.ite ?_ ?_)
  | (with_reducible refine LeO.bind ?_ (fun _ => ?_))
  | exact ih0 _ _ _ _ _
  | exact LeO.none _
  | refine LeO.ite ?_ ?_
  | refine LeO.bind ?_ (fun _ => ?_)
set_option maxHeartbeats 8000000 in
set_option maxRecDepth 100000 in
theorem impl_areShort.calls (k : Nat) (a0 : ByteArray) (A1 : Option Addr) (c1 : Nat) (l1 : List ByteArray) (r : Bool) (w : World) (hr1 : Kd.C Kd.string w A1 l1.length l1) (hc1 : l1.length ≤ c1) (h : impl_areShort.f k a0 l1 = some r) :
 Calls Tryd.prog 20 #[.string a0, .slice A1 l1.length c1] w fun e w' => e = .returned (.bool r) ∧ Drawn0 w w' := by
 have HR1 := Aside0.mk hr1
 have HC1 := Aside0.mk hc1
 clear hr1 hc1
 have H : (impl_areShort.l0 k a0 l1 l1 (l1.length : Int) 0) = some r := h
 clear h
 have H' := Aside0.mk H
 clear H
 go_enter Tryd.func20, Tryd.ntmps20
 go_wp2
 go_loopg [9] k (fun kq v9 w' => ∃ (x9_1 : Int), v9 = .int .i64 x9_1 ∧ Aside0 (impl_areShort.l0 kq a0 l1 l1 (l1.length : Int) x9_1 = some r) ∧ Aside0 (kq ≤ k) ∧ Drawn0 w w')
 case atStart => exact ⟨(0), (by first | rfl | (simp; done) | (simp [*]; done)), H', ⟨Nat.le_refl _⟩, by repeat (first | exact Drawn0.refl _ | apply Drawn0.step)⟩
 case round =>
  clear H'
  try clear c1
  try clear c2
  try clear p2
  obtain ⟨x9_1, rfl, HA, HK1, ⟨m1, rfl⟩⟩ := hrel
  cases gk with
  | zero => exact absurd HA.out (by simp [impl_areShort.l0])
  | succ k1 =>
   have H := HA.out
   clear HA
   simp only [impl_areShort.l0] at H
   by_cases c3 : x9_1 < (l1.length : Int)
   · rw [if_pos c3] at H
     have c3b0 : decide (x9_1 < (l1.length : Int)) = true := decide_eq_true c3
     clear c3
     by_cases c4 : 0 ≤ x9_1
     · rw [if_pos c4] at H
       have c4b0 : decide (0 ≤ x9_1) = true := decide_eq_true c4
       clear c4
       by_cases c5 : x9_1 < (l1.length : Int)
       · rw [if_pos c5] at H
         have c5b0 : decide (x9_1 < (l1.length : Int)) = true := decide_eq_true c5
         clear c5
         by_cases c6 : ((rdOf ByteArray.empty l1 x9_1).size : Int) > 60
         · rw [if_pos c6] at H
           have c6b0 : decide (60 < ((rdOf ByteArray.empty l1 x9_1).size : Int)) = true := decide_eq_true c6
           have c6b1 : decide (60 < (rdOf ByteArray.empty l1 x9_1).size) = true := decide_eq_true (by omega)
           clear c6
           obtain rfl := Option.some.inj H
           have p121 : 0 ≤ (x9_1 : Int) := of_decide_eq_true (by first | (with_reducible assumption) | assumption)
           have q121 : x9_1 < (l1.length : Int) := of_decide_eq_true (by first | (with_reducible assumption) | assumption)
           obtain ⟨ad121, e121, hx121_0⟩ := Kd.at_string HR1.out x9_1 p121 q121
           cases e121
           replace p121 := eq_true p121
           replace q121 := eq_true q121
           go_wp2
           go_ret
           exact ⟨by first | rfl | (simp; done) | (simp [*]; done), by repeat (first | exact Drawn0.refl _ | apply Drawn0.step)⟩
         · rw [if_neg c6] at H
           have c6b0 : decide (60 < ((rdOf ByteArray.empty l1 x9_1).size : Int)) = false := decide_eq_false c6
           have c6b1 : decide (60 < (rdOf ByteArray.empty l1 x9_1).size) = false := decide_eq_false (by omega)
           clear c6
           have H' := Aside0.mk H
           clear H
           have p121 : 0 ≤ (x9_1 : Int) := of_decide_eq_true (by first | (with_reducible assumption) | assumption)
           have q121 : x9_1 < (l1.length : Int) := of_decide_eq_true (by first | (with_reducible assumption) | assumption)
           obtain ⟨ad121, e121, hx121_0⟩ := Kd.at_string HR1.out x9_1 p121 q121
           cases e121
           replace p121 := eq_true p121
           replace q121 := eq_true q121
           go_wp2
           go_roundg k1
           case measure => have := HK1.out; omega
           case rel => exact ⟨(wrap64 (x9_1 + 1)), (by first | rfl | (simp; done) | (simp [*]; done)), H', ⟨by have := HK1.out; omega⟩, by repeat (first | exact Drawn0.refl _ | apply Drawn0.step)⟩
       · rw [if_neg c5] at H
         exact absurd H (by simp)
     · rw [if_neg c4] at H
       exact absurd H (by simp)
   · rw [if_neg c3] at H
     have c3b0 : decide (x9_1 < (l1.length : Int)) = false := decide_eq_false c3
     clear c3
     by_cases c7 : (a0.size : Int) ≤ 60
     · rw [if_pos c7] at H
       have c7b0 : decide ((a0.size : Int) ≤ 60) = true := decide_eq_true c7
       have c7b1 : decide (a0.size ≤ 60) = true := decide_eq_true (by omega)
       clear c7
       obtain rfl := Option.some.inj H
       go_wp2
       go_ret
       exact ⟨by first | rfl | (simp; done) | (simp [*]; done), by repeat (first | exact Drawn0.refl _ | apply Drawn0.step)⟩
     · rw [if_neg c7] at H
       have c7b0 : decide ((a0.size : Int) ≤ 60) = false := decide_eq_false c7
       have c7b1 : decide (a0.size ≤ 60) = false := decide_eq_false (by omega)
       clear c7
       obtain rfl := Option.some.inj H
       go_wp2
       go_ret
       exact ⟨by first | rfl | (simp; done) | (simp [*]; done), by repeat (first | exact Drawn0.refl _ | apply Drawn0.step)⟩

/-! ### impl_told: function 21 -/
def impl_told.l0 : Nat → List (S33) → List (S49) → Int → Int → Option ((List (S33)))
 | 0, _, _, _, _ => none
 | k + 1, x3, x6, x7, x8 => if x8 < x7 then (if 0 ≤ x8 then (if x8 < (x6.length : Int) then (if ([] : List Int).length + ((rd_T49 x6 x8).f2).length < 17592186044416 then (if x3.length < 2513169434916 then (impl_told.l0 k (x3 ++ [(⟨(rd_T49 x6 x8).f0, (rd_T49 x6 x8).f1, (([] : List Int) ++ ((rd_T49 x6 x8).f2)), (rd_T49 x6 x8).f3⟩ : S33)]) x6 x7 (wrap64 (x8 + 1))) else (none)) else (none)) else (none)) else (none)) else (some x3)
def impl_told.f (k : Nat) (l0 : List (S49)) : Option ((List (S33))) := impl_told.l0 k ([] : List (S33)) l0 (l0.length : Int) 0
theorem impl_told.mono_l : ∀ k, (∀ y0 y1 y2 y3, LeO (impl_told.l0 k y0 y1 y2 y3) (impl_told.l0 (k + 1) y0 y1 y2 y3))
 | 0 => fun _ _ _ _ r h => by simp [impl_told.l0] at h
 | k + 1 => by
  have ih0 := impl_told.mono_l k
  · intro y0 y1 y2 y3
    unfold impl_told.l0
    repeat' first
    | (with_reducible exact ih0 _ _ _ _)
    | (with_reducible exact LeO.refl _)
    | (with_reducible exact LeO.none _)
    | (with_reducible refine LeO.ite ?_ ?_)
    | (with_reducible refine LeO.bind ?_ (fun _ => ?_))
    | exact ih0 _ _ _ _
    | exact LeO.none _
    | refine LeO.ite ?_ ?_
    | refine LeO.bind ?_ (fun _ => ?_)
theorem impl_told.mono : ∀ a0 k, LeO (impl_told.f k a0) (impl_told.f (k + 1) a0) := by
 intro a0 k
 have ih0 := impl_told.mono_l k
 unfold impl_told.f
 repeat' first
  | (with_reducible exact ih0 _ _ _ _)
  | (with_reducible exact LeO.refl _)
  | (with_reducible exact LeO.none _)
  | (with_reducible refine LeO.ite ?_ ?_)
  | (with_reducible refine LeO.bind ?_ (fun _ => ?_))
  | exact ih0 _ _ _ _
  | exact LeO.none _
  | refine LeO.ite ?_ ?_
  | refine LeO.bind ?_ (fun _ => ?_)
def impl_told.T5 : Bool × List (List Nat × List Nat) := (true, [([], []), ([], []), ([1], [1]), ([], []), ([3], [3]), ([], []), ([5], [5]), ([6], [6]), ([], []), ([8], [8]), ([2, 4, 7, 9], [2, 4, 7, 9]), ([10], [10]), ([0, 11, 7], [0, 11]), ([12, 12, 0, 1, 2, 3, 4, 5, 6, 7, 8, 9, 10, 11, 12], [0, 12])])
def impl_told.B5 : List Nat := [0, 0, 2, 0, 8, 0, 32, 96, 0, 256, 1022, 2046, 4095, 8191]
theorem impl_told.tab5 : rtab .any (opsOf Tryd.f21 5) = impl_told.T5 := by kernel_rfl
theorem impl_told.bits5 : waitsOk impl_told.T5.2 impl_told.B5 = true := by kernel_rfl
set_option maxHeartbeats 8000000 in
set_option maxRecDepth 100000 in
theorem impl_told.calls (k : Nat) (A0 : Option Addr) (c0 : Nat) (l0 : List (S49)) (r : List (S33)) (w : World) (hr0 : Kd.C k49 w A0 l0.length l0) (hc0 : l0.length ≤ c0) (h : impl_told.f k l0 = some r) :
 Calls Tryd.prog 21 #[.slice A0 l0.length c0] w fun e w' => ∃ v0_ : Value, e = .returned (v0_) ∧ Kd.S k33 33 w' w.heap.size (fun _ => True) v0_ r ∧ Below w.heap.size w w' := by
 have hu49 := Tryd.underlying49
 have hu33 := Tryd.underlying33
 have HR0 := Aside0.mk hr0
 have HC0 := Aside0.mk hc0
 clear hr0 hc0
 have HB := Aside0.mk (Below.refl w.heap.size w)
 have H : (impl_told.l0 k ([] : List (S33)) l0 (l0.length : Int) 0) = some r := h
 clear h
 have H' := Aside0.mk H
 clear H
 go_enter Tryd.func21, Tryd.ntmps21
 go_wp2
 go_loopg [3, 8] k (fun kq v3 v8 w' => ∃ (x3_1 : List (S33)) (x8_1 : Int), v8 = .int .i64 x8_1 ∧ Aside0 (impl_told.l0 kq x3_1 l0 (l0.length : Int) x8_1 = some r) ∧ Aside0 (kq ≤ k) ∧ Aside0 (Kd.S k33 33 w' w.heap.size (fun _ => True) v3 x3_1) ∧ Aside0 (Below w.heap.size w w'))
 case atStart => exact ⟨(([] : List (S33))), (0), (by first | rfl | (simp; done) | (simp [*]; done)), H', ⟨Nat.le_refl _⟩, ⟨by first | exact Kd.S_nil _ _ _ _ _ | exact Kd.N_nil _ _ _ _ _ | exact Kd.V_nil _ _ _ _ _ | exact Kd.Q_nil _ _ _ _ _ | exact Kd.R_nil _ _ _ _ _⟩, ⟨by repeat (first | (with_reducible first | exact HB.out | apply below_alloc | apply pw_below_drewN | apply below_drew1) | exact HB.out)⟩⟩
 case round =>
  clear H'
  obtain ⟨x3_1, x8_1, rfl, HA, HK1, HO_3, HB⟩ := hrel
  cases gk with
  | zero => exact absurd HA.out (by simp [impl_told.l0])
  | succ k1 =>
   have H := HA.out
   clear HA
   simp only [impl_told.l0] at H
   by_cases c2 : x8_1 < (l0.length : Int)
   · rw [if_pos c2] at H
     have c2b0 : decide (x8_1 < (l0.length : Int)) = true := decide_eq_true c2
     clear c2
     by_cases c3 : 0 ≤ x8_1
     · rw [if_pos c3] at H
       have c3b0 : decide (0 ≤ x8_1) = true := decide_eq_true c3
       clear c3
       by_cases c4 : x8_1 < (l0.length : Int)
       · rw [if_pos c4] at H
         have c4b0 : decide (x8_1 < (l0.length : Int)) = true := decide_eq_true c4
         clear c4
         by_cases c5 : ([] : List Int).length + ((rd_T49 l0 x8_1).f2).length < 17592186044416
         · rw [if_pos c5] at H
           have LMc5 := Aside0.mk c5
           clear c5
           obtain ⟨y124, hy124⟩ : ∃ y_ : List Int, y_ = (([] : List Int) ++ ((rd_T49 l0 x8_1).f2)) := ⟨_, rfl⟩
           replace H : (if x3_1.length < 2513169434916 then (impl_told.l0 k1 (x3_1 ++ [(⟨(rd_T49 l0 x8_1).f0, (rd_T49 l0 x8_1).f1, y124, (rd_T49 l0 x8_1).f3⟩ : S33)]) l0 (l0.length : Int) (wrap64 (x8_1 + 1))) else (none)) = some r := by first | (rw [hy124]; with_reducible exact H) | (have H2_ := (Option.bind_some _ _).symm.trans H; rw [hy124]; with_reducible exact H2_) | (have H2_ := (Option.bind_some _ _).symm.trans H; with_reducible exact H2_) | with_reducible exact H | (rw [hy124]; exact H) | exact H
           have Ny124 := Aside0.mk hy124
           clear hy124
           by_cases c6 : x3_1.length < 2513169434916
           · rw [if_pos c6] at H
             have LMc6 := Aside0.mk c6
             clear c6
             obtain ⟨y127, hy127⟩ : ∃ y_ : List (S33), y_ = (x3_1 ++ [(⟨(rd_T49 l0 x8_1).f0, (rd_T49 l0 x8_1).f1, y124, (rd_T49 l0 x8_1).f3⟩ : S33)]) := ⟨_, rfl⟩
             replace H : (impl_told.l0 k1 y127 l0 (l0.length : Int) (wrap64 (x8_1 + 1))) = some r := by first | (rw [hy127]; with_reducible exact H) | (have H2_ := (Option.bind_some _ _).symm.trans H; rw [hy127]; with_reducible exact H2_) | (have H2_ := (Option.bind_some _ _).symm.trans H; with_reducible exact H2_) | with_reducible exact H | (rw [hy127]; exact H) | exact H
             have Ny127 := Aside0.mk hy127
             clear hy127
             have H' := Aside0.mk H
             clear H
             have p122 : 0 ≤ (x8_1 : Int) := of_decide_eq_true (by first | (with_reducible assumption) | assumption)
             have q122 : x8_1 < (l0.length : Int) := of_decide_eq_true (by first | (with_reducible assumption) | assumption)
             obtain ⟨ad122, A122_2, c122_2, e122, hx122_0, hx122_1, hx122_2, hx122_3, hl122_2, hi122_2⟩ := at_T49 HR0.out x8_1 p122 q122
             cases e122
             replace hx122_0 := (HB.out.cell (World.block_lt_of_cell? w _ hx122_0)).trans hx122_0
             replace hx122_1 := (HB.out.cell (World.block_lt_of_cell? w _ hx122_1)).trans hx122_1
             replace hx122_2 := (HB.out.cell (World.block_lt_of_cell? w _ hx122_2)).trans hx122_2
             replace hx122_3 := (HB.out.cell (World.block_lt_of_cell? w _ hx122_3)).trans hx122_3
             have HR122_2 := Aside0.mk hi122_2
             have HC122_2 := Aside0.mk hl122_2
             clear hi122_2 hl122_2
             replace p122 := eq_true p122
             replace q122 := eq_true q122
             try go_wp2_with (first | ((with_reducible refine gate_dst (N := 5) rfl ?_); refine box_event ?hg (N := 5) ?hd (cs := #[.string (⟨#[]⟩ : ByteArray), .int .i64 0, .slice none 0 0, .int .i64 0]) (t := 49) ?hr ?_; (case hd => rfl); (case hg => rfl); (case hr => first | (go_simp; done) | (go_simp; rfl)); intro gb123 hg w7 hbox hb; have n0_ := Aside0.mk (Kd.S_below (by (with_reducible repeat (first | apply Kd.S_alloc | apply Kd.S_drewN | apply Kd.S_drew)); exact HO_3.out) hb); have n1_ := Aside0.mk (below_step (by repeat (first | (with_reducible first | exact HB.out | apply below_alloc | apply pw_below_drewN | apply below_drew1) | exact HB.out)) hb); have n2_ := Aside0.mk (hbox); have n3_ := Aside0.mk ((by rw [hg]; exact (below_size (by repeat (first | (with_reducible first | exact HB.out | apply below_alloc | apply pw_below_drewN | apply below_drew1) | exact HB.out))) : w.heap.size ≤ gb123)); have n4_ := Aside0.mk ((by rw [hg]; exact (below_size (by repeat (first | (with_reducible first | exact HB.out | apply below_alloc | apply pw_below_drewN | apply below_drew1) | exact HB.out))) : w.heap.size ≤ gb123)); clear HO_3; clear HB; have HO_3 := n0_; have HB := n1_; have BK123 := n2_; have GW123 := n3_; have GE123 := n4_; clear n0_ n1_ n2_ n3_ n4_; clear hb hbox hg; have hcz8_0 : w7.cell? ⟨gb123, 0, none⟩ = some (.string (⟨#[]⟩ : ByteArray)) := (blk_cell BK123.out 0).trans rfl; have hcz8_1 : w7.cell? ⟨gb123, 1, none⟩ = some (.int .i64 0) := (blk_cell BK123.out 1).trans rfl; have hcz8_2 : w7.cell? ⟨gb123, 2, none⟩ = some (.slice none 0 0) := (blk_cell BK123.out 2).trans rfl; have hcz8_3 : w7.cell? ⟨gb123, 3, none⟩ = some (.int .i64 0) := (blk_cell BK123.out 3).trans rfl; have hfz8_0 := blk_frozen BK123.out 0; have hfz8_1 := blk_frozen BK123.out 1; have hfz8_2 := blk_frozen BK123.out 2; have hfz8_3 := blk_frozen BK123.out 3))
             have n0_ : Aside0 (Kd.S k33 33 ((((w7.setCell ⟨gb123, 0, none⟩ (.string ((rd_T49 l0 x8_1).f0))).setCell ⟨gb123, 1, none⟩ (.int .i64 ((rd_T49 l0 x8_1).f1))).setCell ⟨gb123, 2, none⟩ (.slice A122_2 ((rd_T49 l0 x8_1).f2).length c122_2)).setCell ⟨gb123, 3, none⟩ (.int .i64 ((rd_T49 l0 x8_1).f3))) w.heap.size (fun _ => True) u3 x3_1) := ⟨by (with_reducible repeat (first | apply Kd.S_alloc | apply Kd.S_drewN | apply Kd.S_drew)); exact Kd.S_mono (Kd.S_far (p := ⟨gb123, 3, none⟩) (Kd.S_far (p := ⟨gb123, 2, none⟩) (Kd.S_far (p := ⟨gb123, 1, none⟩) (Kd.S_far (p := ⟨gb123, 0, none⟩) (Kd.S_types HO_3.out BK123.out (by decide)) (fun _ hk => hk.2) (.string ((rd_T49 l0 x8_1).f0))) (fun _ hk => hk.2) (.int .i64 ((rd_T49 l0 x8_1).f1))) (fun _ hk => hk.2) (.slice A122_2 ((rd_T49 l0 x8_1).f2).length c122_2)) (fun _ hk => hk.2) (.int .i64 ((rd_T49 l0 x8_1).f3))) (fun _ hk => trivial)⟩
             have n1_ : Aside0 (((((w7.setCell ⟨gb123, 0, none⟩ (.string ((rd_T49 l0 x8_1).f0))).setCell ⟨gb123, 1, none⟩ (.int .i64 ((rd_T49 l0 x8_1).f1))).setCell ⟨gb123, 2, none⟩ (.slice A122_2 ((rd_T49 l0 x8_1).f2).length c122_2)).setCell ⟨gb123, 3, none⟩ (.int .i64 ((rd_T49 l0 x8_1).f3))).heap[gb123]? = some (.cells #[.string ((rd_T49 l0 x8_1).f0), .int .i64 ((rd_T49 l0 x8_1).f1), .slice A122_2 ((rd_T49 l0 x8_1).f2).length c122_2, .int .i64 ((rd_T49 l0 x8_1).f3)] 49 (0, 0))) := ⟨by (with_reducible repeat (first | refine blk_drewN ?_ _ | refine blk_drew ?_ | refine blk_alloc ?_ _)); refine blk_put (cs := #[.string ((rd_T49 l0 x8_1).f0), .int .i64 ((rd_T49 l0 x8_1).f1), .slice A122_2 ((rd_T49 l0 x8_1).f2).length c122_2, .int .i64 0]) ?_ 3 _ rfl; (with_reducible repeat (first | refine blk_drewN ?_ _ | refine blk_drew ?_ | refine blk_alloc ?_ _)); refine blk_put (cs := #[.string ((rd_T49 l0 x8_1).f0), .int .i64 ((rd_T49 l0 x8_1).f1), .slice none 0 0, .int .i64 0]) ?_ 2 _ rfl; (with_reducible repeat (first | refine blk_drewN ?_ _ | refine blk_drew ?_ | refine blk_alloc ?_ _)); refine blk_put (cs := #[.string ((rd_T49 l0 x8_1).f0), .int .i64 0, .slice none 0 0, .int .i64 0]) ?_ 1 _ rfl; (with_reducible repeat (first | refine blk_drewN ?_ _ | refine blk_drew ?_ | refine blk_alloc ?_ _)); refine blk_put (cs := #[.string (⟨#[]⟩ : ByteArray), .int .i64 0, .slice none 0 0, .int .i64 0]) ?_ 0 _ rfl; (with_reducible repeat (first | refine blk_drewN ?_ _ | refine blk_drew ?_ | refine blk_alloc ?_ _)); exact BK123.out⟩
             have n2_ : Aside0 (Below w.heap.size w ((((w7.setCell ⟨gb123, 0, none⟩ (.string ((rd_T49 l0 x8_1).f0))).setCell ⟨gb123, 1, none⟩ (.int .i64 ((rd_T49 l0 x8_1).f1))).setCell ⟨gb123, 2, none⟩ (.slice A122_2 ((rd_T49 l0 x8_1).f2).length c122_2)).setCell ⟨gb123, 3, none⟩ (.int .i64 ((rd_T49 l0 x8_1).f3)))) := ⟨by repeat (first | (with_reducible first | exact HB.out | apply below_alloc | apply pw_below_drewN | apply below_drew1 | refine below_set ?_ GE123.out) | exact HB.out)⟩
             (try clear HO_3)
             (try clear BK123)
             (try clear HB)
             generalize ((((w7.setCell ⟨gb123, 0, none⟩ (.string ((rd_T49 l0 x8_1).f0))).setCell ⟨gb123, 1, none⟩ (.int .i64 ((rd_T49 l0 x8_1).f1))).setCell ⟨gb123, 2, none⟩ (.slice A122_2 ((rd_T49 l0 x8_1).f2).length c122_2)).setCell ⟨gb123, 3, none⟩ (.int .i64 ((rd_T49 l0 x8_1).f3))) = w9 at n0_ n1_ n2_ ⊢
             have HO_3 := n0_
             have BK123 := n1_
             have HB := n2_
             clear n0_ n1_ n2_
             have n0_ := Aside0.mk (Kd.S_drew HO_3.out)
             have n1_ := Aside0.mk (blk_drew BK123.out)
             have n2_ := Aside0.mk (below_drew1 HB.out)
             clear HO_3
             clear BK123
             clear HB
             have HO_3 := n0_
             have BK123 := n1_
             have HB := n2_
             clear n0_ n1_ n2_
             refine start_ (n := 14) (S := fun w' => w'.cell? ⟨gb123, 0, none⟩ = some (.string ((rd_T49 l0 x8_1).f0)) ∧ w'.cell? ⟨gb123, 1, none⟩ = some (.int .i64 ((rd_T49 l0 x8_1).f1)) ∧ w'.cell? ⟨gb123, 2, none⟩ = some (.slice A122_2 ((rd_T49 l0 x8_1).f2).length c122_2) ∧ w'.cell? ⟨gb123, 3, none⟩ = some (.int .i64 ((rd_T49 l0 x8_1).f3))) (ds := []) #[false, false, false, false, false, false, false, false, false, false, false, false, false, false] (by kernel_rfl) rfl rfl ⟨(blk_cell BK123.out 0).trans rfl, (blk_cell BK123.out 1).trans rfl, (blk_cell BK123.out 2).trans rfl, (blk_cell BK123.out 3).trans rfl⟩ (fun hHeld => ?_); refine with_tabW impl_told.tab5 impl_told.bits5 (fun HT_ HW_ => ?_)
             generalize w9.drew = w10 at HO_3 BK123 HB hHeld ⊢
             refine pure_ (i := 0) (N := some 12) (v := ?_) (a' := ?_) #[true, false, false, false, false, false, false, false, false, false, false, false, false, false] rfl rfl (any_of HT_.out (by kernel_rfl)) (fun _ _ _ h => h) (Or.inl ⟨by rfl, ?_⟩) ?_ ?_
             rotate_left
             · intro w'
               go_simp
               with_reducible rfl
             rotate_left
             · simp only [Act.put, List.setIfInBounds_toArray, List.set_cons_zero, List.set_cons_succ, i64_w, i32_w]
               rfl
             refine pure_ (i := 1) (N := some 13) (v := ?_) (a' := ?_) #[true, true, false, false, false, false, false, false, false, false, false, false, false, false] rfl rfl (any_of HT_.out (by kernel_rfl)) (fun _ _ _ h => h) (Or.inl ⟨by rfl, ?_⟩) ?_ ?_
             rotate_left
             · intro w'
               go_simp
               with_reducible rfl
             rotate_left
             · simp only [Act.put, List.setIfInBounds_toArray, List.set_cons_zero, List.set_cons_succ, i64_w, i32_w]
               rfl
             refine pure_ (i := 3) (N := some 15) (v := ?_) (a' := ?_) #[true, true, false, true, false, false, false, false, false, false, false, false, false, false] rfl rfl (any_of HT_.out (by kernel_rfl)) (fun _ _ _ h => h) (Or.inl ⟨by rfl, ?_⟩) ?_ ?_
             rotate_left
             · intro w'
               go_simp
               with_reducible rfl
             rotate_left
             · simp only [Act.put, List.setIfInBounds_toArray, List.set_cons_zero, List.set_cons_succ, i64_w, i32_w]
               rfl
             refine pure_ (i := 5) (N := some 17) (v := ?_) (a' := ?_) #[true, true, false, true, false, true, false, false, false, false, false, false, false, false] rfl rfl (any_of HT_.out (by kernel_rfl)) (fun _ _ _ h => h) (Or.inl ⟨by rfl, ?_⟩) ?_ ?_
             rotate_left
             · intro w'
               go_simp
               with_reducible rfl
             rotate_left
             · simp only [Act.put, List.setIfInBounds_toArray, List.set_cons_zero, List.set_cons_succ, i64_w, i32_w]
               rfl
             refine pure_ (i := 8) (N := some 20) (v := ?_) (a' := ?_) #[true, true, false, true, false, true, false, false, true, false, false, false, false, false] rfl rfl (any_of HT_.out (by kernel_rfl)) (fun _ _ _ h => h) (Or.inl ⟨by rfl, ?_⟩) ?_ ?_
             rotate_left
             · intro w'
               go_simp
               with_reducible rfl
             rotate_left
             · simp only [Act.put, List.setIfInBounds_toArray, List.set_cons_zero, List.set_cons_succ, i64_w, i32_w]
               rfl
             refine take_ (i := 2) (N := some 14) (v := ?_) (a' := ?_) #[true, true, true, true, false, true, false, false, true, false, false, false, false, false] rfl rfl (take_ofW HT_.out HW_.out (by kernel_rfl)) (fun _ _ _ h => h) (Or.inl ⟨by rfl, ?_⟩) hHeld ?_ ?_
             rotate_left
             · rintro w' ⟨s0, s1, s2, s3⟩
               go_simp
               with_reducible rfl
             rotate_left
             · simp only [Act.put, List.setIfInBounds_toArray, List.set_cons_zero, List.set_cons_succ, i64_w, i32_w]
               rfl
             refine take_ (i := 4) (N := some 16) (v := ?_) (a' := ?_) #[true, true, true, true, true, true, false, false, true, false, false, false, false, false] rfl rfl (take_ofW HT_.out HW_.out (by kernel_rfl)) (fun _ _ _ h => h) (Or.inl ⟨by rfl, ?_⟩) hHeld ?_ ?_
             rotate_left
             · rintro w' ⟨s0, s1, s2, s3⟩
               go_simp
               with_reducible rfl
             rotate_left
             · simp only [Act.put, List.setIfInBounds_toArray, List.set_cons_zero, List.set_cons_succ, i64_w, i32_w]
               rfl
             refine take_ (i := 6) (N := some 18) (v := ?_) (a' := ?_) #[true, true, true, true, true, true, true, false, true, false, false, false, false, false] rfl rfl (take_ofW HT_.out HW_.out (by kernel_rfl)) (fun _ _ _ h => h) (Or.inl ⟨by rfl, ?_⟩) hHeld ?_ ?_
             rotate_left
             · rintro w' ⟨s0, s1, s2, s3⟩
               go_simp
               with_reducible rfl
             rotate_left
             · simp only [Act.put, List.setIfInBounds_toArray, List.set_cons_zero, List.set_cons_succ, i64_w, i32_w]
               rfl
             refine take_ (i := 9) (N := some 21) (v := ?_) (a' := ?_) #[true, true, true, true, true, true, true, false, true, true, false, false, false, false] rfl rfl (take_ofW HT_.out HW_.out (by kernel_rfl)) (fun _ _ _ h => h) (Or.inl ⟨by rfl, ?_⟩) hHeld ?_ ?_
             rotate_left
             · rintro w' ⟨s0, s1, s2, s3⟩
               go_simp
               with_reducible rfl
             rotate_left
             · simp only [Act.put, List.setIfInBounds_toArray, List.set_cons_zero, List.set_cons_succ, i64_w, i32_w]
               rfl
             refine one_ (i := 7) (N := some 19) #[true, true, true, true, true, true, true, true, true, true, false, false, false, false] rfl rfl (one_of HT_.out (by kernel_rfl)) (by decide) (fun K hK => ?_)
             refine Kd.R_append_rows_step (Kd.int .i64) (w0 := w) w.heap.size rfl (.const (.slice none 0 0)) (.tmp 18) 31 3 (.int .i64 0) 8 rfl Tryd.underlying31 info3 rfl (by decide) (by omega) (.slice none 0 0) ([] : List Int) ((rd_T49 l0 x8_1).f2) _ _ _ (fun _ => True) (fun _ => False) rfl rfl ?aO ?aR (fun _ _ h => h) (fun _ h => h.elim) ?aF ?aB ?aS ?aL ?_
             (case aR => repeat (first | exact (Kd.C_below HR122_2.out HB.out) | (with_reducible refine Kd.C_alloc ?_ _) | (with_reducible refine Kd.C_drewN ?_ _) | (with_reducible refine Kd.C_drew ?_)))
             (case aB => exact (by repeat (first | (with_reducible first | exact HB.out | apply below_alloc | apply pw_below_drewN | apply below_drew1 | refine below_set ?_ GE123.out) | exact HB.out)))
             (case aF => exact (fun _ _ => trivial))
             (case aO => exact ((Kd.R_nil _ _ _ _ (fun _ => True))))
             (case aS => exact (below_size (by repeat (first | (with_reducible first | exact HB.out | apply below_alloc | apply pw_below_drewN | apply below_drew1 | refine below_set ?_ GE123.out) | exact HB.out))))
             (case aL => have := LMc5.out; omega)
             intro v125 w11 ho hb hg hat
             rw [← Ny124.out] at ho
             have n0_ := Aside0.mk (Kd.S_after (Kd.S_apart_nil (by (with_reducible repeat (first | apply Kd.S_alloc | apply Kd.S_drewN | apply Kd.S_drew)); exact HO_3.out)) hg hat)
             have n1_ := Aside0.mk (blk_grown (g := gb123) (o := .cells #[.string ((rd_T49 l0 x8_1).f0), .int .i64 ((rd_T49 l0 x8_1).f1), .slice A122_2 ((rd_T49 l0 x8_1).f2).length c122_2, .int .i64 ((rd_T49 l0 x8_1).f3)] 49 (0, 0)) (by (with_reducible repeat (first | refine blk_drewN ?_ _ | refine blk_drew ?_ | refine blk_alloc ?_ _)); exact BK123.out) hg (by simp [Value.ownBlock]))
             have n2_ := Aside0.mk (hb)
             have n3_ := Aside0.mk (ho)
             clear HO_3
             clear BK123
             clear HB
             have HO_3 := n0_
             have BK123 := n1_
             have HB := n2_
             have HO126 := n3_
             clear n0_ n1_ n2_ n3_
             clear ho hb hg hat
             obtain ⟨Ao12, co12, eo12⟩ := Kd.R_slice HO126.out
             (first | subst eo12 | (injection eo12 with f1_ f2_ f3_; have f4_ := f1_.symm; have f5_ := f3_.symm; clear f1_ f2_ f3_; subst f4_; subst f5_))
             refine hK.out _ _ ⟨(blk_cell BK123.out 0).trans rfl, (blk_cell BK123.out 1).trans rfl, (blk_cell BK123.out 2).trans rfl, (blk_cell BK123.out 3).trans rfl⟩ (fun hHeld => ?_)
             clear hK K
             refine norm_ (a' := ?_) ?_ ?_
             rotate_left
             · show Act.put _ (some 19) _ = _
               simp only [Act.put, List.setIfInBounds_toArray, List.set_cons_zero, List.set_cons_succ, i64_w, i32_w]
               rfl
             refine pure_ (i := 10) (N := some 22) (v := ?_) (a' := ?_) #[true, true, true, true, true, true, true, true, true, true, true, false, false, false] rfl rfl (any_of HT_.out (by kernel_rfl)) (fun _ _ _ h => h) (Or.inl ⟨by rfl, ?_⟩) ?_ ?_
             rotate_left
             · intro w'
               go_simp
               with_reducible rfl
             rotate_left
             · simp only [Act.put, List.setIfInBounds_toArray, List.set_cons_zero, List.set_cons_succ, i64_w, i32_w]
               rfl
             refine one_ (i := 11) (N := some 23) #[true, true, true, true, true, true, true, true, true, true, true, true, false, false] rfl rfl (one_of HT_.out (by kernel_rfl)) (by decide) (fun K hK => ?_)
             refine value_ (w1 := ?_) (v := ?_) (by rfl) rfl ?_ ?_
             rotate_left 2
             · go_simp
               constructor
               · rfl
               · rfl
             refine hK.out _ _ ⟨(blk_cell (blk_alloc BK123.out _) 0).trans rfl, (blk_cell (blk_alloc BK123.out _) 1).trans rfl, (blk_cell (blk_alloc BK123.out _) 2).trans rfl, (blk_cell (blk_alloc BK123.out _) 3).trans rfl⟩ (fun hHeld => ?_)
             clear hK K
             refine norm_ (a' := ?_) ?_ ?_
             rotate_left
             · show Act.put _ (some 23) _ = _
               simp only [Act.put, List.setIfInBounds_toArray, List.set_cons_zero, List.set_cons_succ, i64_w, i32_w]
               rfl
             refine one_ (i := 12) (N := some 24) #[true, true, true, true, true, true, true, true, true, true, true, true, true, false] rfl rfl (one_of HT_.out (by kernel_rfl)) (by decide) (fun K hK => ?_)
             refine Kd.S_append_step k33 (w0 := w) w.heap.size (by rfl) (.tmp 12) (.tmp 23) 26 33 (.agg #[(.string ⟨#[]⟩), (.int .i64 0), (.slice none 0 0), (.int .i64 0)]) 56 rfl Tryd.underlying26 info33 rfl (by decide) (by omega) u3 x3_1 (⟨(rd_T49 l0 x8_1).f0, (rd_T49 l0 x8_1).f1, y124, (rd_T49 l0 x8_1).f3⟩ : S33) [.string ((rd_T49 l0 x8_1).f0), .int .i64 ((rd_T49 l0 x8_1).f1), .slice Ao12 y124.length co12, .int .i64 ((rd_T49 l0 x8_1).f3)] (fun _ => True) (fun k_ => some k_ = (.slice Ao12 y124.length co12 : Value).ownBlock) rfl rfl ?aP (fun k_ hk_ => ((Kd.R_mono (ok' := fun k_ => ((fun _ => True)) k_ ∧ some k_ ≠ (u3 : Value).ownBlock) (Kd.R_apart' (HO126.out) (Kd.S_typed HO_3.out) (by decide)) (fun k_ hk => ⟨trivial, hk.2⟩))).1 k_ hk_.symm) ?aF ?aO ?aB ?aS ?aL ?_
             (case aP => exact k33_mkM _ _ _ (⟨(rd_T49 l0 x8_1).f0, (rd_T49 l0 x8_1).f1, y124, (rd_T49 l0 x8_1).f3⟩ : S33) (Kd.R_mono (Kd.R_tight rfl (Kd.R_mono (ok' := fun k_ => ((fun _ => True)) k_ ∧ some k_ ≠ (u3 : Value).ownBlock) (Kd.R_apart' (HO126.out) (Kd.S_typed HO_3.out) (by decide)) (fun k_ hk => ⟨trivial, hk.2⟩))) (fun _ h_ => h_)))
             (case aB => exact (by repeat (first | (with_reducible first | exact HB.out | apply below_alloc | apply pw_below_drewN | apply below_drew1 | refine below_set ?_ GE123.out) | exact HB.out)))
             (case aF => exact (fun _ _ => trivial))
             (case aO => exact (by (with_reducible repeat (first | apply Kd.S_alloc | apply Kd.S_drewN | apply Kd.S_drew)); exact Kd.S_mono HO_3.out (fun k_ hk => ⟨trivial, fun e_ => hk.2 e_⟩)))
             (case aS => exact (below_size (by repeat (first | (with_reducible first | exact HB.out | apply below_alloc | apply pw_below_drewN | apply below_drew1 | refine below_set ?_ GE123.out) | exact HB.out))))
             (case aL => have := LMc6.out; omega)
             intro v128 w13 ho hb hg hat
             rw [← Ny127.out] at ho
             have n0_ := Aside0.mk (blk_grown (g := gb123) (o := .cells #[.string ((rd_T49 l0 x8_1).f0), .int .i64 ((rd_T49 l0 x8_1).f1), .slice A122_2 ((rd_T49 l0 x8_1).f2).length c122_2, .int .i64 ((rd_T49 l0 x8_1).f3)] 49 (0, 0)) (by (with_reducible repeat (first | refine blk_drewN ?_ _ | refine blk_drew ?_ | refine blk_alloc ?_ _)); exact BK123.out) hg (Kd.S_ne HO_3.out BK123.out (by decide)))
             have n1_ := Aside0.mk (hb)
             have n2_ := Aside0.mk (ho)
             clear BK123
             clear HB
             clear HO_3
             clear HO126
             have BK123 := n0_
             have HB := n1_
             have HO129 := n2_
             clear n0_ n1_ n2_
             clear ho hb hg hat
             refine hK.out _ _ ⟨(blk_cell BK123.out 0).trans rfl, (blk_cell BK123.out 1).trans rfl, (blk_cell BK123.out 2).trans rfl, (blk_cell BK123.out 3).trans rfl⟩ (fun hHeld => ?_)
             clear hK K
             refine norm_ (a' := ?_) ?_ ?_
             rotate_left
             · show Act.put _ (some 24) _ = _
               simp only [Act.put, List.setIfInBounds_toArray, List.set_cons_zero, List.set_cons_succ, i64_w, i32_w]
               rfl
             refine pure_ (i := 13) (N := some 3) (v := ?_) (a' := ?_) #[true, true, true, true, true, true, true, true, true, true, true, true, true, true] rfl rfl (any_of HT_.out (by kernel_rfl)) (fun _ _ _ h => h) (Or.inl ⟨by rfl, ?_⟩) ?_ ?_
             rotate_left
             · intro w'
               go_simp
               with_reducible rfl
             rotate_left
             · simp only [Act.put, List.setIfInBounds_toArray, List.set_cons_zero, List.set_cons_succ, i64_w, i32_w]
               rfl
             refine done_ (done_of HT_.out (by kernel_rfl)) ?_
             try go_wp2
             go_roundg k1
             case measure => have := HK1.out; omega
             case rel => exact ⟨(y127), (wrap64 (x8_1 + 1)), (by first | rfl | (simp; done) | (simp [*]; done)), H', ⟨by have := HK1.out; omega⟩, ⟨by (with_reducible repeat (first | apply Kd.S_alloc | apply Kd.S_drewN | apply Kd.S_drew)); exact HO129.out⟩, ⟨by repeat (first | (with_reducible first | exact HB.out | apply below_alloc | apply pw_below_drewN | apply below_drew1 | refine below_set ?_ GE123.out) | exact HB.out)⟩⟩
           · rw [if_neg c6] at H
             exact absurd H (by simp)
         · rw [if_neg c5] at H
           exact absurd H (by simp)
       · rw [if_neg c4] at H
         exact absurd H (by simp)
     · rw [if_neg c3] at H
       exact absurd H (by simp)
   · rw [if_neg c2] at H
     have c2b0 : decide (x8_1 < (l0.length : Int)) = false := decide_eq_false c2
     clear c2
     obtain rfl := Option.some.inj H
     go_wp2
     go_ret
     exact ⟨_, by first | rfl | (simp [errW_none, errW_some] <;> rfl) | (simp [*, errW_none, errW_some] <;> rfl), by (with_reducible repeat (first | apply Kd.S_alloc | apply Kd.S_drewN | apply Kd.S_drew)); exact HO_3.out, by repeat (first | (with_reducible first | exact HB.out | apply below_alloc | apply pw_below_drewN | apply below_drew1) | exact HB.out)⟩

end Go.Proofs.YtgeimklpcfepaaaDoor.P
