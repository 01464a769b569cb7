-- written by a program of this session (wip/tools), out of the translation
import Derived.Test.YtfkemfkleceeiaaDoorP0
import Derived.Test.YtfkemfkleceeiaaDoorP8
import Derived.Test.YtfkemfkleceeiaaDoorExtFold
import Derived.Test.YtfkemfkleceeiaaDoorExtRank
import Derived.Test.YtfkemfkleceeiaaDoorP6
namespace Go.Proofs.YtfkemfkleceeiaaDoor.P
open Go.RowKit Go.Proofs.YtfkemfkleceeiaaDoorW.PrintWords Go.Proofs.YtfkemfkleceeiaaDoorW.PrintLast Go.Proofs.YtfkemfkleceeiaaDoorW.PrintMore
attribute [local go_sem] max2_int min2_int max_two min_two max_three min_three max_four min_four   -- for this text's walks alone
set_option linter.unusedVariables false
set_option linter.unusedSimpArgs false

/-! ### utf8_RuneLen: function 57 -/
def utf8_RuneLen.j0 : Nat → Int → Bool → Option (Int)
  | 0, _, _ => none
  | k + 1, x0, x12 => if x12 = true then (some (-1)) else (if x0 ≤ 65535 then (some 3) else (if x0 ≤ 1114111 then (some 4) else (some (-1))))
def utf8_RuneLen.f (k : Nat) (a0 : Int) : Option (Int) := if a0 < 0 then (some (-1)) else (if a0 ≤ 127 then (some 1) else (if a0 ≤ 2047 then (some 2) else (if 55296 ≤ a0 then (utf8_RuneLen.j0 k a0 (decide (a0 ≤ 57343))) else (utf8_RuneLen.j0 k a0 false))))
theorem utf8_RuneLen.mono_l : ∀ k, (∀ y0 y1, LeO (utf8_RuneLen.j0 k y0 y1) (utf8_RuneLen.j0 (k + 1) y0 y1))
  | 0 => fun _ _ r h => by simp [utf8_RuneLen.j0] at h
  | k + 1 => by
    have ih0 := utf8_RuneLen.mono_l k
    · intro y0 y1
      unfold utf8_RuneLen.j0
      repeat' first
      | (with_reducible exact ih0 _ _)
      | (with_reducible exact LeO.refl _)
      | (with_reducible exact LeO.none _)
      | (with_reducible refine LeO.ite ?_ ?_)
      | (with_reducible refine LeO.bind ?_ (fun _ => ?_))
      | exact ih0 _ _
      | exact LeO.none _
      | refine LeO.ite ?_ ?_
      | refine LeO.bind ?_ (fun _ => ?_)
theorem utf8_RuneLen.mono : ∀ a0 k, LeO (utf8_RuneLen.f k a0) (utf8_RuneLen.f (k + 1) a0) := by
  intro a0 k
  have ih0 := utf8_RuneLen.mono_l k
  unfold utf8_RuneLen.f
  repeat' first
      | (with_reducible exact ih0 _ _)
      | (with_reducible exact LeO.refl _)
      | (with_reducible exact LeO.none _)
      | (with_reducible refine LeO.ite ?_ ?_)
      | (with_reducible refine LeO.bind ?_ (fun _ => ?_))
      | exact ih0 _ _
      | exact LeO.none _
      | refine LeO.ite ?_ ?_
      | refine LeO.bind ?_ (fun _ => ?_)
set_option maxHeartbeats 8000000 in
set_option maxRecDepth 100000 in
theorem utf8_RuneLen.calls (k : Nat) (a0 : Int) (r : Int) (w : World) (h : utf8_RuneLen.f k a0 = some r) :
    Calls Tryd.prog 57 #[.int .i32 a0] w fun e w' => e = .returned (.int .i64 r) ∧ Drawn0 w w' := by
  have H : (if a0 < 0 then (some (-1)) else (if a0 ≤ 127 then (some 1) else (if a0 ≤ 2047 then (some 2) else (if 55296 ≤ a0 then (utf8_RuneLen.j0 k a0 (decide (a0 ≤ 57343))) else (utf8_RuneLen.j0 k a0 false))))) = some r := h
  clear h
  by_cases c2 : a0 < 0
  · rw [if_pos c2] at H
    have c2b0 : decide (a0 < 0) = true := decide_eq_true c2
    clear c2
    obtain rfl := Option.some.inj H
    go_enter Tryd.func57, Tryd.ntmps57
    go_wp2
    go_ret
    exact ⟨by first | rfl | (simp; done) | (simp [*]; done), by repeat (first | exact Drawn0.refl _ | apply Drawn0.step)⟩
  · rw [if_neg c2] at H
    have c2b0 : decide (a0 < 0) = false := decide_eq_false c2
    clear c2
    by_cases c3 : a0 ≤ 127
    · rw [if_pos c3] at H
      have c3b0 : decide (a0 ≤ 127) = true := decide_eq_true c3
      clear c3
      obtain rfl := Option.some.inj H
      go_enter Tryd.func57, Tryd.ntmps57
      go_wp2
      go_ret
      exact ⟨by first | rfl | (simp; done) | (simp [*]; done), by repeat (first | exact Drawn0.refl _ | apply Drawn0.step)⟩
    · rw [if_neg c3] at H
      have c3b0 : decide (a0 ≤ 127) = false := decide_eq_false c3
      clear c3
      by_cases c4 : a0 ≤ 2047
      · rw [if_pos c4] at H
        have c4b0 : decide (a0 ≤ 2047) = true := decide_eq_true c4
        clear c4
        obtain rfl := Option.some.inj H
        go_enter Tryd.func57, Tryd.ntmps57
        go_wp2
        go_ret
        exact ⟨by first | rfl | (simp; done) | (simp [*]; done), by repeat (first | exact Drawn0.refl _ | apply Drawn0.step)⟩
      · rw [if_neg c4] at H
        have c4b0 : decide (a0 ≤ 2047) = false := decide_eq_false c4
        clear c4
        have HC5 := Aside0.mk H
        clear H
        go_enter Tryd.func57, Tryd.ntmps57
        go_upto_region 7 with (fail)
        go_cut [12] (fun v12 wc => ∃ (kq : Nat) (x12_4 : Bool), v12 = .bool x12_4 ∧ Aside0 (utf8_RuneLen.j0 kq a0 x12_4 = some r) ∧ Aside0 (kq ≤ k) ∧ Drawn0 w wc)
        case first =>
          have H := HC5.out
          clear HC5
          by_cases c6 : 55296 ≤ a0
          · rw [if_pos c6] at H
            have c6b0 : decide (55296 ≤ a0) = true := decide_eq_true c6
            clear c6
            (first | rw [c6b0] | (simp only [i64_w, i32_w]; rw [c6b0]) | skip)
            have H' := Aside0.mk H
            clear H
            go_wp2
            go_meet
            case rel => exact ⟨_, (decide (a0 ≤ 57343)), (by first | rfl | (simp; done) | (simp [*]; done)), H', ⟨by first | omega | exact Nat.le_refl _⟩, by repeat (first | exact Drawn0.refl _ | apply Drawn0.step)⟩
          · rw [if_neg c6] at H
            have c6b0 : decide (55296 ≤ a0) = false := decide_eq_false c6
            clear c6
            (first | rw [c6b0] | (simp only [i64_w, i32_w]; rw [c6b0]) | skip)
            have H' := Aside0.mk H
            clear H
            go_wp2
            go_meet
            case rel => exact ⟨_, (false), (by first | rfl | (simp; done) | (simp [*]; done)), H', ⟨by first | omega | exact Nat.le_refl _⟩, by repeat (first | exact Drawn0.refl _ | apply Drawn0.step)⟩
        case rest =>
          clear HC5
          try clear c2
          try clear c2b0
          try clear p2
          try clear c3
          try clear c3b0
          try clear c4
          try clear c4b0
          try clear c5
          try clear c6
          try clear c6b0
          obtain ⟨kq, x12_4, rfl, HA, HJ4, ⟨mc4, rfl⟩⟩ := hcut
          cases kq with
          | zero => exact absurd HA.out (by simp [utf8_RuneLen.j0])
          | succ kj4 =>
            have H := HA.out
            clear HA
            simp only [utf8_RuneLen.j0] at H
            by_cases c7 : x12_4 = true
            · subst c7
              have H1 : (some (-1)) = some r := by rw [if_pos rfl] at H; exact H
              clear H
              have H := H1
              clear H1
              obtain rfl := Option.some.inj H
              go_wp2
              go_ret
              exact ⟨by first | rfl | (simp; done) | (simp [*]; done), by repeat (first | exact Drawn0.refl _ | apply Drawn0.step)⟩
            · replace c7 := Bool.eq_false_iff.mpr c7
              subst c7
              have H1 : (if a0 ≤ 65535 then (some 3) else (if a0 ≤ 1114111 then (some 4) else (some (-1)))) = some r := by rw [if_neg (show ¬ (false = true) by decide)] at H; exact H
              clear H
              have H := H1
              clear H1
              by_cases c8 : a0 ≤ 65535
              · rw [if_pos c8] at H
                have c8b0 : decide (a0 ≤ 65535) = true := decide_eq_true c8
                clear c8
                obtain rfl := Option.some.inj H
                go_wp2
                go_ret
                exact ⟨by first | rfl | (simp; done) | (simp [*]; done), by repeat (first | exact Drawn0.refl _ | apply Drawn0.step)⟩
              · rw [if_neg c8] at H
                have c8b0 : decide (a0 ≤ 65535) = false := decide_eq_false c8
                clear c8
                by_cases c9 : a0 ≤ 1114111
                · rw [if_pos c9] at H
                  have c9b0 : decide (a0 ≤ 1114111) = true := decide_eq_true c9
                  clear c9
                  obtain rfl := Option.some.inj H
                  go_wp2
                  go_ret
                  exact ⟨by first | rfl | (simp; done) | (simp [*]; done), by repeat (first | exact Drawn0.refl _ | apply Drawn0.step)⟩
                · rw [if_neg c9] at H
                  have c9b0 : decide (a0 ≤ 1114111) = false := decide_eq_false c9
                  clear c9
                  obtain rfl := Option.some.inj H
                  go_wp2
                  go_ret
                  exact ⟨by first | rfl | (simp; done) | (simp [*]; done), by repeat (first | exact Drawn0.refl _ | apply Drawn0.step)⟩

-- TOLD BY HAND: function 56 (fuzzysearch_matchTransformed)

/-! ### fuzzysearch_match: function 45 -/
def fuzzysearch_match.f (a0 : ByteArray) (a1 : ByteArray) (a2 : Bool) : Option (Bool) := (fuzzysearch_stringTransform.f a0 a2).bind fun t187 => ((fuzzysearch_stringTransform.f a1 a2).bind fun t188 => ((fuzzysearch_matchTransformed.f t187 t188).bind fun t189 => (some t189)))
set_option maxHeartbeats 8000000 in
set_option maxRecDepth 100000 in
theorem fuzzysearch_match.calls (a0 : ByteArray) (a1 : ByteArray) (a2 : Bool) (r : Bool) (w : World) (hA_ : Amb w) (h : fuzzysearch_match.f a0 a1 a2 = some r) :
    Calls Tryd.prog 45 #[.string a0, .string a1, .bool a2] w fun e w' => e = .returned (.bool r) ∧ Below w.heap.size w w' := by
  have HAMB := Aside0.mk hA_
  clear hA_
  have HB := Aside0.mk (Below.refl w.heap.size w)
  have H : ((fuzzysearch_stringTransform.f a0 a2).bind fun t187 => ((fuzzysearch_stringTransform.f a1 a2).bind fun t188 => ((fuzzysearch_matchTransformed.f t187 t188).bind fun t189 => (some t189)))) = some r := h
  clear h
  replace H := Option.bind_eq_some_iff.mp H
  obtain ⟨t187, A40, H⟩ := H
  replace H : ((fuzzysearch_stringTransform.f a1 a2).bind fun t188 => ((fuzzysearch_matchTransformed.f t187 t188).bind fun t189 => (some t189))) = some r := H
  have A4 := Aside0.mk A40
  clear A40
  replace H := Option.bind_eq_some_iff.mp H
  obtain ⟨t188, A50, H⟩ := H
  replace H : ((fuzzysearch_matchTransformed.f t187 t188).bind fun t189 => (some t189)) = some r := H
  have A5 := Aside0.mk A50
  clear A50
  replace H := Option.bind_eq_some_iff.mp H
  obtain ⟨t189, A60, H⟩ := H
  replace H : (some t189) = some r := H
  have A6 := Aside0.mk A60
  clear A60
  obtain rfl := Option.some.inj H
  go_enter Tryd.func45, Tryd.ntmps45
  go_wp2_with (first | ((with_reducible refine gate_callee (f := 55) rfl ?_); refine goesL_ (some 11) rfl rfl Tryd.func55 (by kernel_rfl) rfl #[.string a0, .bool a2] rfl (by (try simp only [List.map_toArray, List.map_cons, List.map_nil]); first | done | rfl | (simp only [List.length_drop, List.length_take]; rfl)) ?_; (with_reducible refine (fuzzysearch_stringTransform.calls a0 a2 t187 _ (by first | (with_reducible exact HAMB.out) | exact Amb.below HAMB.out (by repeat (first | (with_reducible first | exact HB.out | apply below_alloc | apply pw_below_drewN | apply below_drew1) | exact HB.out)) | exact Amb.below HAMB.out (by repeat (first | (with_reducible first | exact Below.refl _ _ | apply pw_below_drewN | apply below_drew1 | apply below_alloc)))) A4.out).mono ?_); rintro e w7 ⟨rfl, hb⟩; refine ⟨_, rfl, ?_⟩; have n0_ := Aside0.mk (below_step (by repeat (first | (with_reducible first | exact HB.out | apply below_alloc | apply pw_below_drewN | apply below_drew1) | exact HB.out)) hb); clear HB; have HB := n0_; clear n0_; (try clear hb); (try clear hb2); (try clear hk); (try clear hi)) | ((with_reducible refine gate_callee (f := 55) rfl ?_); refine goesL_ (some 14) rfl rfl Tryd.func55 (by kernel_rfl) rfl #[.string a1, .bool a2] rfl (by (try simp only [List.map_toArray, List.map_cons, List.map_nil]); first | done | rfl | (simp only [List.length_drop, List.length_take]; rfl)) ?_; (with_reducible refine (fuzzysearch_stringTransform.calls a1 a2 t188 _ (by first | (with_reducible exact HAMB.out) | exact Amb.below HAMB.out (by repeat (first | (with_reducible first | exact HB.out | apply below_alloc | apply pw_below_drewN | apply below_drew1) | exact HB.out)) | exact Amb.below HAMB.out (by repeat (first | (with_reducible first | exact Below.refl _ _ | apply pw_below_drewN | apply below_drew1 | apply below_alloc)))) A5.out).mono ?_); rintro e w8 ⟨rfl, hb⟩; refine ⟨_, rfl, ?_⟩; have n0_ := Aside0.mk (below_step (by repeat (first | (with_reducible first | exact HB.out | apply below_alloc | apply pw_below_drewN | apply below_drew1) | exact HB.out)) hb); clear HB; have HB := n0_; clear n0_; (try clear hb); (try clear hb2); (try clear hk); (try clear hi)) | ((with_reducible refine gate_callee (f := 56) rfl ?_); refine goesL_ (some 17) rfl rfl Tryd.func56 (by kernel_rfl) rfl #[.string t187, .string t188] rfl (by (try simp only [List.map_toArray, List.map_cons, List.map_nil]); first | done | rfl | (simp only [List.length_drop, List.length_take]; rfl)) ?_; (with_reducible refine (fuzzysearch_matchTransformed.calls t187 t188 t189 _ A6.out).mono ?_); rintro e w9 ⟨rfl, hb⟩; refine ⟨_, rfl, ?_⟩; have n0_ := Aside0.mk (below_step (by repeat (first | (with_reducible first | exact HB.out | apply below_alloc | apply pw_below_drewN | apply below_drew1) | exact HB.out)) hb); clear HB; have HB := n0_; clear n0_; (try clear hb); (try clear hb2); (try clear hk); (try clear hi)))
  go_ret
  exact ⟨by first | rfl | (simp [errW_none, errW_some] <;> rfl) | (simp [*, errW_none, errW_some] <;> rfl), by repeat (first | (with_reducible first | exact HB.out | apply below_alloc | apply pw_below_drewN | apply below_drew1) | exact HB.out)⟩

/-! ### fuzzysearch_foldTransformer: function 46 -/
def fuzzysearch_foldTransformer.f  : Option (Bool) := some true
set_option maxHeartbeats 8000000 in
set_option maxRecDepth 100000 in
theorem fuzzysearch_foldTransformer.calls  (r : Bool) (w : World) (h : fuzzysearch_foldTransformer.f  = some r) :
    Calls Tryd.prog 46 #[] w fun e w' => e = .returned (.bool r) ∧ Drawn0 w w' := by
  have H : (some true) = some r := h
  clear h
  obtain rfl := Option.some.inj H
  go_enter Tryd.func46, Tryd.ntmps46
  go_wp2
  go_ret
  exact ⟨by first | rfl | (simp; done) | (simp [*]; done), by repeat (first | exact Drawn0.refl _ | apply Drawn0.step)⟩

/-! ### fuzzysearch_MatchFold: function 32 -/
def fuzzysearch_MatchFold.f (a0 : ByteArray) (a1 : ByteArray) : Option (Bool) := (fuzzysearch_foldTransformer.f).bind fun t190 => ((fuzzysearch_match.f a0 a1 t190).bind fun t191 => (some t191))
set_option maxHeartbeats 8000000 in
set_option maxRecDepth 100000 in
theorem fuzzysearch_MatchFold.calls (a0 : ByteArray) (a1 : ByteArray) (r : Bool) (w : World) (hA_ : Amb w) (h : fuzzysearch_MatchFold.f a0 a1 = some r) :
    Calls Tryd.prog 32 #[.string a0, .string a1] w fun e w' => e = .returned (.bool r) ∧ Below w.heap.size w w' := by
  have HAMB := Aside0.mk hA_
  clear hA_
  have HB := Aside0.mk (Below.refl w.heap.size w)
  have H : ((fuzzysearch_foldTransformer.f).bind fun t190 => ((fuzzysearch_match.f a0 a1 t190).bind fun t191 => (some t191))) = some r := h
  clear h
  replace H := Option.bind_eq_some_iff.mp H
  obtain ⟨t190, A30, H⟩ := H
  replace H : ((fuzzysearch_match.f a0 a1 t190).bind fun t191 => (some t191)) = some r := H
  have A3 := Aside0.mk A30
  clear A30
  replace H := Option.bind_eq_some_iff.mp H
  obtain ⟨t191, A40, H⟩ := H
  replace H : (some t191) = some r := H
  have A4 := Aside0.mk A40
  clear A40
  obtain rfl := Option.some.inj H
  go_enter Tryd.func32, Tryd.ntmps32
  go_wp2_with (first | ((with_reducible refine gate_callee (f := 46) rfl ?_); refine goesL_ (some 7) rfl rfl Tryd.func46 (by kernel_rfl) rfl #[] rfl (by (try simp only [List.map_toArray, List.map_cons, List.map_nil]); first | done | rfl | (simp only [List.length_drop, List.length_take]; rfl)) ?_; (with_reducible refine (fuzzysearch_foldTransformer.calls  t190 _ A3.out).mono ?_); rintro e w' ⟨rfl, ⟨nd, rfl⟩⟩; refine ⟨_, rfl, ?_⟩) | ((with_reducible refine gate_callee (f := 45) rfl ?_); refine goesL_ (some 8) rfl rfl Tryd.func45 (by kernel_rfl) rfl #[.string a0, .string a1, .bool t190] rfl (by (try simp only [List.map_toArray, List.map_cons, List.map_nil]); first | done | rfl | (simp only [List.length_drop, List.length_take]; rfl)) ?_; (with_reducible refine (fuzzysearch_match.calls a0 a1 t190 t191 _ (by first | (with_reducible exact HAMB.out) | exact Amb.below HAMB.out (by repeat (first | (with_reducible first | exact HB.out | apply below_alloc | apply pw_below_drewN | apply below_drew1) | exact HB.out)) | exact Amb.below HAMB.out (by repeat (first | (with_reducible first | exact Below.refl _ _ | apply pw_below_drewN | apply below_drew1 | apply below_alloc)))) A4.out).mono ?_); rintro e w5 ⟨rfl, hb⟩; refine ⟨_, rfl, ?_⟩; have n0_ := Aside0.mk (below_step (by repeat (first | (with_reducible first | exact HB.out | apply below_alloc | apply pw_below_drewN | apply below_drew1) | exact HB.out)) hb); clear HB; have HB := n0_; clear n0_; (try clear hb); (try clear hb2); (try clear hk); (try clear hi)))
  go_ret
  exact ⟨by first | rfl | (simp [errW_none, errW_some] <;> rfl) | (simp [*, errW_none, errW_some] <;> rfl), by repeat (first | (with_reducible first | exact HB.out | apply below_alloc | apply pw_below_drewN | apply below_drew1) | exact HB.out)⟩

/-! ### fuzzysearch_noopTransformer: function 47 -/
def fuzzysearch_noopTransformer.f  : Option (Bool) := some false
set_option maxHeartbeats 8000000 in
set_option maxRecDepth 100000 in
theorem fuzzysearch_noopTransformer.calls  (r : Bool) (w : World) (h : fuzzysearch_noopTransformer.f  = some r) :
    Calls Tryd.prog 47 #[] w fun e w' => e = .returned (.bool r) ∧ Drawn0 w w' := by
  have H : (some false) = some r := h
  clear h
  obtain rfl := Option.some.inj H
  go_enter Tryd.func47, Tryd.ntmps47
  go_wp2
  go_ret
  exact ⟨by first | rfl | (simp; done) | (simp [*]; done), by repeat (first | exact Drawn0.refl _ | apply Drawn0.step)⟩

/-! ### fuzzysearch_Match: function 33 -/
def fuzzysearch_Match.f (a0 : ByteArray) (a1 : ByteArray) : Option (Bool) := (fuzzysearch_noopTransformer.f).bind fun t192 => ((fuzzysearch_match.f a0 a1 t192).bind fun t193 => (some t193))
set_option maxHeartbeats 8000000 in
set_option maxRecDepth 100000 in
theorem fuzzysearch_Match.calls (a0 : ByteArray) (a1 : ByteArray) (r : Bool) (w : World) (hA_ : Amb w) (h : fuzzysearch_Match.f a0 a1 = some r) :
    Calls Tryd.prog 33 #[.string a0, .string a1] w fun e w' => e = .returned (.bool r) ∧ Below w.heap.size w w' := by
  have HAMB := Aside0.mk hA_
  clear hA_
  have HB := Aside0.mk (Below.refl w.heap.size w)
  have H : ((fuzzysearch_noopTransformer.f).bind fun t192 => ((fuzzysearch_match.f a0 a1 t192).bind fun t193 => (some t193))) = some r := h
  clear h
  replace H := Option.bind_eq_some_iff.mp H
  obtain ⟨t192, A30, H⟩ := H
  replace H : ((fuzzysearch_match.f a0 a1 t192).bind fun t193 => (some t193)) = some r := H
  have A3 := Aside0.mk A30
  clear A30
  replace H := Option.bind_eq_some_iff.mp H
  obtain ⟨t193, A40, H⟩ := H
  replace H : (some t193) = some r := H
  have A4 := Aside0.mk A40
  clear A40
  obtain rfl := Option.some.inj H
  go_enter Tryd.func33, Tryd.ntmps33
  go_wp2_with (first | ((with_reducible refine gate_callee (f := 47) rfl ?_); refine goesL_ (some 7) rfl rfl Tryd.func47 (by kernel_rfl) rfl #[] rfl (by (try simp only [List.map_toArray, List.map_cons, List.map_nil]); first | done | rfl | (simp only [List.length_drop, List.length_take]; rfl)) ?_; (with_reducible refine (fuzzysearch_noopTransformer.calls  t192 _ A3.out).mono ?_); rintro e w' ⟨rfl, ⟨nd, rfl⟩⟩; refine ⟨_, rfl, ?_⟩) | ((with_reducible refine gate_callee (f := 45) rfl ?_); refine goesL_ (some 8) rfl rfl Tryd.func45 (by kernel_rfl) rfl #[.string a0, .string a1, .bool t192] rfl (by (try simp only [List.map_toArray, List.map_cons, List.map_nil]); first | done | rfl | (simp only [List.length_drop, List.length_take]; rfl)) ?_; (with_reducible refine (fuzzysearch_match.calls a0 a1 t192 t193 _ (by first | (with_reducible exact HAMB.out) | exact Amb.below HAMB.out (by repeat (first | (with_reducible first | exact HB.out | apply below_alloc | apply pw_below_drewN | apply below_drew1) | exact HB.out)) | exact Amb.below HAMB.out (by repeat (first | (with_reducible first | exact Below.refl _ _ | apply pw_below_drewN | apply below_drew1 | apply below_alloc)))) A4.out).mono ?_); rintro e w5 ⟨rfl, hb⟩; refine ⟨_, rfl, ?_⟩; have n0_ := Aside0.mk (below_step (by repeat (first | (with_reducible first | exact HB.out | apply below_alloc | apply pw_below_drewN | apply below_drew1) | exact HB.out)) hb); clear HB; have HB := n0_; clear n0_; (try clear hb); (try clear hb2); (try clear hk); (try clear hi)))
  go_ret
  exact ⟨by first | rfl | (simp [errW_none, errW_some] <;> rfl) | (simp [*, errW_none, errW_some] <;> rfl), by repeat (first | (with_reducible first | exact HB.out | apply below_alloc | apply pw_below_drewN | apply below_drew1) | exact HB.out)⟩

/-! ### impl_Match: function 15 -/
def impl_Match.f (k : Nat) (a0 : Bool) (a1 : Bool) (a2 : ByteArray) (a3 : ByteArray) : Option (Bool) := (impl_areTexts.f k a1 a2 (([a3] : List ByteArray))).bind fun t197 => (if t197 = true then (if a0 = true then ((fuzzysearch_MatchFold.f a2 a3).bind fun t198 => (some t198)) else ((fuzzysearch_Match.f a2 a3).bind fun t199 => (some t199))) else (some false))
theorem impl_Match.mono : ∀ a0 a1 a2 a3 k, LeO (impl_Match.f k a0 a1 a2 a3) (impl_Match.f (k + 1) a0 a1 a2 a3) := by
  intro a0 a1 a2 a3 k
  unfold impl_Match.f
  repeat' first
      | (with_reducible exact impl_areTexts.mono _ _ _ _)
      | (with_reducible exact LeO.refl _)
      | (with_reducible exact LeO.none _)
      | (with_reducible refine LeO.ite ?_ ?_)
      | (with_reducible refine LeO.bind ?_ (fun _ => ?_))
      | exact impl_areTexts.mono _ _ _ _
      | exact LeO.none _
      | refine LeO.ite ?_ ?_
      | refine LeO.bind ?_ (fun _ => ?_)
set_option maxHeartbeats 8000000 in
set_option maxRecDepth 100000 in
theorem impl_Match.calls (k : Nat) (a0 : Bool) (a1 : Bool) (a2 : ByteArray) (a3 : ByteArray) (r : Bool) (w : World) (hA_ : Amb w) (h : impl_Match.f k a0 a1 a2 a3 = some r) :
    Calls Tryd.prog 15 #[.bool a0, .bool a1, .string a2, .string a3] w fun e w' => e = .returned (.bool r) ∧ Below w.heap.size w w' := by
  have HAMB := Aside0.mk hA_
  clear hA_
  have HB := Aside0.mk (Below.refl w.heap.size w)
  have H : ((impl_areTexts.f k a1 a2 (([a3] : List ByteArray))).bind fun t197 => (if t197 = true then (if a0 = true then ((fuzzysearch_MatchFold.f a2 a3).bind fun t198 => (some t198)) else ((fuzzysearch_Match.f a2 a3).bind fun t199 => (some t199))) else (some false))) = some r := h
  clear h
  obtain ⟨y194, hy194⟩ : ∃ y_ : List ByteArray, y_ = (([a3] : List ByteArray)) := ⟨_, rfl⟩
  replace H : ((impl_areTexts.f k a1 a2 y194).bind fun t197 => (if t197 = true then (if a0 = true then ((fuzzysearch_MatchFold.f a2 a3).bind fun t198 => (some t198)) else ((fuzzysearch_Match.f a2 a3).bind fun t199 => (some t199))) else (some false))) = some r := by first | (rw [hy194]; with_reducible exact H) | (have H2_ := (Option.bind_some _ _).symm.trans H; rw [hy194]; with_reducible exact H2_) | (have H2_ := (Option.bind_some _ _).symm.trans H; with_reducible exact H2_) | with_reducible exact H | (rw [hy194]; exact H) | exact H
  have Ny194 := Aside0.mk hy194
  clear hy194
  replace H := Option.bind_eq_some_iff.mp H
  obtain ⟨t197, A50, H⟩ := H
  replace H : (if t197 = true then (if a0 = true then ((fuzzysearch_MatchFold.f a2 a3).bind fun t198 => (some t198)) else ((fuzzysearch_Match.f a2 a3).bind fun t199 => (some t199))) else (some false)) = some r := H
  have A5 := Aside0.mk A50
  clear A50
  by_cases c6 : t197 = true
  · subst c6
    have H1 : (if a0 = true then ((fuzzysearch_MatchFold.f a2 a3).bind fun t198 => (some t198)) else ((fuzzysearch_Match.f a2 a3).bind fun t199 => (some t199))) = some r := by rw [if_pos rfl] at H; exact H
    clear H
    have H := H1
    clear H1
    by_cases c7 : a0 = true
    · subst c7
      have H1 : ((fuzzysearch_MatchFold.f a2 a3).bind fun t198 => (some t198)) = some r := by rw [if_pos rfl] at H; exact H
      clear H
      have H := H1
      clear H1
      replace H := Option.bind_eq_some_iff.mp H
      obtain ⟨t198, A80, H⟩ := H
      replace H : (some t198) = some r := H
      have A8 := Aside0.mk A80
      clear A80
      obtain rfl := Option.some.inj H
      go_enter Tryd.func15, Tryd.ntmps15
      go_wp2_with (first | ((with_reducible refine gate_dst (N := 12) rfl ?_); refine Kd.R_lit Kd.string _ 9 ?hg (N := 12) ?hd (xs := ([a3] : List ByteArray)) (inner := [.string a3]) (ok := fun _ => True) (okp := fun _ => True) ?hr ?hp (fun _ hk => hk) trivial (Below.refl _ _) (Nat.le_refl _) (by simp) ?_; (case hd => rfl); (case hg => rfl); (case hr => first | (go_simp; done) | (go_simp; rfl)); (case hp => exact (Reps.one (show Kd.M Kd.string _ _ _ a3 [.string a3] from rfl) (Reps.none _ _))); intro v195 w9 ho10 hb hg_ hnew_; clear hg_ hnew_; (first | rw [← Ny194.out] at ho10 | (simp only [Int.reduceToNat] at ho10; rw [← Ny194.out] at ho10)); have n0_ := Aside0.mk (Kd.R_lower ho10 (below_size (by repeat (first | (with_reducible first | exact HB.out | apply below_alloc | apply pw_below_drewN | apply below_drew1) | exact HB.out)))); have n1_ := Aside0.mk (below_step (by repeat (first | (with_reducible first | exact HB.out | apply below_alloc | apply pw_below_drewN | apply below_drew1) | exact HB.out)) hb); clear HB; have HO196 := n0_; have HB := n1_; clear n0_ n1_; clear hb ho10; obtain ⟨Ao11, co11, eo11⟩ := Kd.R_slice HO196.out; subst eo11) | ((with_reducible refine gate_callee (f := 31) rfl ?_); refine goesL_ (some 13) rfl rfl Tryd.func31 (by kernel_rfl) rfl #[.bool a1, .string a2, .slice Ao11 y194.length co11] rfl (by (try simp only [List.map_toArray, List.map_cons, List.map_nil]); first | done | rfl | (simp only [List.length_drop, List.length_take]; rfl)) ?_; (with_reducible refine (impl_areTexts.calls k a1 a2 _ _ y194 true _ ?side1 ?side2 A5.out).mono ?_); (case side1 => repeat (first | exact (Kd.R_reads' HO196.out).2.2 | (with_reducible refine Kd.C_alloc ?_ _) | (with_reducible refine Kd.C_drewN ?_ _) | (with_reducible refine Kd.C_drew ?_))); (case side2 => exact (Kd.R_reads' HO196.out).2.1); rintro e w12 ⟨rfl, hb⟩; refine ⟨_, rfl, ?_⟩; have n0_ := Aside0.mk (Kd.R_below (by (with_reducible repeat (first | apply Kd.R_alloc | apply Kd.R_drewN | apply Kd.R_drew)); exact HO196.out) hb); have n1_ := Aside0.mk (below_step (by repeat (first | (with_reducible first | exact HB.out | apply below_alloc | apply pw_below_drewN | apply below_drew1) | exact HB.out)) hb); clear HO196; clear HB; have HO196 := n0_; have HB := n1_; clear n0_ n1_; (try clear hb); (try clear hb2); (try clear hk); (try clear hi)) | ((with_reducible refine gate_callee (f := 32) rfl ?_); refine goesL_ (some 18) rfl rfl Tryd.func32 (by kernel_rfl) rfl #[.string a2, .string a3] rfl (by (try simp only [List.map_toArray, List.map_cons, List.map_nil]); first | done | rfl | (simp only [List.length_drop, List.length_take]; rfl)) ?_; (with_reducible refine (fuzzysearch_MatchFold.calls a2 a3 t198 _ (by first | (with_reducible exact HAMB.out) | exact Amb.below HAMB.out (by repeat (first | (with_reducible first | exact HB.out | apply below_alloc | apply pw_below_drewN | apply below_drew1) | exact HB.out)) | exact Amb.below HAMB.out (by repeat (first | (with_reducible first | exact Below.refl _ _ | apply pw_below_drewN | apply below_drew1 | apply below_alloc)))) A8.out).mono ?_); rintro e w13 ⟨rfl, hb⟩; refine ⟨_, rfl, ?_⟩; have n0_ := Aside0.mk (Kd.R_below (by (with_reducible repeat (first | apply Kd.R_alloc | apply Kd.R_drewN | apply Kd.R_drew)); exact HO196.out) hb); have n1_ := Aside0.mk (below_step (by repeat (first | (with_reducible first | exact HB.out | apply below_alloc | apply pw_below_drewN | apply below_drew1) | exact HB.out)) hb); clear HO196; clear HB; have HO196 := n0_; have HB := n1_; clear n0_ n1_; (try clear hb); (try clear hb2); (try clear hk); (try clear hi)))
      go_ret
      exact ⟨by first | rfl | (simp [errW_none, errW_some] <;> rfl) | (simp [*, errW_none, errW_some] <;> rfl), by repeat (first | (with_reducible first | exact HB.out | apply below_alloc | apply pw_below_drewN | apply below_drew1) | exact HB.out)⟩
    · replace c7 := Bool.eq_false_iff.mpr c7
      subst c7
      have H1 : ((fuzzysearch_Match.f a2 a3).bind fun t199 => (some t199)) = some r := by rw [if_neg (show ¬ (false = true) by decide)] at H; exact H
      clear H
      have H := H1
      clear H1
      replace H := Option.bind_eq_some_iff.mp H
      obtain ⟨t199, A140, H⟩ := H
      replace H : (some t199) = some r := H
      have A14 := Aside0.mk A140
      clear A140
      obtain rfl := Option.some.inj H
      go_enter Tryd.func15, Tryd.ntmps15
      go_wp2_with (first | ((with_reducible refine gate_dst (N := 12) rfl ?_); refine Kd.R_lit Kd.string _ 9 ?hg (N := 12) ?hd (xs := ([a3] : List ByteArray)) (inner := [.string a3]) (ok := fun _ => True) (okp := fun _ => True) ?hr ?hp (fun _ hk => hk) trivial (Below.refl _ _) (Nat.le_refl _) (by simp) ?_; (case hd => rfl); (case hg => rfl); (case hr => first | (go_simp; done) | (go_simp; rfl)); (case hp => exact (Reps.one (show Kd.M Kd.string _ _ _ a3 [.string a3] from rfl) (Reps.none _ _))); intro v195 w15 ho16 hb hg_ hnew_; clear hg_ hnew_; (first | rw [← Ny194.out] at ho16 | (simp only [Int.reduceToNat] at ho16; rw [← Ny194.out] at ho16)); have n0_ := Aside0.mk (Kd.R_lower ho16 (below_size (by repeat (first | (with_reducible first | exact HB.out | apply below_alloc | apply pw_below_drewN | apply below_drew1) | exact HB.out)))); have n1_ := Aside0.mk (below_step (by repeat (first | (with_reducible first | exact HB.out | apply below_alloc | apply pw_below_drewN | apply below_drew1) | exact HB.out)) hb); clear HB; have HO196 := n0_; have HB := n1_; clear n0_ n1_; clear hb ho16; obtain ⟨Ao17, co17, eo17⟩ := Kd.R_slice HO196.out; subst eo17) | ((with_reducible refine gate_callee (f := 31) rfl ?_); refine goesL_ (some 13) rfl rfl Tryd.func31 (by kernel_rfl) rfl #[.bool a1, .string a2, .slice Ao17 y194.length co17] rfl (by (try simp only [List.map_toArray, List.map_cons, List.map_nil]); first | done | rfl | (simp only [List.length_drop, List.length_take]; rfl)) ?_; (with_reducible refine (impl_areTexts.calls k a1 a2 _ _ y194 true _ ?side1 ?side2 A5.out).mono ?_); (case side1 => repeat (first | exact (Kd.R_reads' HO196.out).2.2 | (with_reducible refine Kd.C_alloc ?_ _) | (with_reducible refine Kd.C_drewN ?_ _) | (with_reducible refine Kd.C_drew ?_))); (case side2 => exact (Kd.R_reads' HO196.out).2.1); rintro e w18 ⟨rfl, hb⟩; refine ⟨_, rfl, ?_⟩; have n0_ := Aside0.mk (Kd.R_below (by (with_reducible repeat (first | apply Kd.R_alloc | apply Kd.R_drewN | apply Kd.R_drew)); exact HO196.out) hb); have n1_ := Aside0.mk (below_step (by repeat (first | (with_reducible first | exact HB.out | apply below_alloc | apply pw_below_drewN | apply below_drew1) | exact HB.out)) hb); clear HO196; clear HB; have HO196 := n0_; have HB := n1_; clear n0_ n1_; (try clear hb); (try clear hb2); (try clear hk); (try clear hi)) | ((with_reducible refine gate_callee (f := 33) rfl ?_); refine goesL_ (some 21) rfl rfl Tryd.func33 (by kernel_rfl) rfl #[.string a2, .string a3] rfl (by (try simp only [List.map_toArray, List.map_cons, List.map_nil]); first | done | rfl | (simp only [List.length_drop, List.length_take]; rfl)) ?_; (with_reducible refine (fuzzysearch_Match.calls a2 a3 t199 _ (by first | (with_reducible exact HAMB.out) | exact Amb.below HAMB.out (by repeat (first | (with_reducible first | exact HB.out | apply below_alloc | apply pw_below_drewN | apply below_drew1) | exact HB.out)) | exact Amb.below HAMB.out (by repeat (first | (with_reducible first | exact Below.refl _ _ | apply pw_below_drewN | apply below_drew1 | apply below_alloc)))) A14.out).mono ?_); rintro e w19 ⟨rfl, hb⟩; refine ⟨_, rfl, ?_⟩; have n0_ := Aside0.mk (Kd.R_below (by (with_reducible repeat (first | apply Kd.R_alloc | apply Kd.R_drewN | apply Kd.R_drew)); exact HO196.out) hb); have n1_ := Aside0.mk (below_step (by repeat (first | (with_reducible first | exact HB.out | apply below_alloc | apply pw_below_drewN | apply below_drew1) | exact HB.out)) hb); clear HO196; clear HB; have HO196 := n0_; have HB := n1_; clear n0_ n1_; (try clear hb); (try clear hb2); (try clear hk); (try clear hi)))
      go_ret
      exact ⟨by first | rfl | (simp [errW_none, errW_some] <;> rfl) | (simp [*, errW_none, errW_some] <;> rfl), by repeat (first | (with_reducible first | exact HB.out | apply below_alloc | apply pw_below_drewN | apply below_drew1) | exact HB.out)⟩
  · replace c6 := Bool.eq_false_iff.mpr c6
    subst c6
    have H1 : (some false) = some r := by rw [if_neg (show ¬ (false = true) by decide)] at H; exact H
    clear H
    have H := H1
    clear H1
    obtain rfl := Option.some.inj H
    go_enter Tryd.func15, Tryd.ntmps15
    go_wp2_with (first | ((with_reducible refine gate_dst (N := 12) rfl ?_); refine Kd.R_lit Kd.string _ 9 ?hg (N := 12) ?hd (xs := ([a3] : List ByteArray)) (inner := [.string a3]) (ok := fun _ => True) (okp := fun _ => True) ?hr ?hp (fun _ hk => hk) trivial (Below.refl _ _) (Nat.le_refl _) (by simp) ?_; (case hd => rfl); (case hg => rfl); (case hr => first | (go_simp; done) | (go_simp; rfl)); (case hp => exact (Reps.one (show Kd.M Kd.string _ _ _ a3 [.string a3] from rfl) (Reps.none _ _))); intro v195 w20 ho21 hb hg_ hnew_; clear hg_ hnew_; (first | rw [← Ny194.out] at ho21 | (simp only [Int.reduceToNat] at ho21; rw [← Ny194.out] at ho21)); have n0_ := Aside0.mk (Kd.R_lower ho21 (below_size (by repeat (first | (with_reducible first | exact HB.out | apply below_alloc | apply pw_below_drewN | apply below_drew1) | exact HB.out)))); have n1_ := Aside0.mk (below_step (by repeat (first | (with_reducible first | exact HB.out | apply below_alloc | apply pw_below_drewN | apply below_drew1) | exact HB.out)) hb); clear HB; have HO196 := n0_; have HB := n1_; clear n0_ n1_; clear hb ho21; obtain ⟨Ao22, co22, eo22⟩ := Kd.R_slice HO196.out; subst eo22) | ((with_reducible refine gate_callee (f := 31) rfl ?_); refine goesL_ (some 13) rfl rfl Tryd.func31 (by kernel_rfl) rfl #[.bool a1, .string a2, .slice Ao22 y194.length co22] rfl (by (try simp only [List.map_toArray, List.map_cons, List.map_nil]); first | done | rfl | (simp only [List.length_drop, List.length_take]; rfl)) ?_; (with_reducible refine (impl_areTexts.calls k a1 a2 _ _ y194 false _ ?side1 ?side2 A5.out).mono ?_); (case side1 => repeat (first | exact (Kd.R_reads' HO196.out).2.2 | (with_reducible refine Kd.C_alloc ?_ _) | (with_reducible refine Kd.C_drewN ?_ _) | (with_reducible refine Kd.C_drew ?_))); (case side2 => exact (Kd.R_reads' HO196.out).2.1); rintro e w23 ⟨rfl, hb⟩; refine ⟨_, rfl, ?_⟩; have n0_ := Aside0.mk (Kd.R_below (by (with_reducible repeat (first | apply Kd.R_alloc | apply Kd.R_drewN | apply Kd.R_drew)); exact HO196.out) hb); have n1_ := Aside0.mk (below_step (by repeat (first | (with_reducible first | exact HB.out | apply below_alloc | apply pw_below_drewN | apply below_drew1) | exact HB.out)) hb); clear HO196; clear HB; have HO196 := n0_; have HB := n1_; clear n0_ n1_; (try clear hb); (try clear hb2); (try clear hk); (try clear hi)))
    go_ret
    exact ⟨by first | rfl | (simp [errW_none, errW_some] <;> rfl) | (simp [*, errW_none, errW_some] <;> rfl), by repeat (first | (with_reducible first | exact HB.out | apply below_alloc | apply pw_below_drewN | apply below_drew1) | exact HB.out)⟩

end Go.Proofs.YtfkemfkleceeiaaDoor.P
namespace Go.Proofs.YtfkemfkleceeiaaDoor.P
open Go.RowKit Go.Proofs.YtfkemfkleceeiaaDoorW.PrintWords Go.Proofs.YtfkemfkleceeiaaDoorW.PrintLast Go.Proofs.YtfkemfkleceeiaaDoorW.PrintMore
attribute [local go_sem] max2_int min2_int max_two min_two max_three min_three max_four min_four   -- for this text's walks alone
set_option linter.unusedVariables false
set_option linter.unusedSimpArgs false

/-! ### spec_follows: function 34 -/
mutual
def spec_follows.l0 : Nat → List Int → List Int → Int → Int → Option (Bool)
  | 0, _, _, _, _ => none
  | k + 1, x0, x1, x5, x6 => if x6 < (x1.length : Int) then (spec_follows.j1 k x0 x1 x5 x6 (decide (x5 < (x0.length : Int)))) else (spec_follows.j1 k x0 x1 x5 x6 false)
def spec_follows.j1 : Nat → List Int → List Int → Int → Int → Bool → Option (Bool)
  | 0, _, _, _, _, _ => none
  | k + 1, x0, x1, x5, x6, x16 => if x16 = true then (if 0 ≤ x6 then (if x6 < (x1.length : Int) then (if 0 ≤ x5 then (if x5 < (x0.length : Int) then (if (rd x1 x6) = (rd x0 x5) then (spec_follows.l0 k x0 x1 (wrap64 (x5 + 1)) (wrap64 (x6 + 1))) else (spec_follows.l0 k x0 x1 x5 (wrap64 (x6 + 1)))) else (none)) else (none)) else (none)) else (none)) else (some (x5 == (x0.length : Int)))
end
def spec_follows.f (k : Nat) (l0 : List Int) (l1 : List Int) : Option (Bool) := spec_follows.l0 k l0 l1 0 0
theorem spec_follows.mono_l : ∀ k, (∀ y0 y1 y2 y3, LeO (spec_follows.l0 k y0 y1 y2 y3) (spec_follows.l0 (k + 1) y0 y1 y2 y3)) ∧ (∀ y0 y1 y2 y3 y4, LeO (spec_follows.j1 k y0 y1 y2 y3 y4) (spec_follows.j1 (k + 1) y0 y1 y2 y3 y4))
  | 0 => ⟨fun _ _ _ _ r h => by simp [spec_follows.l0] at h, fun _ _ _ _ _ r h => by simp [spec_follows.j1] at h⟩
  | k + 1 => by
    obtain ⟨ih0, ih1⟩ := spec_follows.mono_l k
    refine ⟨?_, ?_⟩
    · intro y0 y1 y2 y3
      unfold spec_follows.l0
      repeat' first
      | (with_reducible exact ih0 _ _ _ _)
      | (with_reducible exact ih1 _ _ _ _ _)
      | (with_reducible exact LeO.refl _)
      | (with_reducible exact LeO.none _)
      | (with_reducible refine LeO.ite ?_ ?_)
      | (with_reducible refine LeO.bind ?_ (fun _ => ?_))
      | exact ih0 _ _ _ _
      | exact ih1 _ _ _ _ _
      | exact LeO.none _
      | refine LeO.ite ?_ ?_
      | refine LeO.bind ?_ (fun _ => ?_)
    · intro y0 y1 y2 y3 y4
      unfold spec_follows.j1
      repeat' first
      | (with_reducible exact ih0 _ _ _ _)
      | (with_reducible exact ih1 _ _ _ _ _)
      | (with_reducible exact LeO.refl _)
      | (with_reducible exact LeO.none _)
      | (with_reducible refine LeO.ite ?_ ?_)
      | (with_reducible refine LeO.bind ?_ (fun _ => ?_))
      | exact ih0 _ _ _ _
      | exact ih1 _ _ _ _ _
      | exact LeO.none _
      | refine LeO.ite ?_ ?_
      | refine LeO.bind ?_ (fun _ => ?_)
theorem spec_follows.mono : ∀ a0 a1 k, LeO (spec_follows.f k a0 a1) (spec_follows.f (k + 1) a0 a1) := by
  intro a0 a1 k
  obtain ⟨ih0, ih1⟩ := spec_follows.mono_l k
  unfold spec_follows.f
  repeat' first
      | (with_reducible exact ih0 _ _ _ _)
      | (with_reducible exact ih1 _ _ _ _ _)
      | (with_reducible exact LeO.refl _)
      | (with_reducible exact LeO.none _)
      | (with_reducible refine LeO.ite ?_ ?_)
      | (with_reducible refine LeO.bind ?_ (fun _ => ?_))
      | exact ih0 _ _ _ _
      | exact ih1 _ _ _ _ _
      | exact LeO.none _
      | refine LeO.ite ?_ ?_
      | refine LeO.bind ?_ (fun _ => ?_)
set_option maxHeartbeats 8000000 in
set_option maxRecDepth 100000 in
theorem spec_follows.calls (k : Nat) (A0 : Option Addr) (c0 : Nat) (l0 : List Int) (A1 : Option Addr) (c1 : Nat) (l1 : List Int) (r : Bool) (w : World) (hr0 : Kd.C (Kd.int .i32) w A0 l0.length l0) (hc0 : l0.length ≤ c0) (hr1 : Kd.C (Kd.int .i32) w A1 l1.length l1) (hc1 : l1.length ≤ c1) (h : spec_follows.f k l0 l1 = some r) :
    Calls Tryd.prog 34 #[.slice A0 l0.length c0, .slice A1 l1.length c1] w fun e w' => e = .returned (.bool r) ∧ Drawn0 w w' := by
  have HR0 := Aside0.mk hr0
  have HC0 := Aside0.mk hc0
  clear hr0 hc0
  have HR1 := Aside0.mk hr1
  have HC1 := Aside0.mk hc1
  clear hr1 hc1
  have H : (spec_follows.l0 k l0 l1 0 0) = some r := h
  clear h
  have H' := Aside0.mk H
  clear H
  go_enter Tryd.func34, Tryd.ntmps34
  go_wp2
  repeat (go_quiet (fail); try go_wp2)
  go_loopg [5, 6] k (fun kq v5 v6 w' => ∃ (x5_1 : Int) (x6_1 : Int), v5 = .int .i64 x5_1 ∧ v6 = .int .i64 x6_1 ∧ Aside0 (spec_follows.l0 kq l0 l1 x5_1 x6_1 = some r) ∧ Aside0 (kq ≤ k) ∧ Drawn0 w w')
  case atStart => exact ⟨(0), (0), (by first | rfl | (simp; done) | (simp [*]; done)), (by first | rfl | (simp; done) | (simp [*]; done)), H', ⟨Nat.le_refl _⟩, by repeat (first | exact Drawn0.refl _ | apply Drawn0.step)⟩
  case round =>
    clear H'
    try clear c1
    try clear p2
    obtain ⟨x5_1, x6_1, rfl, rfl, HA, HK1, ⟨m1, rfl⟩⟩ := hrel
    cases gk with
    | zero => exact absurd HA.out (by simp [spec_follows.l0])
    | succ k1 =>
      have H := HA.out
      clear HA
      simp only [spec_follows.l0] at H
      have HC3 := Aside0.mk H
      clear H
      go_upto_region 3 with (fail)
      repeat (go_quiet (fail); go_upto_region 3 with (fail))
      go_cut [16] (fun v16 wc => ∃ (kq : Nat) (x16_2 : Bool), v16 = .bool x16_2 ∧ Aside0 (spec_follows.j1 kq l0 l1 x5_1 x6_1 x16_2 = some r) ∧ Aside0 (kq ≤ k1) ∧ Drawn0 w wc)
      case first =>
        have H := HC3.out
        clear HC3
        by_cases c4 : x6_1 < (l1.length : Int)
        · rw [if_pos c4] at H
          have c4b0 : decide (x6_1 < (l1.length : Int)) = true := decide_eq_true c4
          clear c4
          (first | rw [c4b0] | (simp only [i64_w, i32_w]; rw [c4b0]) | skip)
          have H' := Aside0.mk H
          clear H
          go_wp2
          repeat (go_quiet (fail); try go_wp2)
          go_meet
          case rel => exact ⟨_, (decide (x5_1 < (l0.length : Int))), (by first | rfl | (simp; done) | (simp [*]; done)), H', ⟨by have := HK1.out; first | omega | exact Nat.le_refl _⟩, by repeat (first | exact Drawn0.refl _ | apply Drawn0.step)⟩
        · rw [if_neg c4] at H
          have c4b0 : decide (x6_1 < (l1.length : Int)) = false := decide_eq_false c4
          clear c4
          (first | rw [c4b0] | (simp only [i64_w, i32_w]; rw [c4b0]) | skip)
          have H' := Aside0.mk H
          clear H
          go_wp2
          repeat (go_quiet (fail); try go_wp2)
          go_meet
          case rel => exact ⟨_, (false), (by first | rfl | (simp; done) | (simp [*]; done)), H', ⟨by have := HK1.out; first | omega | exact Nat.le_refl _⟩, by repeat (first | exact Drawn0.refl _ | apply Drawn0.step)⟩
      case rest =>
        clear HC3
        try clear c1
        try clear p2
        try clear c3
        try clear c4
        try clear c4b0
        try clear p2
        obtain ⟨kq, x16_2, rfl, HA, HJ2, ⟨mc2, rfl⟩⟩ := hcut
        cases kq with
        | zero => exact absurd HA.out (by simp [spec_follows.j1])
        | succ kj2 =>
          have H := HA.out
          clear HA
          simp only [spec_follows.j1] at H
          by_cases c5 : x16_2 = true
          · subst c5
            have H1 : (if 0 ≤ x6_1 then (if x6_1 < (l1.length : Int) then (if 0 ≤ x5_1 then (if x5_1 < (l0.length : Int) then (if (rd l1 x6_1) = (rd l0 x5_1) then (spec_follows.l0 kj2 l0 l1 (wrap64 (x5_1 + 1)) (wrap64 (x6_1 + 1))) else (spec_follows.l0 kj2 l0 l1 x5_1 (wrap64 (x6_1 + 1)))) else (none)) else (none)) else (none)) else (none)) = some r := by rw [if_pos rfl] at H; exact H
            clear H
            have H := H1
            clear H1
            by_cases c6 : 0 ≤ x6_1
            · rw [if_pos c6] at H
              have c6b0 : decide (0 ≤ x6_1) = true := decide_eq_true c6
              clear c6
              by_cases c7 : x6_1 < (l1.length : Int)
              · rw [if_pos c7] at H
                have c7b0 : decide (x6_1 < (l1.length : Int)) = true := decide_eq_true c7
                clear c7
                by_cases c8 : 0 ≤ x5_1
                · rw [if_pos c8] at H
                  have c8b0 : decide (0 ≤ x5_1) = true := decide_eq_true c8
                  clear c8
                  by_cases c9 : x5_1 < (l0.length : Int)
                  · rw [if_pos c9] at H
                    have c9b0 : decide (x5_1 < (l0.length : Int)) = true := decide_eq_true c9
                    clear c9
                    by_cases c10 : (rd l1 x6_1) = (rd l0 x5_1)
                    · rw [if_pos c10] at H
                      have c10b0 : ((rd l1 x6_1) == (rd l0 x5_1)) = true := beq_iff_eq.mpr c10
                      have c10b1 : ((rd l1 x6_1) != (rd l0 x5_1)) = false := bne_eq_false_iff_eq.mpr c10
                      clear c10
                      have H' := Aside0.mk H
                      clear H
                      have p200 : 0 ≤ (x6_1 : Int) := of_decide_eq_true (by first | (with_reducible assumption) | assumption)
                      have q200 : x6_1 < (l1.length : Int) := of_decide_eq_true (by first | (with_reducible assumption) | assumption)
                      obtain ⟨ad200, e200, hx200_0⟩ := Kd.at_int HR1.out x6_1 p200 q200
                      cases e200
                      replace p200 := eq_true p200
                      replace q200 := eq_true q200
                      have p201 : 0 ≤ (x5_1 : Int) := of_decide_eq_true (by first | (with_reducible assumption) | assumption)
                      have q201 : x5_1 < (l0.length : Int) := of_decide_eq_true (by first | (with_reducible assumption) | assumption)
                      obtain ⟨ad201, e201, hx201_0⟩ := Kd.at_int HR0.out x5_1 p201 q201
                      cases e201
                      replace p201 := eq_true p201
                      replace q201 := eq_true q201
                      go_wp2
                      repeat (go_quiet (fail); try go_wp2)
                      go_roundg kj2
                      case measure => have := HK1.out; have := HJ2.out; omega
                      case rel => exact ⟨(wrap64 (x5_1 + 1)), (wrap64 (x6_1 + 1)), (by first | rfl | (simp; done) | (simp [*]; done)), (by first | rfl | (simp; done) | (simp [*]; done)), H', ⟨by have := HK1.out; have := HJ2.out; omega⟩, by repeat (first | exact Drawn0.refl _ | apply Drawn0.step)⟩
                    · rw [if_neg c10] at H
                      have c10b0 : ((rd l1 x6_1) == (rd l0 x5_1)) = false := beq_eq_false_iff_ne.mpr c10
                      have c10b1 : ((rd l1 x6_1) != (rd l0 x5_1)) = true := bne_iff_ne.mpr c10
                      have H' := Aside0.mk H
                      clear H
                      have p200 : 0 ≤ (x6_1 : Int) := of_decide_eq_true (by first | (with_reducible assumption) | assumption)
                      have q200 : x6_1 < (l1.length : Int) := of_decide_eq_true (by first | (with_reducible assumption) | assumption)
                      obtain ⟨ad200, e200, hx200_0⟩ := Kd.at_int HR1.out x6_1 p200 q200
                      cases e200
                      replace p200 := eq_true p200
                      replace q200 := eq_true q200
                      have p201 : 0 ≤ (x5_1 : Int) := of_decide_eq_true (by first | (with_reducible assumption) | assumption)
                      have q201 : x5_1 < (l0.length : Int) := of_decide_eq_true (by first | (with_reducible assumption) | assumption)
                      obtain ⟨ad201, e201, hx201_0⟩ := Kd.at_int HR0.out x5_1 p201 q201
                      cases e201
                      replace p201 := eq_true p201
                      replace q201 := eq_true q201
                      go_wp2
                      repeat (go_quiet (fail); try go_wp2)
                      go_roundg kj2
                      case measure => have := HK1.out; have := HJ2.out; omega
                      case rel => exact ⟨(x5_1), (wrap64 (x6_1 + 1)), (by first | rfl | (simp; done) | (simp [*]; done)), (by first | rfl | (simp; done) | (simp [*]; done)), H', ⟨by have := HK1.out; have := HJ2.out; omega⟩, by repeat (first | exact Drawn0.refl _ | apply Drawn0.step)⟩
                  · rw [if_neg c9] at H
                    exact absurd H (by simp)
                · rw [if_neg c8] at H
                  exact absurd H (by simp)
              · rw [if_neg c7] at H
                exact absurd H (by simp)
            · rw [if_neg c6] at H
              exact absurd H (by simp)
          · replace c5 := Bool.eq_false_iff.mpr c5
            subst c5
            have H1 : (some (x5_1 == (l0.length : Int))) = some r := by rw [if_neg (show ¬ (false = true) by decide)] at H; exact H
            clear H
            have H := H1
            clear H1
            obtain rfl := Option.some.inj H
            go_wp2
            repeat (go_quiet (fail); try go_wp2)
            go_ret
            exact ⟨by first | rfl | (simp; done) | (simp [*]; done), by repeat (first | exact Drawn0.refl _ | apply Drawn0.step)⟩

/-! ### spec_Match: function 16 -/
def spec_Match.f (k : Nat) (a0 : Bool) (a1 : ByteArray) (a2 : ByteArray) : Option (Bool) := (spec_runesOf.f a1 a0).bind fun t202 => ((spec_runesOf.f a2 a0).bind fun t205 => ((spec_follows.f k t202 t205).bind fun t208 => (some t208)))
theorem spec_Match.mono : ∀ a0 a1 a2 k, LeO (spec_Match.f k a0 a1 a2) (spec_Match.f (k + 1) a0 a1 a2) := by
  intro a0 a1 a2 k
  unfold spec_Match.f
  repeat' first
      | (with_reducible exact spec_follows.mono _ _ _)
      | (with_reducible exact LeO.refl _)
      | (with_reducible exact LeO.none _)
      | (with_reducible refine LeO.ite ?_ ?_)
      | (with_reducible refine LeO.bind ?_ (fun _ => ?_))
      | exact spec_follows.mono _ _ _
      | exact LeO.none _
      | refine LeO.ite ?_ ?_
      | refine LeO.bind ?_ (fun _ => ?_)
set_option maxHeartbeats 8000000 in
set_option maxRecDepth 100000 in
theorem spec_Match.calls (k : Nat) (a0 : Bool) (a1 : ByteArray) (a2 : ByteArray) (r : Bool) (w : World) (hA_ : Amb w) (h : spec_Match.f k a0 a1 a2 = some r) :
    Calls Tryd.prog 16 #[.bool a0, .string a1, .string a2] w fun e w' => e = .returned (.bool r) ∧ Below w.heap.size w w' := by
  have HAMB := Aside0.mk hA_
  clear hA_
  have HB := Aside0.mk (Below.refl w.heap.size w)
  have H : ((spec_runesOf.f a1 a0).bind fun t202 => ((spec_runesOf.f a2 a0).bind fun t205 => ((spec_follows.f k t202 t205).bind fun t208 => (some t208)))) = some r := h
  clear h
  replace H := Option.bind_eq_some_iff.mp H
  obtain ⟨t202, A40, H⟩ := H
  replace H : ((spec_runesOf.f a2 a0).bind fun t205 => ((spec_follows.f k t202 t205).bind fun t208 => (some t208))) = some r := H
  have A4 := Aside0.mk A40
  clear A40
  replace H := Option.bind_eq_some_iff.mp H
  obtain ⟨t205, A50, H⟩ := H
  replace H : ((spec_follows.f k t202 t205).bind fun t208 => (some t208)) = some r := H
  have A5 := Aside0.mk A50
  clear A50
  replace H := Option.bind_eq_some_iff.mp H
  obtain ⟨t208, A60, H⟩ := H
  replace H : (some t208) = some r := H
  have A6 := Aside0.mk A60
  clear A60
  obtain rfl := Option.some.inj H
  go_enter Tryd.func16, Tryd.ntmps16
  go_wp2_with (first | ((with_reducible refine gate_callee (f := 29) rfl ?_); refine goesL_ (some 9) rfl rfl Tryd.func29 (by kernel_rfl) rfl #[.string a1, .bool a0] rfl (by (try simp only [List.map_toArray, List.map_cons, List.map_nil]); first | done | rfl | (simp only [List.length_drop, List.length_take]; rfl)) ?_; (with_reducible refine (spec_runesOf.calls a1 a0 t202 _ (by first | (with_reducible exact HAMB.out) | exact Amb.below HAMB.out (by repeat (first | (with_reducible first | exact HB.out | apply below_alloc | apply pw_below_drewN | apply below_drew1) | exact HB.out)) | exact Amb.below HAMB.out (by repeat (first | (with_reducible first | exact Below.refl _ _ | apply pw_below_drewN | apply below_drew1 | apply below_alloc)))) A4.out).mono ?_); rintro e w7 ⟨v203, rfl, ho0, hb⟩; refine ⟨_, rfl, ?_⟩; have n0_ := Aside0.mk (Kd.R_lower ho0 (below_size (by repeat (first | (with_reducible first | exact HB.out | apply below_alloc | apply pw_below_drewN | apply below_drew1) | exact HB.out)))); have n1_ := Aside0.mk (below_step (by repeat (first | (with_reducible first | exact HB.out | apply below_alloc | apply pw_below_drewN | apply below_drew1) | exact HB.out)) hb); clear HB; have HO204 := n0_; have HB := n1_; clear n0_ n1_; (try clear hb); (try clear hb2); (try clear hk); (try clear hi); (try clear ho0)) | ((with_reducible refine gate_callee (f := 29) rfl ?_); refine goesL_ (some 12) rfl rfl Tryd.func29 (by kernel_rfl) rfl #[.string a2, .bool a0] rfl (by (try simp only [List.map_toArray, List.map_cons, List.map_nil]); first | done | rfl | (simp only [List.length_drop, List.length_take]; rfl)) ?_; (with_reducible refine (spec_runesOf.calls a2 a0 t205 _ (by first | (with_reducible exact HAMB.out) | exact Amb.below HAMB.out (by repeat (first | (with_reducible first | exact HB.out | apply below_alloc | apply pw_below_drewN | apply below_drew1) | exact HB.out)) | exact Amb.below HAMB.out (by repeat (first | (with_reducible first | exact Below.refl _ _ | apply pw_below_drewN | apply below_drew1 | apply below_alloc)))) A5.out).mono ?_); rintro e w8 ⟨v206, rfl, ho0, hb⟩; refine ⟨_, rfl, ?_⟩; have n0_ := Aside0.mk (Kd.R_elder' (by (with_reducible repeat (first | apply Kd.R_alloc | apply Kd.R_drewN | apply Kd.R_drew)); exact HO204.out) (Kd.R_base ho0) hb); have n1_ := Aside0.mk (Kd.R_lower (Kd.R_new' ho0 (Kd.R_lt (by (with_reducible repeat (first | apply Kd.R_alloc | apply Kd.R_drewN | apply Kd.R_drew)); exact HO204.out))) (below_size (by repeat (first | (with_reducible first | exact HB.out | apply below_alloc | apply pw_below_drewN | apply below_drew1) | exact HB.out)))); have n2_ := Aside0.mk (below_step (by repeat (first | (with_reducible first | exact HB.out | apply below_alloc | apply pw_below_drewN | apply below_drew1) | exact HB.out)) hb); clear HO204; clear HB; have HO204 := n0_; have HO207 := n1_; have HB := n2_; clear n0_ n1_ n2_; (try clear hb); (try clear hb2); (try clear hk); (try clear hi); (try clear ho0); obtain ⟨Ao9, co9, eo9⟩ := Kd.R_slice HO204.out; subst eo9; obtain ⟨Ao10, co10, eo10⟩ := Kd.R_slice HO207.out; subst eo10) | ((with_reducible refine gate_callee (f := 34) rfl ?_); refine goesL_ (some 13) rfl rfl Tryd.func34 (by kernel_rfl) rfl #[.slice Ao9 t202.length co9, .slice Ao10 t205.length co10] rfl (by (try simp only [List.map_toArray, List.map_cons, List.map_nil]); first | done | rfl | (simp only [List.length_drop, List.length_take]; rfl)) ?_; (with_reducible refine (spec_follows.calls k _ _ t202 _ _ t205 t208 _ ?side1 ?side2 ?side3 ?side4 A6.out).mono ?_); (case side1 => repeat (first | exact (Kd.R_reads' HO204.out).2.2 | (with_reducible refine Kd.C_alloc ?_ _) | (with_reducible refine Kd.C_drewN ?_ _) | (with_reducible refine Kd.C_drew ?_))); (case side2 => exact (Kd.R_reads' HO204.out).2.1); (case side3 => repeat (first | exact (Kd.R_reads' HO207.out).2.2 | (with_reducible refine Kd.C_alloc ?_ _) | (with_reducible refine Kd.C_drewN ?_ _) | (with_reducible refine Kd.C_drew ?_))); (case side4 => exact (Kd.R_reads' HO207.out).2.1); rintro e w' ⟨rfl, ⟨nd, rfl⟩⟩; refine ⟨_, rfl, ?_⟩))
  go_ret
  exact ⟨by first | rfl | (simp [errW_none, errW_some] <;> rfl) | (simp [*, errW_none, errW_some] <;> rfl), by repeat (first | (with_reducible first | exact HB.out | apply below_alloc | apply pw_below_drewN | apply below_drew1) | exact HB.out)⟩

/-! ### laws_FnMatch: function 6 -/
def laws_FnMatch.j0 : Nat → Bool → ByteArray → ByteArray → Bool → Option (Bool)
  | 0, _, _, _, _ => none
  | k + 1, x0, x1, x2, x14 => if x14 = true then (some true) else ((spec_AllPlain.f k x1 (([x2] : List ByteArray))).bind fun t212 => (if t212 = true then ((impl_Match.f k x0 false x1 x2).bind fun t213 => ((spec_Match.f k x0 x1 x2).bind fun t214 => (some (t213 == t214)))) else (some true)))
def laws_FnMatch.f (k : Nat) (a0 : Bool) (a1 : ByteArray) (a2 : ByteArray) : Option (Bool) := if (a1.size : Int) > 2147483647 then (laws_FnMatch.j0 k a0 a1 a2 true) else (laws_FnMatch.j0 k a0 a1 a2 (decide ((a2.size : Int) > 2147483647)))
theorem laws_FnMatch.mono_l : ∀ k, (∀ y0 y1 y2 y3, LeO (laws_FnMatch.j0 k y0 y1 y2 y3) (laws_FnMatch.j0 (k + 1) y0 y1 y2 y3))
  | 0 => fun _ _ _ _ r h => by simp [laws_FnMatch.j0] at h
  | k + 1 => by
    have ih0 := laws_FnMatch.mono_l k
    · intro y0 y1 y2 y3
      unfold laws_FnMatch.j0
      repeat' first
      | (with_reducible exact ih0 _ _ _ _)
      | (with_reducible exact impl_Match.mono _ _ _ _ _)
      | (with_reducible exact spec_AllPlain.mono _ _ _)
      | (with_reducible exact spec_Match.mono _ _ _ _)
      | (with_reducible exact LeO.refl _)
      | (with_reducible exact LeO.none _)
      | (with_reducible refine LeO.ite ?_ ?_)
      | (with_reducible refine LeO.bind ?_ (fun _ => ?_))
      | exact ih0 _ _ _ _
      | exact impl_Match.mono _ _ _ _ _
      | exact spec_AllPlain.mono _ _ _
      | exact spec_Match.mono _ _ _ _
      | exact LeO.none _
      | refine LeO.ite ?_ ?_
      | refine LeO.bind ?_ (fun _ => ?_)
theorem laws_FnMatch.mono : ∀ a0 a1 a2 k, LeO (laws_FnMatch.f k a0 a1 a2) (laws_FnMatch.f (k + 1) a0 a1 a2) := by
  intro a0 a1 a2 k
  have ih0 := laws_FnMatch.mono_l k
  unfold laws_FnMatch.f
  repeat' first
      | (with_reducible exact ih0 _ _ _ _)
      | (with_reducible exact impl_Match.mono _ _ _ _ _)
      | (with_reducible exact spec_AllPlain.mono _ _ _)
      | (with_reducible exact spec_Match.mono _ _ _ _)
      | (with_reducible exact LeO.refl _)
      | (with_reducible exact LeO.none _)
      | (with_reducible refine LeO.ite ?_ ?_)
      | (with_reducible refine LeO.bind ?_ (fun _ => ?_))
      | exact ih0 _ _ _ _
      | exact impl_Match.mono _ _ _ _ _
      | exact spec_AllPlain.mono _ _ _
      | exact spec_Match.mono _ _ _ _
      | exact LeO.none _
      | refine LeO.ite ?_ ?_
      | refine LeO.bind ?_ (fun _ => ?_)
set_option maxHeartbeats 8000000 in
set_option maxRecDepth 100000 in
theorem laws_FnMatch.calls (k : Nat) (a0 : Bool) (a1 : ByteArray) (a2 : ByteArray) (r : Bool) (w : World) (hA_ : Amb w) (h : laws_FnMatch.f k a0 a1 a2 = some r) :
    Calls Tryd.prog 6 #[.bool a0, .string a1, .string a2] w fun e w' => e = .returned (.bool r) ∧ Below w.heap.size w w' := by
  have HAMB := Aside0.mk hA_
  clear hA_
  have HB := Aside0.mk (Below.refl w.heap.size w)
  have H : (if (a1.size : Int) > 2147483647 then (laws_FnMatch.j0 k a0 a1 a2 true) else (laws_FnMatch.j0 k a0 a1 a2 (decide ((a2.size : Int) > 2147483647)))) = some r := h
  clear h
  have HC4 := Aside0.mk H
  clear H
  go_enter Tryd.func6, Tryd.ntmps6
  go_upto_region 1 with (fail)
  go_cut [14] (fun v14 wc => ∃ (kq : Nat) (x14_3 : Bool), v14 = .bool x14_3 ∧ Aside0 (laws_FnMatch.j0 kq a0 a1 a2 x14_3 = some r) ∧ Aside0 (kq ≤ k) ∧ Aside0 (Below w.heap.size w wc))
  case first =>
    have H := HC4.out
    clear HC4
    by_cases c5 : (a1.size : Int) > 2147483647
    · rw [if_pos c5] at H
      have c5b0 : decide (2147483647 < (a1.size : Int)) = true := decide_eq_true c5
      have c5b1 : decide (2147483647 < a1.size) = true := decide_eq_true (by omega)
      clear c5
      (first | rw [c5b0] | (simp only [i64_w, i32_w]; rw [c5b0]) | skip)
      have H' := Aside0.mk H
      clear H
      go_wp2
      go_meet
      case rel => exact ⟨_, (true), (by first | rfl | (simp; done) | (simp [*]; done)), H', ⟨by first | omega | exact Nat.le_refl _⟩, ⟨by repeat (first | (with_reducible first | exact HB.out | apply below_alloc | apply pw_below_drewN | apply below_drew1) | exact HB.out)⟩⟩
    · rw [if_neg c5] at H
      have c5b0 : decide (2147483647 < (a1.size : Int)) = false := decide_eq_false c5
      have c5b1 : decide (2147483647 < a1.size) = false := decide_eq_false (by omega)
      clear c5
      (first | rw [c5b0] | (simp only [i64_w, i32_w]; rw [c5b0]) | skip)
      have H' := Aside0.mk H
      clear H
      go_wp2
      go_meet
      case rel => exact ⟨_, (decide ((a2.size : Int) > 2147483647)), (by first | rfl | (simp; done) | (simp [*]; done)), H', ⟨by first | omega | exact Nat.le_refl _⟩, ⟨by repeat (first | (with_reducible first | exact HB.out | apply below_alloc | apply pw_below_drewN | apply below_drew1) | exact HB.out)⟩⟩
  case rest =>
    clear HC4
    try clear p2
    try clear c5
    try clear c5b0
    try clear c5b1
    obtain ⟨kq, x14_3, rfl, HA, HJ3, HB⟩ := hcut
    cases kq with
    | zero => exact absurd HA.out (by simp [laws_FnMatch.j0])
    | succ kj3 =>
      have H := HA.out
      clear HA
      simp only [laws_FnMatch.j0] at H
      by_cases c6 : x14_3 = true
      · subst c6
        have H1 : (some true) = some r := by rw [if_pos rfl] at H; exact H
        clear H
        have H := H1
        clear H1
        obtain rfl := Option.some.inj H
        go_wp2
        go_ret
        exact ⟨by first | rfl | (simp [errW_none, errW_some] <;> rfl) | (simp [*, errW_none, errW_some] <;> rfl), by repeat (first | (with_reducible first | exact HB.out | apply below_alloc | apply pw_below_drewN | apply below_drew1) | exact HB.out)⟩
      · replace c6 := Bool.eq_false_iff.mpr c6
        subst c6
        have H1 : ((spec_AllPlain.f kj3 a1 (([a2] : List ByteArray))).bind fun t212 => (if t212 = true then ((impl_Match.f kj3 a0 false a1 a2).bind fun t213 => ((spec_Match.f kj3 a0 a1 a2).bind fun t214 => (some (t213 == t214)))) else (some true))) = some r := by rw [if_neg (show ¬ (false = true) by decide)] at H; exact H
        clear H
        have H := H1
        clear H1
        obtain ⟨y209, hy209⟩ : ∃ y_ : List ByteArray, y_ = (([a2] : List ByteArray)) := ⟨_, rfl⟩
        replace H : ((spec_AllPlain.f kj3 a1 y209).bind fun t212 => (if t212 = true then ((impl_Match.f kj3 a0 false a1 a2).bind fun t213 => ((spec_Match.f kj3 a0 a1 a2).bind fun t214 => (some (t213 == t214)))) else (some true))) = some r := by first | (rw [hy209]; with_reducible exact H) | (have H2_ := (Option.bind_some _ _).symm.trans H; rw [hy209]; with_reducible exact H2_) | (have H2_ := (Option.bind_some _ _).symm.trans H; with_reducible exact H2_) | with_reducible exact H | (rw [hy209]; exact H) | exact H
        have Ny209 := Aside0.mk hy209
        clear hy209
        replace H := Option.bind_eq_some_iff.mp H
        obtain ⟨t212, A70, H⟩ := H
        replace H : (if t212 = true then ((impl_Match.f kj3 a0 false a1 a2).bind fun t213 => ((spec_Match.f kj3 a0 a1 a2).bind fun t214 => (some (t213 == t214)))) else (some true)) = some r := H
        have A7 := Aside0.mk A70
        clear A70
        by_cases c8 : t212 = true
        · subst c8
          have H1 : ((impl_Match.f kj3 a0 false a1 a2).bind fun t213 => ((spec_Match.f kj3 a0 a1 a2).bind fun t214 => (some (t213 == t214)))) = some r := by rw [if_pos rfl] at H; exact H
          clear H
          have H := H1
          clear H1
          replace H := Option.bind_eq_some_iff.mp H
          obtain ⟨t213, A90, H⟩ := H
          replace H : ((spec_Match.f kj3 a0 a1 a2).bind fun t214 => (some (t213 == t214))) = some r := H
          have A9 := Aside0.mk A90
          clear A90
          replace H := Option.bind_eq_some_iff.mp H
          obtain ⟨t214, A100, H⟩ := H
          replace H : (some (t213 == t214)) = some r := H
          have A10 := Aside0.mk A100
          clear A100
          obtain rfl := Option.some.inj H
          go_wp2_with (first | ((with_reducible refine gate_dst (N := 17) rfl ?_); (try (refine gate_guard (by rfl) ?_; dsimp only)); refine Kd.R_lit Kd.string _ 9 ?hg (N := 17) ?hd (xs := ([a2] : List ByteArray)) (inner := [.string a2]) (ok := fun _ => True) (okp := fun _ => True) ?hr ?hp (fun _ hk => hk) trivial (Below.refl _ _) (Nat.le_refl _) (by simp) ?_; (case hd => rfl); (case hg => rfl); (case hr => first | (go_simp; done) | (go_simp; rfl)); (case hp => exact (Reps.one (show Kd.M Kd.string _ _ _ a2 [.string a2] from rfl) (Reps.none _ _))); intro v210 w11 ho12 hb hg_ hnew_; clear hg_ hnew_; (first | rw [← Ny209.out] at ho12 | (simp only [Int.reduceToNat] at ho12; rw [← Ny209.out] at ho12)); have n0_ := Aside0.mk (Kd.R_lower ho12 (below_size (by repeat (first | (with_reducible first | exact HB.out | apply below_alloc | apply pw_below_drewN | apply below_drew1) | exact HB.out)))); have n1_ := Aside0.mk (below_step (by repeat (first | (with_reducible first | exact HB.out | apply below_alloc | apply pw_below_drewN | apply below_drew1) | exact HB.out)) hb); clear HB; have HO211 := n0_; have HB := n1_; clear n0_ n1_; clear hb ho12; obtain ⟨Ao13, co13, eo13⟩ := Kd.R_slice HO211.out; subst eo13) | ((with_reducible refine gate_callee (f := 14) rfl ?_); refine goesL_ (some 18) rfl rfl Tryd.func14 (by kernel_rfl) rfl #[.string a1, .slice Ao13 y209.length co13] rfl (by (try simp only [List.map_toArray, List.map_cons, List.map_nil]); first | done | rfl | (simp only [List.length_drop, List.length_take]; rfl)) ?_; (with_reducible refine (spec_AllPlain.calls kj3 a1 _ _ y209 true _ ?side1 ?side2 A7.out).mono ?_); (case side1 => repeat (first | exact (Kd.R_reads' HO211.out).2.2 | (with_reducible refine Kd.C_alloc ?_ _) | (with_reducible refine Kd.C_drewN ?_ _) | (with_reducible refine Kd.C_drew ?_))); (case side2 => exact (Kd.R_reads' HO211.out).2.1); rintro e w14 ⟨rfl, hb⟩; refine ⟨_, rfl, ?_⟩; have n0_ := Aside0.mk (Kd.R_below (by (with_reducible repeat (first | apply Kd.R_alloc | apply Kd.R_drewN | apply Kd.R_drew)); exact HO211.out) hb); have n1_ := Aside0.mk (below_step (by repeat (first | (with_reducible first | exact HB.out | apply below_alloc | apply pw_below_drewN | apply below_drew1) | exact HB.out)) hb); clear HO211; clear HB; have HO211 := n0_; have HB := n1_; clear n0_ n1_; (try clear hb); (try clear hb2); (try clear hk); (try clear hi)) | ((with_reducible refine gate_callee (f := 15) rfl ?_); refine goesL_ (some 23) rfl rfl Tryd.func15 (by kernel_rfl) rfl #[.bool a0, .bool false, .string a1, .string a2] rfl (by (try simp only [List.map_toArray, List.map_cons, List.map_nil]); first | done | rfl | (simp only [List.length_drop, List.length_take]; rfl)) ?_; (with_reducible refine (impl_Match.calls kj3 a0 false a1 a2 t213 _ (by first | (with_reducible exact HAMB.out) | exact Amb.below HAMB.out (by repeat (first | (with_reducible first | exact HB.out | apply below_alloc | apply pw_below_drewN | apply below_drew1) | exact HB.out)) | exact Amb.below HAMB.out (by repeat (first | (with_reducible first | exact Below.refl _ _ | apply pw_below_drewN | apply below_drew1 | apply below_alloc)))) A9.out).mono ?_); rintro e w15 ⟨rfl, hb⟩; refine ⟨_, rfl, ?_⟩; have n0_ := Aside0.mk (Kd.R_below (by (with_reducible repeat (first | apply Kd.R_alloc | apply Kd.R_drewN | apply Kd.R_drew)); exact HO211.out) hb); have n1_ := Aside0.mk (below_step (by repeat (first | (with_reducible first | exact HB.out | apply below_alloc | apply pw_below_drewN | apply below_drew1) | exact HB.out)) hb); clear HO211; clear HB; have HO211 := n0_; have HB := n1_; clear n0_ n1_; (try clear hb); (try clear hb2); (try clear hk); (try clear hi)) | ((with_reducible refine gate_callee (f := 16) rfl ?_); refine goesL_ (some 27) rfl rfl Tryd.func16 (by kernel_rfl) rfl #[.bool a0, .string a1, .string a2] rfl (by (try simp only [List.map_toArray, List.map_cons, List.map_nil]); first | done | rfl | (simp only [List.length_drop, List.length_take]; rfl)) ?_; (with_reducible refine (spec_Match.calls kj3 a0 a1 a2 t214 _ (by first | (with_reducible exact HAMB.out) | exact Amb.below HAMB.out (by repeat (first | (with_reducible first | exact HB.out | apply below_alloc | apply pw_below_drewN | apply below_drew1) | exact HB.out)) | exact Amb.below HAMB.out (by repeat (first | (with_reducible first | exact Below.refl _ _ | apply pw_below_drewN | apply below_drew1 | apply below_alloc)))) A10.out).mono ?_); rintro e w16 ⟨rfl, hb⟩; refine ⟨_, rfl, ?_⟩; have n0_ := Aside0.mk (Kd.R_below (by (with_reducible repeat (first | apply Kd.R_alloc | apply Kd.R_drewN | apply Kd.R_drew)); exact HO211.out) hb); have n1_ := Aside0.mk (below_step (by repeat (first | (with_reducible first | exact HB.out | apply below_alloc | apply pw_below_drewN | apply below_drew1) | exact HB.out)) hb); clear HO211; clear HB; have HO211 := n0_; have HB := n1_; clear n0_ n1_; (try clear hb); (try clear hb2); (try clear hk); (try clear hi)))
          go_ret
          exact ⟨by first | rfl | (simp [errW_none, errW_some] <;> rfl) | (simp [*, errW_none, errW_some] <;> rfl), by repeat (first | (with_reducible first | exact HB.out | apply below_alloc | apply pw_below_drewN | apply below_drew1) | exact HB.out)⟩
        · replace c8 := Bool.eq_false_iff.mpr c8
          subst c8
          have H1 : (some true) = some r := by rw [if_neg (show ¬ (false = true) by decide)] at H; exact H
          clear H
          have H := H1
          clear H1
          obtain rfl := Option.some.inj H
          go_wp2_with (first | ((with_reducible refine gate_dst (N := 17) rfl ?_); (try (refine gate_guard (by rfl) ?_; dsimp only)); refine Kd.R_lit Kd.string _ 9 ?hg (N := 17) ?hd (xs := ([a2] : List ByteArray)) (inner := [.string a2]) (ok := fun _ => True) (okp := fun _ => True) ?hr ?hp (fun _ hk => hk) trivial (Below.refl _ _) (Nat.le_refl _) (by simp) ?_; (case hd => rfl); (case hg => rfl); (case hr => first | (go_simp; done) | (go_simp; rfl)); (case hp => exact (Reps.one (show Kd.M Kd.string _ _ _ a2 [.string a2] from rfl) (Reps.none _ _))); intro v210 w17 ho18 hb hg_ hnew_; clear hg_ hnew_; (first | rw [← Ny209.out] at ho18 | (simp only [Int.reduceToNat] at ho18; rw [← Ny209.out] at ho18)); have n0_ := Aside0.mk (Kd.R_lower ho18 (below_size (by repeat (first | (with_reducible first | exact HB.out | apply below_alloc | apply pw_below_drewN | apply below_drew1) | exact HB.out)))); have n1_ := Aside0.mk (below_step (by repeat (first | (with_reducible first | exact HB.out | apply below_alloc | apply pw_below_drewN | apply below_drew1) | exact HB.out)) hb); clear HB; have HO211 := n0_; have HB := n1_; clear n0_ n1_; clear hb ho18; obtain ⟨Ao19, co19, eo19⟩ := Kd.R_slice HO211.out; subst eo19) | ((with_reducible refine gate_callee (f := 14) rfl ?_); refine goesL_ (some 18) rfl rfl Tryd.func14 (by kernel_rfl) rfl #[.string a1, .slice Ao19 y209.length co19] rfl (by (try simp only [List.map_toArray, List.map_cons, List.map_nil]); first | done | rfl | (simp only [List.length_drop, List.length_take]; rfl)) ?_; (with_reducible refine (spec_AllPlain.calls kj3 a1 _ _ y209 false _ ?side1 ?side2 A7.out).mono ?_); (case side1 => repeat (first | exact (Kd.R_reads' HO211.out).2.2 | (with_reducible refine Kd.C_alloc ?_ _) | (with_reducible refine Kd.C_drewN ?_ _) | (with_reducible refine Kd.C_drew ?_))); (case side2 => exact (Kd.R_reads' HO211.out).2.1); rintro e w20 ⟨rfl, hb⟩; refine ⟨_, rfl, ?_⟩; have n0_ := Aside0.mk (Kd.R_below (by (with_reducible repeat (first | apply Kd.R_alloc | apply Kd.R_drewN | apply Kd.R_drew)); exact HO211.out) hb); have n1_ := Aside0.mk (below_step (by repeat (first | (with_reducible first | exact HB.out | apply below_alloc | apply pw_below_drewN | apply below_drew1) | exact HB.out)) hb); clear HO211; clear HB; have HO211 := n0_; have HB := n1_; clear n0_ n1_; (try clear hb); (try clear hb2); (try clear hk); (try clear hi)))
          go_ret
          exact ⟨by first | rfl | (simp [errW_none, errW_some] <;> rfl) | (simp [*, errW_none, errW_some] <;> rfl), by repeat (first | (with_reducible first | exact HB.out | apply below_alloc | apply pw_below_drewN | apply below_drew1) | exact HB.out)⟩

end Go.Proofs.YtfkemfkleceeiaaDoor.P
