-- written by a program of this session (wip/tools), out of the translation
import Derived.Test.YtfkemfkleceeiaaDoorP0
import Derived.Test.YtfkemfkleceeiaaDoorP3
namespace Go.Proofs.YtfkemfkleceeiaaDoor.P
open Go.RowKit Go.Proofs.YtfkemfkleceeiaaDoorW.PrintWords Go.Proofs.YtfkemfkleceeiaaDoorW.PrintLast Go.Proofs.YtfkemfkleceeiaaDoorW.PrintMore
attribute [local go_sem] max2_int min2_int max_two min_two max_three min_three max_four min_four   -- for this text's walks alone
set_option linter.unusedVariables false
set_option linter.unusedSimpArgs false

/-! ### impl_Distance: function 12 -/
def impl_Distance.f (k : Nat) (a0 : ByteArray) (a1 : ByteArray) : Option (Int) := if (a0.size : Int) > 60 then (some (-1)) else (if (a1.size : Int) > 60 then (some (-1)) else ((fuzzysearch_LevenshteinDistance.f k a0 a1).bind fun t128 => (some t128)))
theorem impl_Distance.mono : ∀ a0 a1 k, LeO (impl_Distance.f k a0 a1) (impl_Distance.f (k + 1) a0 a1) := by
  intro a0 a1 k
  unfold impl_Distance.f
  repeat' first
      | (with_reducible exact fuzzysearch_LevenshteinDistance.mono _ _ _)
      | (with_reducible exact LeO.refl _)
      | (with_reducible exact LeO.none _)
      | (with_reducible refine LeO.ite ?_ ?_)
      | (with_reducible refine LeO.bind ?_ (fun _ => ?_))
      | exact fuzzysearch_LevenshteinDistance.mono _ _ _
      | exact LeO.none _
      | refine LeO.ite ?_ ?_
      | refine LeO.bind ?_ (fun _ => ?_)
set_option maxHeartbeats 8000000 in
set_option maxRecDepth 100000 in
theorem impl_Distance.calls (k : Nat) (a0 : ByteArray) (a1 : ByteArray) (r : Int) (w : World) (h : impl_Distance.f k a0 a1 = some r) :
    Calls Tryd.prog 12 #[.string a0, .string a1] w fun e w' => e = .returned (.int .i64 r) ∧ Below w.heap.size w w' := by
  have HB := Aside0.mk (Below.refl w.heap.size w)
  have H : (if (a0.size : Int) > 60 then (some (-1)) else (if (a1.size : Int) > 60 then (some (-1)) else ((fuzzysearch_LevenshteinDistance.f k a0 a1).bind fun t128 => (some t128)))) = some r := h
  clear h
  by_cases c3 : (a0.size : Int) > 60
  · rw [if_pos c3] at H
    have c3b0 : decide (60 < (a0.size : Int)) = true := decide_eq_true c3
    have c3b1 : decide (60 < a0.size) = true := decide_eq_true (by omega)
    clear c3
    obtain rfl := Option.some.inj H
    go_enter Tryd.func12, Tryd.ntmps12
    go_wp2
    go_ret
    exact ⟨by first | rfl | (simp [errW_none, errW_some] <;> rfl) | (simp [*, errW_none, errW_some] <;> rfl), by repeat (first | (with_reducible first | exact HB.out | apply below_alloc | apply pw_below_drewN | apply below_drew1) | exact HB.out)⟩
  · rw [if_neg c3] at H
    have c3b0 : decide (60 < (a0.size : Int)) = false := decide_eq_false c3
    have c3b1 : decide (60 < a0.size) = false := decide_eq_false (by omega)
    clear c3
    by_cases c4 : (a1.size : Int) > 60
    · rw [if_pos c4] at H
      have c4b0 : decide (60 < (a1.size : Int)) = true := decide_eq_true c4
      have c4b1 : decide (60 < a1.size) = true := decide_eq_true (by omega)
      clear c4
      obtain rfl := Option.some.inj H
      go_enter Tryd.func12, Tryd.ntmps12
      go_wp2
      go_ret
      exact ⟨by first | rfl | (simp [errW_none, errW_some] <;> rfl) | (simp [*, errW_none, errW_some] <;> rfl), by repeat (first | (with_reducible first | exact HB.out | apply below_alloc | apply pw_below_drewN | apply below_drew1) | exact HB.out)⟩
    · rw [if_neg c4] at H
      have c4b0 : decide (60 < (a1.size : Int)) = false := decide_eq_false c4
      have c4b1 : decide (60 < a1.size) = false := decide_eq_false (by omega)
      clear c4
      replace H := Option.bind_eq_some_iff.mp H
      obtain ⟨t128, A50, H⟩ := H
      replace H : (some t128) = some r := H
      have A5 := Aside0.mk A50
      clear A50
      obtain rfl := Option.some.inj H
      go_enter Tryd.func12, Tryd.ntmps12
      go_wp2_with (first | ((with_reducible refine gate_callee (f := 28) rfl ?_); refine goesL_ (some 15) rfl rfl Tryd.func28 (by kernel_rfl) rfl #[.string a0, .string a1] rfl (by (try simp only [List.map_toArray, List.map_cons, List.map_nil]); first | done | rfl | (simp only [List.length_drop, List.length_take]; rfl)) ?_; (with_reducible refine (fuzzysearch_LevenshteinDistance.calls k a0 a1 t128 _ A5.out).mono ?_); rintro e w6 ⟨rfl, hb⟩; refine ⟨_, rfl, ?_⟩; have n0_ := Aside0.mk (below_step (by repeat (first | (with_reducible first | exact HB.out | apply below_alloc | apply pw_below_drewN | apply below_drew1) | exact HB.out)) hb); clear HB; have HB := n0_; clear n0_; (try clear hb); (try clear hb2); (try clear hk); (try clear hi)))
      go_ret
      exact ⟨by first | rfl | (simp [errW_none, errW_some] <;> rfl) | (simp [*, errW_none, errW_some] <;> rfl), by repeat (first | (with_reducible first | exact HB.out | apply below_alloc | apply pw_below_drewN | apply below_drew1) | exact HB.out)⟩

-- NOT PRINTED: function 64 (unicode_lookupCaseRange)

-- NOT PRINTED: function 65 (unicode_convertCase)

-- NOT PRINTED: function 62 (unicode_to)

-- NOT PRINTED: function 54 (unicode_To)

-- NOT PRINTED: function 43 (unicode_ToLower)

-- TOLD BY HAND: function 29 (spec_runesOf)

end Go.Proofs.YtfkemfkleceeiaaDoor.P
