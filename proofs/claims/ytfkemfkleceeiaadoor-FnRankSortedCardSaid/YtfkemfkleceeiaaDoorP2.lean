-- written by a program of this session (wip/tools), out of the translation
import Derived.Test.YtfkemfkleceeiaaDoorP0
namespace Go.Proofs.YtfkemfkleceeiaaDoor.P
open Go.RowKit Go.Proofs.YtfkemfkleceeiaaDoorW.PrintWords Go.Proofs.YtfkemfkleceeiaaDoorW.PrintLast Go.Proofs.YtfkemfkleceeiaaDoorW.PrintMore
attribute [local go_sem] max2_int min2_int max_two min_two max_three min_three max_four min_four   -- for this text's walks alone
set_option linter.unusedVariables false
set_option linter.unusedSimpArgs false

theorem eqA50 (d : Nat) (w : World) (x0 y0 : ByteArray) (x1 y1 : ByteArray) (x2 y2 : Int) (x3 y3 : Int) :
    (Op.equalIn (d + 2) 50 (.agg #[.string x0, .string x1, .int .i64 x2, .int .i64 x3]) (.agg #[.string y0, .string y1, .int .i64 y2, .int .i64 y3])).run Tryd.prog w = .ok (x0.toList == y0.toList && (x1.toList == y1.toList && (x2 == y2 && (x3 == y3)))) w := by
  refine eqA_of Tryd.underlying50 (by kernel_rfl) ?_
  refine eqf_cons (by rfl) (by go_simp; rfl) (by go_simp; rfl) (by go_simp) ?_
  refine eqf_cons (by rfl) (by go_simp; rfl) (by go_simp; rfl) (by go_simp) ?_
  refine eqf_cons (by rfl) (by go_simp; rfl) (by go_simp; rfl) (by go_simp) ?_
  exact eqf_last (by rfl) (by go_simp; rfl) (by go_simp; rfl) (by go_simp)
end Go.Proofs.YtfkemfkleceeiaaDoor.P
namespace Go.Proofs.YtfkemfkleceeiaaDoor.P
open Go.RowKit Go.Proofs.YtfkemfkleceeiaaDoorW.PrintWords Go.Proofs.YtfkemfkleceeiaaDoorW.PrintLast Go.Proofs.YtfkemfkleceeiaaDoorW.PrintMore
attribute [local go_sem] max2_int min2_int max_two min_two max_three min_three max_four min_four   -- for this text's walks alone
set_option linter.unusedVariables false
set_option linter.unusedSimpArgs false

/-! ### fuzzysearch_min2: function 53 -/
def fuzzysearch_min2.f (a0 : Int) (a1 : Int) : Option (Int) := if a0 < a1 then (some a0) else (some a1)
set_option maxHeartbeats 8000000 in
set_option maxRecDepth 100000 in
theorem fuzzysearch_min2.calls (a0 : Int) (a1 : Int) (r : Int) (w : World) (h : fuzzysearch_min2.f a0 a1 = some r) :
    Calls Tryd.prog 53 #[.int .i64 a0, .int .i64 a1] w fun e w' => e = .returned (.int .i64 r) ∧ Drawn0 w w' := by
  have H : (if a0 < a1 then (some a0) else (some a1)) = some r := h
  clear h
  by_cases c3 : a0 < a1
  · rw [if_pos c3] at H
    have c3b0 : decide (a0 < a1) = true := decide_eq_true c3
    clear c3
    obtain rfl := Option.some.inj H
    go_enter Tryd.func53, Tryd.ntmps53
    go_wp2
    go_ret
    exact ⟨by first | rfl | (simp; done) | (simp [*]; done), by repeat (first | exact Drawn0.refl _ | apply Drawn0.step)⟩
  · rw [if_neg c3] at H
    have c3b0 : decide (a0 < a1) = false := decide_eq_false c3
    clear c3
    obtain rfl := Option.some.inj H
    go_enter Tryd.func53, Tryd.ntmps53
    go_wp2
    go_ret
    exact ⟨by first | rfl | (simp; done) | (simp [*]; done), by repeat (first | exact Drawn0.refl _ | apply Drawn0.step)⟩

/-! ### fuzzysearch_min: function 42 -/
def fuzzysearch_min.f (a0 : Int) (a1 : Int) (a2 : Int) : Option (Int) := (fuzzysearch_min2.f a0 a1).bind fun t101 => ((fuzzysearch_min2.f t101 a2).bind fun t102 => (some t102))
set_option maxHeartbeats 8000000 in
set_option maxRecDepth 100000 in
theorem fuzzysearch_min.calls (a0 : Int) (a1 : Int) (a2 : Int) (r : Int) (w : World) (h : fuzzysearch_min.f a0 a1 a2 = some r) :
    Calls Tryd.prog 42 #[.int .i64 a0, .int .i64 a1, .int .i64 a2] w fun e w' => e = .returned (.int .i64 r) ∧ Drawn0 w w' := by
  have H : ((fuzzysearch_min2.f a0 a1).bind fun t101 => ((fuzzysearch_min2.f t101 a2).bind fun t102 => (some t102))) = some r := h
  clear h
  replace H := Option.bind_eq_some_iff.mp H
  obtain ⟨t101, A40, H⟩ := H
  replace H : ((fuzzysearch_min2.f t101 a2).bind fun t102 => (some t102)) = some r := H
  have A4 := Aside0.mk A40
  clear A40
  replace H := Option.bind_eq_some_iff.mp H
  obtain ⟨t102, A50, H⟩ := H
  replace H : (some t102) = some r := H
  have A5 := Aside0.mk A50
  clear A50
  obtain rfl := Option.some.inj H
  go_enter Tryd.func42, Tryd.ntmps42
  go_wp2_with (first | ((with_reducible refine gate_callee (f := 53) rfl ?_); refine goesL_ (some 9) rfl rfl Tryd.func53 (by kernel_rfl) rfl #[.int .i64 a0, .int .i64 a1] rfl (by (try simp only [List.map_toArray, List.map_cons, List.map_nil]); first | done | rfl | (simp only [List.length_drop, List.length_take]; rfl)) ?_; (with_reducible refine (fuzzysearch_min2.calls a0 a1 t101 _ A4.out).mono ?_); rintro e w' ⟨rfl, ⟨nd, rfl⟩⟩; refine ⟨_, rfl, ?_⟩) | ((with_reducible refine gate_callee (f := 53) rfl ?_); refine goesL_ (some 11) rfl rfl Tryd.func53 (by kernel_rfl) rfl #[.int .i64 t101, .int .i64 a2] rfl (by (try simp only [List.map_toArray, List.map_cons, List.map_nil]); first | done | rfl | (simp only [List.length_drop, List.length_take]; rfl)) ?_; (with_reducible refine (fuzzysearch_min2.calls t101 a2 t102 _ A5.out).mono ?_); rintro e w' ⟨rfl, ⟨nd, rfl⟩⟩; refine ⟨_, rfl, ?_⟩))
  go_ret
  exact ⟨by first | rfl | (simp; done) | (simp [*]; done), by repeat (first | exact Drawn0.refl _ | apply Drawn0.step)⟩

end Go.Proofs.YtfkemfkleceeiaaDoor.P
