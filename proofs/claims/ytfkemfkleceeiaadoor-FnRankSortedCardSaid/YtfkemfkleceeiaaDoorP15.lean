-- written by a program of this session (wip/tools), out of the translation
import Derived.Test.YtfkemfkleceeiaaDoorP0
import Derived.Test.YtfkemfkleceeiaaDoorP3
import Derived.Test.YtfkemfkleceeiaaDoorP8
import Derived.Test.YtfkemfkleceeiaaDoorP10
import Derived.Test.YtfkemfkleceeiaaDoorP14
import Derived.Test.YtfkemfkleceeiaaDoorExtFold
import Derived.Test.YtfkemfkleceeiaaDoorExtRank
namespace Go.Proofs.YtfkemfkleceeiaaDoor.P
open Go.RowKit Go.Proofs.YtfkemfkleceeiaaDoorW.PrintWords Go.Proofs.YtfkemfkleceeiaaDoorW.PrintLast Go.Proofs.YtfkemfkleceeiaaDoorW.PrintMore
attribute [local go_sem] max2_int min2_int max_two min_two max_three min_three max_four min_four   -- for this text's walks alone
set_option linter.unusedVariables false
set_option linter.unusedSimpArgs false

/-! ### fuzzysearch_rankFind: function 59 -/
def fuzzysearch_rankFind.l0 : Nat → ByteArray → Bool → ByteArray → List (S63) → List ByteArray → Int → Int → Option ((List (S63)))
  | 0, _, _, _, _, _, _, _ => none
  | k + 1, x0, x2, x7, x8, x16, x17, x18 => if x18 < x17 then (if 0 ≤ x18 then (if x18 < (x16.length : Int) then ((fuzzysearch_stringTransform.f (rdOf ByteArray.empty x16 x18) x2).bind fun t299 => ((fuzzysearch_matchTransformed.f x7 t299).bind fun t300 => (if t300 = true then ((fuzzysearch_LevenshteinDistance.f k x0 (rdOf ByteArray.empty x16 x18)).bind fun t301 => (if x8.length < 2932031007402 then (fuzzysearch_rankFind.l0 k x0 x2 x7 (x8 ++ [(⟨x0, rdOf ByteArray.empty x16 x18, t301, x18⟩ : S63)]) x16 x17 (wrap64 (x18 + 1))) else (none))) else (fuzzysearch_rankFind.l0 k x0 x2 x7 x8 x16 x17 (wrap64 (x18 + 1)))))) else (none)) else (none)) else (some x8)
def fuzzysearch_rankFind.f (k : Nat) (a0 : ByteArray) (l1 : List ByteArray) (a2 : Bool) : Option ((List (S63))) := (fuzzysearch_stringTransform.f a0 a2).bind fun t297 => (fuzzysearch_rankFind.l0 k a0 a2 t297 ([] : List (S63)) l1 (l1.length : Int) 0)
theorem fuzzysearch_rankFind.mono_l : ∀ k, (∀ y0 y1 y2 y3 y4 y5 y6, LeO (fuzzysearch_rankFind.l0 k y0 y1 y2 y3 y4 y5 y6) (fuzzysearch_rankFind.l0 (k + 1) y0 y1 y2 y3 y4 y5 y6))
  | 0 => fun _ _ _ _ _ _ _ r h => by simp [fuzzysearch_rankFind.l0] at h
  | k + 1 => by
    have ih0 := fuzzysearch_rankFind.mono_l k
    · intro y0 y1 y2 y3 y4 y5 y6
      unfold fuzzysearch_rankFind.l0
      repeat' first
      | (with_reducible exact ih0 _ _ _ _ _ _ _)
      | (with_reducible exact fuzzysearch_LevenshteinDistance.mono _ _ _)
      | (with_reducible exact LeO.refl _)
      | (with_reducible exact LeO.none _)
      | (with_reducible refine LeO.ite ?_ ?_)
      | (with_reducible refine LeO.bind ?_ (fun _ => ?_))
      | exact ih0 _ _ _ _ _ _ _
      | exact fuzzysearch_LevenshteinDistance.mono _ _ _
      | exact LeO.none _
      | refine LeO.ite ?_ ?_
      | refine LeO.bind ?_ (fun _ => ?_)
theorem fuzzysearch_rankFind.mono : ∀ a0 a1 a2 k, LeO (fuzzysearch_rankFind.f k a0 a1 a2) (fuzzysearch_rankFind.f (k + 1) a0 a1 a2) := by
  intro a0 a1 a2 k
  have ih0 := fuzzysearch_rankFind.mono_l k
  unfold fuzzysearch_rankFind.f
  repeat' first
      | (with_reducible exact ih0 _ _ _ _ _ _ _)
      | (with_reducible exact fuzzysearch_LevenshteinDistance.mono _ _ _)
      | (with_reducible exact LeO.refl _)
      | (with_reducible exact LeO.none _)
      | (with_reducible refine LeO.ite ?_ ?_)
      | (with_reducible refine LeO.bind ?_ (fun _ => ?_))
      | exact ih0 _ _ _ _ _ _ _
      | exact fuzzysearch_LevenshteinDistance.mono _ _ _
      | exact LeO.none _
      | refine LeO.ite ?_ ?_
      | refine LeO.bind ?_ (fun _ => ?_)
set_option maxHeartbeats 8000000 in
set_option maxRecDepth 100000 in
theorem fuzzysearch_rankFind.calls (k : Nat) (a0 : ByteArray) (A1 : Option Addr) (c1 : Nat) (l1 : List ByteArray) (a2 : Bool) (r : List (S63)) (w : World) (hr1 : Kd.C Kd.string w A1 l1.length l1) (hc1 : l1.length ≤ c1) (hA_ : Amb w) (h : fuzzysearch_rankFind.f k a0 l1 a2 = some r) :
    Calls Tryd.prog 59 #[.string a0, .slice A1 l1.length c1, .bool a2] w fun e w' => ∃ v0_ : Value, e = .returned (v0_) ∧ Kd.R k63 63 w' w.heap.size (fun _ => True) v0_ r ∧ Below w.heap.size w w' := by
  have hu63 := Tryd.underlying63
  have HR1 := Aside0.mk hr1
  have HC1 := Aside0.mk hc1
  clear hr1 hc1
  have HAMB := Aside0.mk hA_
  clear hA_
  have HB := Aside0.mk (Below.refl w.heap.size w)
  have H : ((fuzzysearch_stringTransform.f a0 a2).bind fun t297 => (fuzzysearch_rankFind.l0 k a0 a2 t297 ([] : List (S63)) l1 (l1.length : Int) 0)) = some r := h
  clear h
  replace H := Option.bind_eq_some_iff.mp H
  obtain ⟨t297, A40, H⟩ := H
  replace H : (fuzzysearch_rankFind.l0 k a0 a2 t297 ([] : List (S63)) l1 (l1.length : Int) 0) = some r := H
  have A4 := Aside0.mk A40
  clear A40
  have H' := Aside0.mk H
  clear H
  go_enter Tryd.func59, Tryd.ntmps59
  go_wp2_with (first | ((with_reducible refine gate_callee (f := 55) rfl ?_); refine goesL_ (some 15) rfl rfl Tryd.func55 (by kernel_rfl) rfl #[.string a0, .bool a2] rfl (by (try simp only [List.map_toArray, List.map_cons, List.map_nil]); first | done | rfl | (simp only [List.length_drop, List.length_take]; rfl)) ?_; (with_reducible refine (fuzzysearch_stringTransform.calls a0 a2 t297 _ (by first | (with_reducible exact HAMB.out) | exact Amb.below HAMB.out (by repeat (first | (with_reducible first | exact HB.out | apply below_alloc | apply pw_below_drewN | apply below_drew1) | exact HB.out)) | exact Amb.below HAMB.out (by repeat (first | (with_reducible first | exact Below.refl _ _ | apply pw_below_drewN | apply below_drew1 | apply below_alloc)))) A4.out).mono ?_); rintro e w5 ⟨rfl, hb⟩; refine ⟨_, rfl, ?_⟩; have n0_ := Aside0.mk (below_step (by repeat (first | (with_reducible first | exact HB.out | apply below_alloc | apply pw_below_drewN | apply below_drew1) | exact HB.out)) hb); clear HB; have HB := n0_; clear n0_; (try clear hb); (try clear hb2); (try clear hk); (try clear hi)))
  go_loopg [8, 18] k (fun kq v8 v18 w' => ∃ (x8_1 : List (S63)) (x18_1 : Int), v18 = .int .i64 x18_1 ∧ Aside0 (fuzzysearch_rankFind.l0 kq a0 a2 t297 x8_1 l1 (l1.length : Int) x18_1 = some r) ∧ Aside0 (kq ≤ k) ∧ Aside0 (Kd.R k63 63 w' w.heap.size (fun _ => True) v8 x8_1) ∧ Aside0 (Below w.heap.size w w'))
  case atStart => exact ⟨(([] : List (S63))), (0), (by first | rfl | (simp; done) | (simp [*]; done)), H', ⟨Nat.le_refl _⟩, ⟨by first | exact Kd.R_nil _ _ _ _ _ | exact Kd.N_nil _ _ _ _ _ | exact Kd.V_nil _ _ _ _ _ | exact Kd.Q_nil _ _ _ _ _ | exact Kd.S_nil _ _ _ _ _⟩, ⟨by repeat (first | (with_reducible first | exact HB.out | apply below_alloc | apply pw_below_drewN | apply below_drew1) | exact HB.out)⟩⟩
  case round =>
    clear H'
    try clear c1
    try clear p2
    try clear c5
    obtain ⟨x8_1, x18_1, rfl, HA, HK1, HO_8, HB⟩ := hrel
    cases gk with
    | zero => exact absurd HA.out (by simp [fuzzysearch_rankFind.l0])
    | succ k1 =>
      have H := HA.out
      clear HA
      simp only [fuzzysearch_rankFind.l0] at H
      by_cases c6 : x18_1 < (l1.length : Int)
      · rw [if_pos c6] at H
        have c6b0 : decide (x18_1 < (l1.length : Int)) = true := decide_eq_true c6
        clear c6
        by_cases c7 : 0 ≤ x18_1
        · rw [if_pos c7] at H
          have c7b0 : decide (0 ≤ x18_1) = true := decide_eq_true c7
          clear c7
          by_cases c8 : x18_1 < (l1.length : Int)
          · rw [if_pos c8] at H
            have c8b0 : decide (x18_1 < (l1.length : Int)) = true := decide_eq_true c8
            clear c8
            replace H := Option.bind_eq_some_iff.mp H
            obtain ⟨t299, A90, H⟩ := H
            replace H : ((fuzzysearch_matchTransformed.f t297 t299).bind fun t300 => (if t300 = true then ((fuzzysearch_LevenshteinDistance.f k1 a0 (rdOf ByteArray.empty l1 x18_1)).bind fun t301 => (if x8_1.length < 2932031007402 then (fuzzysearch_rankFind.l0 k1 a0 a2 t297 (x8_1 ++ [(⟨a0, rdOf ByteArray.empty l1 x18_1, t301, x18_1⟩ : S63)]) l1 (l1.length : Int) (wrap64 (x18_1 + 1))) else (none))) else (fuzzysearch_rankFind.l0 k1 a0 a2 t297 x8_1 l1 (l1.length : Int) (wrap64 (x18_1 + 1))))) = some r := H
            have A9 := Aside0.mk A90
            clear A90
            replace H := Option.bind_eq_some_iff.mp H
            obtain ⟨t300, A100, H⟩ := H
            replace H : (if t300 = true then ((fuzzysearch_LevenshteinDistance.f k1 a0 (rdOf ByteArray.empty l1 x18_1)).bind fun t301 => (if x8_1.length < 2932031007402 then (fuzzysearch_rankFind.l0 k1 a0 a2 t297 (x8_1 ++ [(⟨a0, rdOf ByteArray.empty l1 x18_1, t301, x18_1⟩ : S63)]) l1 (l1.length : Int) (wrap64 (x18_1 + 1))) else (none))) else (fuzzysearch_rankFind.l0 k1 a0 a2 t297 x8_1 l1 (l1.length : Int) (wrap64 (x18_1 + 1)))) = some r := H
            have A10 := Aside0.mk A100
            clear A100
            by_cases c11 : t300 = true
            · subst c11
              have H1 : ((fuzzysearch_LevenshteinDistance.f k1 a0 (rdOf ByteArray.empty l1 x18_1)).bind fun t301 => (if x8_1.length < 2932031007402 then (fuzzysearch_rankFind.l0 k1 a0 a2 t297 (x8_1 ++ [(⟨a0, rdOf ByteArray.empty l1 x18_1, t301, x18_1⟩ : S63)]) l1 (l1.length : Int) (wrap64 (x18_1 + 1))) else (none))) = some r := by rw [if_pos rfl] at H; exact H
              clear H
              have H := H1
              clear H1
              replace H := Option.bind_eq_some_iff.mp H
              obtain ⟨t301, A120, H⟩ := H
              replace H : (if x8_1.length < 2932031007402 then (fuzzysearch_rankFind.l0 k1 a0 a2 t297 (x8_1 ++ [(⟨a0, rdOf ByteArray.empty l1 x18_1, t301, x18_1⟩ : S63)]) l1 (l1.length : Int) (wrap64 (x18_1 + 1))) else (none)) = some r := H
              have A12 := Aside0.mk A120
              clear A120
              by_cases c13 : x8_1.length < 2932031007402
              · rw [if_pos c13] at H
                have LMc13 := Aside0.mk c13
                clear c13
                obtain ⟨y302, hy302⟩ : ∃ y_ : List (S63), y_ = (x8_1 ++ [(⟨a0, rdOf ByteArray.empty l1 x18_1, t301, x18_1⟩ : S63)]) := ⟨_, rfl⟩
                replace H : (fuzzysearch_rankFind.l0 k1 a0 a2 t297 y302 l1 (l1.length : Int) (wrap64 (x18_1 + 1))) = some r := by first | (rw [hy302]; with_reducible exact H) | (have H2_ := (Option.bind_some _ _).symm.trans H; rw [hy302]; with_reducible exact H2_) | (have H2_ := (Option.bind_some _ _).symm.trans H; with_reducible exact H2_) | with_reducible exact H | (rw [hy302]; exact H) | exact H
                have Ny302 := Aside0.mk hy302
                clear hy302
                have H' := Aside0.mk H
                clear H
                have p298 : 0 ≤ (x18_1 : Int) := of_decide_eq_true (by first | (with_reducible assumption) | assumption)
                have q298 : x18_1 < (l1.length : Int) := of_decide_eq_true (by first | (with_reducible assumption) | assumption)
                obtain ⟨ad298, e298, hx298_0⟩ := Kd.at_string HR1.out x18_1 p298 q298
                cases e298
                replace hx298_0 := (HB.out.cell (World.block_lt_of_cell? w _ hx298_0)).trans hx298_0
                replace p298 := eq_true p298
                replace q298 := eq_true q298
                go_wp2_with (first | ((with_reducible refine gate_callee (f := 55) rfl ?_); refine goesL_ (some 25) rfl rfl Tryd.func55 (by kernel_rfl) rfl #[.string (rdOf ByteArray.empty l1 x18_1), .bool a2] rfl (by (try simp only [List.map_toArray, List.map_cons, List.map_nil]); first | done | rfl | (simp only [List.length_drop, List.length_take]; rfl)) ?_; (with_reducible refine (fuzzysearch_stringTransform.calls (rdOf ByteArray.empty l1 x18_1) a2 t299 _ (by first | (with_reducible exact HAMB.out) | exact Amb.below HAMB.out (by repeat (first | (with_reducible first | exact HB.out | apply below_alloc | apply pw_below_drewN | apply below_drew1) | exact HB.out)) | exact Amb.below HAMB.out (by repeat (first | (with_reducible first | exact Below.refl _ _ | apply pw_below_drewN | apply below_drew1 | apply below_alloc)))) A9.out).mono ?_); rintro e w14 ⟨rfl, hb⟩; refine ⟨_, rfl, ?_⟩; have n0_ := Aside0.mk (Kd.R_below (by (with_reducible repeat (first | apply Kd.R_alloc | apply Kd.R_drewN | apply Kd.R_drew)); exact HO_8.out) hb); have n1_ := Aside0.mk (below_step (by repeat (first | (with_reducible first | exact HB.out | apply below_alloc | apply pw_below_drewN | apply below_drew1) | exact HB.out)) hb); clear HO_8; clear HB; have HO_8 := n0_; have HB := n1_; clear n0_ n1_; (try clear hb); (try clear hb2); (try clear hk); (try clear hi)) | ((with_reducible refine gate_callee (f := 56) rfl ?_); refine goesL_ (some 28) rfl rfl Tryd.func56 (by kernel_rfl) rfl #[.string t297, .string t299] rfl (by (try simp only [List.map_toArray, List.map_cons, List.map_nil]); first | done | rfl | (simp only [List.length_drop, List.length_take]; rfl)) ?_; (with_reducible refine (fuzzysearch_matchTransformed.calls t297 t299 true _ A10.out).mono ?_); rintro e w15 ⟨rfl, hb⟩; refine ⟨_, rfl, ?_⟩; have n0_ := Aside0.mk (Kd.R_below (by (with_reducible repeat (first | apply Kd.R_alloc | apply Kd.R_drewN | apply Kd.R_drew)); exact HO_8.out) hb); have n1_ := Aside0.mk (below_step (by repeat (first | (with_reducible first | exact HB.out | apply below_alloc | apply pw_below_drewN | apply below_drew1) | exact HB.out)) hb); clear HO_8; clear HB; have HO_8 := n0_; have HB := n1_; clear n0_ n1_; (try clear hb); (try clear hb2); (try clear hk); (try clear hi)) | ((with_reducible refine gate_callee (f := 28) rfl ?_); refine goesL_ (some 31) rfl rfl Tryd.func28 (by kernel_rfl) rfl #[.string a0, .string (rdOf ByteArray.empty l1 x18_1)] rfl (by (try simp only [List.map_toArray, List.map_cons, List.map_nil]); first | done | rfl | (simp only [List.length_drop, List.length_take]; rfl)) ?_; (with_reducible refine (fuzzysearch_LevenshteinDistance.calls k1 a0 (rdOf ByteArray.empty l1 x18_1) t301 _ A12.out).mono ?_); rintro e w16 ⟨rfl, hb⟩; refine ⟨_, rfl, ?_⟩; have n0_ := Aside0.mk (Kd.R_below (by (with_reducible repeat (first | apply Kd.R_alloc | apply Kd.R_drewN | apply Kd.R_drew)); exact HO_8.out) hb); have n1_ := Aside0.mk (below_step (by repeat (first | (with_reducible first | exact HB.out | apply below_alloc | apply pw_below_drewN | apply below_drew1) | exact HB.out)) hb); clear HO_8; clear HB; have HO_8 := n0_; have HB := n1_; clear n0_ n1_; (try clear hb); (try clear hb2); (try clear hk); (try clear hi)) | ((with_reducible refine gate_builtin (b := .append) (xs := #[.tmp 32, .tmp 38]) rfl ?_); at_builtin; refine Kd.R_append k63 (w0 := w) w.heap.size rfl (.tmp 32) (.tmp 38) 53 63 (.agg #[(.string ⟨#[]⟩), (.string ⟨#[]⟩), (.int .i64 0), (.int .i64 0)]) 48 rfl Tryd.underlying53 info63 rfl (by decide) (by omega) u8 x8_1 (⟨a0, rdOf ByteArray.empty l1 x18_1, t301, x18_1⟩ : S63) [.string a0, .string (rdOf ByteArray.empty l1 x18_1), .int .i64 t301, .int .i64 x18_1] (fun _ => True) (fun _ => False) rfl rfl ?aP (fun _ hk => hk.elim) ?aF ?aO ?aB ?aS ?aL ?_; (case aP => exact k63_mkM _ _ _ (⟨a0, rdOf ByteArray.empty l1 x18_1, t301, x18_1⟩ : S63)); (case aB => exact (by repeat (first | (with_reducible first | exact HB.out | apply below_alloc | apply pw_below_drewN | apply below_drew1) | exact HB.out))); (case aF => exact (fun _ _ => trivial)); (case aO => exact (by (with_reducible repeat (first | apply Kd.R_alloc | apply Kd.R_drewN | apply Kd.R_drew)); exact HO_8.out)); (case aS => exact (below_size (by repeat (first | (with_reducible first | exact HB.out | apply below_alloc | apply pw_below_drewN | apply below_drew1) | exact HB.out)))); (case aL => have := LMc13.out; omega); intro v303 w17 ho hb hg hat; rw [← Ny302.out] at ho; have n0_ := Aside0.mk (hb); have n1_ := Aside0.mk (ho); clear HB; clear HO_8; have HB := n0_; have HO304 := n1_; clear n0_ n1_; clear ho hb hg hat))
                go_roundg k1
                case measure => have := HK1.out; omega
                case rel => exact ⟨(y302), (wrap64 (x18_1 + 1)), (by first | rfl | (simp; done) | (simp [*]; done)), H', ⟨by have := HK1.out; omega⟩, ⟨by (with_reducible repeat (first | apply Kd.R_alloc | apply Kd.R_drewN | apply Kd.R_drew)); exact HO304.out⟩, ⟨by repeat (first | (with_reducible first | exact HB.out | apply below_alloc | apply pw_below_drewN | apply below_drew1) | exact HB.out)⟩⟩
              · rw [if_neg c13] at H
                exact absurd H (by simp)
            · replace c11 := Bool.eq_false_iff.mpr c11
              subst c11
              have H1 : (fuzzysearch_rankFind.l0 k1 a0 a2 t297 x8_1 l1 (l1.length : Int) (wrap64 (x18_1 + 1))) = some r := by rw [if_neg (show ¬ (false = true) by decide)] at H; exact H
              clear H
              have H := H1
              clear H1
              have H' := Aside0.mk H
              clear H
              have p298 : 0 ≤ (x18_1 : Int) := of_decide_eq_true (by first | (with_reducible assumption) | assumption)
              have q298 : x18_1 < (l1.length : Int) := of_decide_eq_true (by first | (with_reducible assumption) | assumption)
              obtain ⟨ad298, e298, hx298_0⟩ := Kd.at_string HR1.out x18_1 p298 q298
              cases e298
              replace hx298_0 := (HB.out.cell (World.block_lt_of_cell? w _ hx298_0)).trans hx298_0
              replace p298 := eq_true p298
              replace q298 := eq_true q298
              go_wp2_with (first | ((with_reducible refine gate_callee (f := 55) rfl ?_); refine goesL_ (some 25) rfl rfl Tryd.func55 (by kernel_rfl) rfl #[.string (rdOf ByteArray.empty l1 x18_1), .bool a2] rfl (by (try simp only [List.map_toArray, List.map_cons, List.map_nil]); first | done | rfl | (simp only [List.length_drop, List.length_take]; rfl)) ?_; (with_reducible refine (fuzzysearch_stringTransform.calls (rdOf ByteArray.empty l1 x18_1) a2 t299 _ (by first | (with_reducible exact HAMB.out) | exact Amb.below HAMB.out (by repeat (first | (with_reducible first | exact HB.out | apply below_alloc | apply pw_below_drewN | apply below_drew1) | exact HB.out)) | exact Amb.below HAMB.out (by repeat (first | (with_reducible first | exact Below.refl _ _ | apply pw_below_drewN | apply below_drew1 | apply below_alloc)))) A9.out).mono ?_); rintro e w18 ⟨rfl, hb⟩; refine ⟨_, rfl, ?_⟩; have n0_ := Aside0.mk (Kd.R_below (by (with_reducible repeat (first | apply Kd.R_alloc | apply Kd.R_drewN | apply Kd.R_drew)); exact HO_8.out) hb); have n1_ := Aside0.mk (below_step (by repeat (first | (with_reducible first | exact HB.out | apply below_alloc | apply pw_below_drewN | apply below_drew1) | exact HB.out)) hb); clear HO_8; clear HB; have HO_8 := n0_; have HB := n1_; clear n0_ n1_; (try clear hb); (try clear hb2); (try clear hk); (try clear hi)) | ((with_reducible refine gate_callee (f := 56) rfl ?_); refine goesL_ (some 28) rfl rfl Tryd.func56 (by kernel_rfl) rfl #[.string t297, .string t299] rfl (by (try simp only [List.map_toArray, List.map_cons, List.map_nil]); first | done | rfl | (simp only [List.length_drop, List.length_take]; rfl)) ?_; (with_reducible refine (fuzzysearch_matchTransformed.calls t297 t299 false _ A10.out).mono ?_); rintro e w19 ⟨rfl, hb⟩; refine ⟨_, rfl, ?_⟩; have n0_ := Aside0.mk (Kd.R_below (by (with_reducible repeat (first | apply Kd.R_alloc | apply Kd.R_drewN | apply Kd.R_drew)); exact HO_8.out) hb); have n1_ := Aside0.mk (below_step (by repeat (first | (with_reducible first | exact HB.out | apply below_alloc | apply pw_below_drewN | apply below_drew1) | exact HB.out)) hb); clear HO_8; clear HB; have HO_8 := n0_; have HB := n1_; clear n0_ n1_; (try clear hb); (try clear hb2); (try clear hk); (try clear hi)))
              go_roundg k1
              case measure => have := HK1.out; omega
              case rel => exact ⟨(x8_1), (wrap64 (x18_1 + 1)), (by first | rfl | (simp; done) | (simp [*]; done)), H', ⟨by have := HK1.out; omega⟩, ⟨by (with_reducible repeat (first | apply Kd.R_alloc | apply Kd.R_drewN | apply Kd.R_drew)); exact HO_8.out⟩, ⟨by repeat (first | (with_reducible first | exact HB.out | apply below_alloc | apply pw_below_drewN | apply below_drew1) | exact HB.out)⟩⟩
          · rw [if_neg c8] at H
            exact absurd H (by simp)
        · rw [if_neg c7] at H
          exact absurd H (by simp)
      · rw [if_neg c6] at H
        have c6b0 : decide (x18_1 < (l1.length : Int)) = false := decide_eq_false c6
        clear c6
        obtain rfl := Option.some.inj H
        go_wp2
        go_ret
        exact ⟨_, by first | rfl | (simp [errW_none, errW_some] <;> rfl) | (simp [*, errW_none, errW_some] <;> rfl), by (with_reducible repeat (first | apply Kd.R_alloc | apply Kd.R_drewN | apply Kd.R_drew)); exact HO_8.out, by repeat (first | (with_reducible first | exact HB.out | apply below_alloc | apply pw_below_drewN | apply below_drew1) | exact HB.out)⟩

/-! ### fuzzysearch_RankFindFold: function 50 -/
def fuzzysearch_RankFindFold.f (k : Nat) (a0 : ByteArray) (l1 : List ByteArray) : Option ((List (S63))) := (fuzzysearch_foldTransformer.f).bind fun t305 => ((fuzzysearch_rankFind.f k a0 l1 t305).bind fun t306 => (some t306))
theorem fuzzysearch_RankFindFold.mono : ∀ a0 a1 k, LeO (fuzzysearch_RankFindFold.f k a0 a1) (fuzzysearch_RankFindFold.f (k + 1) a0 a1) := by
  intro a0 a1 k
  unfold fuzzysearch_RankFindFold.f
  repeat' first
      | (with_reducible exact fuzzysearch_rankFind.mono _ _ _ _)
      | (with_reducible exact LeO.refl _)
      | (with_reducible exact LeO.none _)
      | (with_reducible refine LeO.ite ?_ ?_)
      | (with_reducible refine LeO.bind ?_ (fun _ => ?_))
      | exact fuzzysearch_rankFind.mono _ _ _ _
      | exact LeO.none _
      | refine LeO.ite ?_ ?_
      | refine LeO.bind ?_ (fun _ => ?_)
set_option maxHeartbeats 8000000 in
set_option maxRecDepth 100000 in
theorem fuzzysearch_RankFindFold.calls (k : Nat) (a0 : ByteArray) (A1 : Option Addr) (c1 : Nat) (l1 : List ByteArray) (r : List (S63)) (w : World) (hr1 : Kd.C Kd.string w A1 l1.length l1) (hc1 : l1.length ≤ c1) (hA_ : Amb w) (h : fuzzysearch_RankFindFold.f k a0 l1 = some r) :
    Calls Tryd.prog 50 #[.string a0, .slice A1 l1.length c1] w fun e w' => ∃ v0_ : Value, e = .returned (v0_) ∧ Kd.R k63 63 w' w.heap.size (fun _ => True) v0_ r ∧ Below w.heap.size w w' := by
  have HR1 := Aside0.mk hr1
  have HC1 := Aside0.mk hc1
  clear hr1 hc1
  have HAMB := Aside0.mk hA_
  clear hA_
  have HB := Aside0.mk (Below.refl w.heap.size w)
  have H : ((fuzzysearch_foldTransformer.f).bind fun t305 => ((fuzzysearch_rankFind.f k a0 l1 t305).bind fun t306 => (some t306))) = some r := h
  clear h
  replace H := Option.bind_eq_some_iff.mp H
  obtain ⟨t305, A30, H⟩ := H
  replace H : ((fuzzysearch_rankFind.f k a0 l1 t305).bind fun t306 => (some t306)) = some r := H
  have A3 := Aside0.mk A30
  clear A30
  replace H := Option.bind_eq_some_iff.mp H
  obtain ⟨t306, A40, H⟩ := H
  replace H : (some t306) = some r := H
  have A4 := Aside0.mk A40
  clear A40
  obtain rfl := Option.some.inj H
  go_enter Tryd.func50, Tryd.ntmps50
  go_wp2_with (first | ((with_reducible refine gate_callee (f := 46) rfl ?_); refine goesL_ (some 7) rfl rfl Tryd.func46 (by kernel_rfl) rfl #[] rfl (by (try simp only [List.map_toArray, List.map_cons, List.map_nil]); first | done | rfl | (simp only [List.length_drop, List.length_take]; rfl)) ?_; (with_reducible refine (fuzzysearch_foldTransformer.calls  t305 _ A3.out).mono ?_); rintro e w' ⟨rfl, ⟨nd, rfl⟩⟩; refine ⟨_, rfl, ?_⟩) | ((with_reducible refine gate_callee (f := 59) rfl ?_); refine goesL_ (some 8) rfl rfl Tryd.func59 (by kernel_rfl) rfl #[.string a0, .slice A1 l1.length c1, .bool t305] rfl (by (try simp only [List.map_toArray, List.map_cons, List.map_nil]); first | done | rfl | (simp only [List.length_drop, List.length_take]; rfl)) ?_; (with_reducible refine (fuzzysearch_rankFind.calls k a0 _ _ l1 t305 t306 _ ?side1 ?side2 (by first | (with_reducible exact HAMB.out) | exact Amb.below HAMB.out (by repeat (first | (with_reducible first | exact HB.out | apply below_alloc | apply pw_below_drewN | apply below_drew1) | exact HB.out)) | exact Amb.below HAMB.out (by repeat (first | (with_reducible first | exact Below.refl _ _ | apply pw_below_drewN | apply below_drew1 | apply below_alloc)))) A4.out).mono ?_); (case side1 => repeat (first | exact HR1.out | (with_reducible refine Kd.C_alloc ?_ _) | (with_reducible refine Kd.C_drewN ?_ _) | (with_reducible refine Kd.C_drew ?_))); (case side2 => exact HC1.out); rintro e w5 ⟨v307, rfl, ho0, hb⟩; refine ⟨_, rfl, ?_⟩; have n0_ := Aside0.mk (Kd.R_lower ho0 (below_size (by repeat (first | (with_reducible first | exact HB.out | apply below_alloc | apply pw_below_drewN | apply below_drew1) | exact HB.out)))); have n1_ := Aside0.mk (below_step (by repeat (first | (with_reducible first | exact HB.out | apply below_alloc | apply pw_below_drewN | apply below_drew1) | exact HB.out)) hb); clear HB; have HO308 := n0_; have HB := n1_; clear n0_ n1_; (try clear hb); (try clear hb2); (try clear hk); (try clear hi); (try clear ho0)))
  go_ret
  exact ⟨_, by first | rfl | (simp [errW_none, errW_some] <;> rfl) | (simp [*, errW_none, errW_some] <;> rfl), by (with_reducible repeat (first | apply Kd.R_alloc | apply Kd.R_drewN | apply Kd.R_drew)); exact HO308.out, by repeat (first | (with_reducible first | exact HB.out | apply below_alloc | apply pw_below_drewN | apply below_drew1) | exact HB.out)⟩

/-! ### fuzzysearch_RankFind: function 51 -/
def fuzzysearch_RankFind.f (k : Nat) (a0 : ByteArray) (l1 : List ByteArray) : Option ((List (S63))) := (fuzzysearch_noopTransformer.f).bind fun t309 => ((fuzzysearch_rankFind.f k a0 l1 t309).bind fun t310 => (some t310))
theorem fuzzysearch_RankFind.mono : ∀ a0 a1 k, LeO (fuzzysearch_RankFind.f k a0 a1) (fuzzysearch_RankFind.f (k + 1) a0 a1) := by
  intro a0 a1 k
  unfold fuzzysearch_RankFind.f
  repeat' first
      | (with_reducible exact fuzzysearch_rankFind.mono _ _ _ _)
      | (with_reducible exact LeO.refl _)
      | (with_reducible exact LeO.none _)
      | (with_reducible refine LeO.ite ?_ ?_)
      | (with_reducible refine LeO.bind ?_ (fun _ => ?_))
      | exact fuzzysearch_rankFind.mono _ _ _ _
      | exact LeO.none _
      | refine LeO.ite ?_ ?_
      | refine LeO.bind ?_ (fun _ => ?_)
set_option maxHeartbeats 8000000 in
set_option maxRecDepth 100000 in
theorem fuzzysearch_RankFind.calls (k : Nat) (a0 : ByteArray) (A1 : Option Addr) (c1 : Nat) (l1 : List ByteArray) (r : List (S63)) (w : World) (hr1 : Kd.C Kd.string w A1 l1.length l1) (hc1 : l1.length ≤ c1) (hA_ : Amb w) (h : fuzzysearch_RankFind.f k a0 l1 = some r) :
    Calls Tryd.prog 51 #[.string a0, .slice A1 l1.length c1] w fun e w' => ∃ v0_ : Value, e = .returned (v0_) ∧ Kd.R k63 63 w' w.heap.size (fun _ => True) v0_ r ∧ Below w.heap.size w w' := by
  have HR1 := Aside0.mk hr1
  have HC1 := Aside0.mk hc1
  clear hr1 hc1
  have HAMB := Aside0.mk hA_
  clear hA_
  have HB := Aside0.mk (Below.refl w.heap.size w)
  have H : ((fuzzysearch_noopTransformer.f).bind fun t309 => ((fuzzysearch_rankFind.f k a0 l1 t309).bind fun t310 => (some t310))) = some r := h
  clear h
  replace H := Option.bind_eq_some_iff.mp H
  obtain ⟨t309, A30, H⟩ := H
  replace H : ((fuzzysearch_rankFind.f k a0 l1 t309).bind fun t310 => (some t310)) = some r := H
  have A3 := Aside0.mk A30
  clear A30
  replace H := Option.bind_eq_some_iff.mp H
  obtain ⟨t310, A40, H⟩ := H
  replace H : (some t310) = some r := H
  have A4 := Aside0.mk A40
  clear A40
  obtain rfl := Option.some.inj H
  go_enter Tryd.func51, Tryd.ntmps51
  go_wp2_with (first | ((with_reducible refine gate_callee (f := 47) rfl ?_); refine goesL_ (some 7) rfl rfl Tryd.func47 (by kernel_rfl) rfl #[] rfl (by (try simp only [List.map_toArray, List.map_cons, List.map_nil]); first | done | rfl | (simp only [List.length_drop, List.length_take]; rfl)) ?_; (with_reducible refine (fuzzysearch_noopTransformer.calls  t309 _ A3.out).mono ?_); rintro e w' ⟨rfl, ⟨nd, rfl⟩⟩; refine ⟨_, rfl, ?_⟩) | ((with_reducible refine gate_callee (f := 59) rfl ?_); refine goesL_ (some 8) rfl rfl Tryd.func59 (by kernel_rfl) rfl #[.string a0, .slice A1 l1.length c1, .bool t309] rfl (by (try simp only [List.map_toArray, List.map_cons, List.map_nil]); first | done | rfl | (simp only [List.length_drop, List.length_take]; rfl)) ?_; (with_reducible refine (fuzzysearch_rankFind.calls k a0 _ _ l1 t309 t310 _ ?side1 ?side2 (by first | (with_reducible exact HAMB.out) | exact Amb.below HAMB.out (by repeat (first | (with_reducible first | exact HB.out | apply below_alloc | apply pw_below_drewN | apply below_drew1) | exact HB.out)) | exact Amb.below HAMB.out (by repeat (first | (with_reducible first | exact Below.refl _ _ | apply pw_below_drewN | apply below_drew1 | apply below_alloc)))) A4.out).mono ?_); (case side1 => repeat (first | exact HR1.out | (with_reducible refine Kd.C_alloc ?_ _) | (with_reducible refine Kd.C_drewN ?_ _) | (with_reducible refine Kd.C_drew ?_))); (case side2 => exact HC1.out); rintro e w5 ⟨v311, rfl, ho0, hb⟩; refine ⟨_, rfl, ?_⟩; have n0_ := Aside0.mk (Kd.R_lower ho0 (below_size (by repeat (first | (with_reducible first | exact HB.out | apply below_alloc | apply pw_below_drewN | apply below_drew1) | exact HB.out)))); have n1_ := Aside0.mk (below_step (by repeat (first | (with_reducible first | exact HB.out | apply below_alloc | apply pw_below_drewN | apply below_drew1) | exact HB.out)) hb); clear HB; have HO312 := n0_; have HB := n1_; clear n0_ n1_; (try clear hb); (try clear hb2); (try clear hk); (try clear hi); (try clear ho0)))
  go_ret
  exact ⟨_, by first | rfl | (simp [errW_none, errW_some] <;> rfl) | (simp [*, errW_none, errW_some] <;> rfl), by (with_reducible repeat (first | apply Kd.R_alloc | apply Kd.R_drewN | apply Kd.R_drew)); exact HO312.out, by repeat (first | (with_reducible first | exact HB.out | apply below_alloc | apply pw_below_drewN | apply below_drew1) | exact HB.out)⟩

/-! ### impl_ranks: function 40 -/
def impl_ranks.f (k : Nat) (a0 : Bool) (a1 : ByteArray) (l2 : List ByteArray) : Option ((List (S63))) := if ([] : List ByteArray).length + l2.length < 8796093022208 then ((some (([] : List ByteArray) ++ l2 : List ByteArray)).bind fun y313 => (if a0 = true then ((fuzzysearch_RankFindFold.f k a1 y313).bind fun t316 => (some t316)) else ((fuzzysearch_RankFind.f k a1 y313).bind fun t319 => (some t319)))) else (none)
theorem impl_ranks.mono : ∀ a0 a1 a2 k, LeO (impl_ranks.f k a0 a1 a2) (impl_ranks.f (k + 1) a0 a1 a2) := by
  intro a0 a1 a2 k
  unfold impl_ranks.f
  repeat' first
      | (with_reducible exact fuzzysearch_RankFind.mono _ _ _)
      | (with_reducible exact fuzzysearch_RankFindFold.mono _ _ _)
      | (with_reducible exact LeO.refl _)
      | (with_reducible exact LeO.none _)
      | (with_reducible refine LeO.ite ?_ ?_)
      | (with_reducible refine LeO.bind ?_ (fun _ => ?_))
      | exact fuzzysearch_RankFind.mono _ _ _
      | exact fuzzysearch_RankFindFold.mono _ _ _
      | exact LeO.none _
      | refine LeO.ite ?_ ?_
      | refine LeO.bind ?_ (fun _ => ?_)
set_option maxHeartbeats 8000000 in
set_option maxRecDepth 100000 in
theorem impl_ranks.calls (k : Nat) (a0 : Bool) (a1 : ByteArray) (A2 : Option Addr) (c2 : Nat) (l2 : List ByteArray) (r : List (S63)) (w : World) (hr2 : Kd.C Kd.string w A2 l2.length l2) (hc2 : l2.length ≤ c2) (hA_ : Amb w) (h : impl_ranks.f k a0 a1 l2 = some r) :
    Calls Tryd.prog 40 #[.bool a0, .string a1, .slice A2 l2.length c2] w fun e w' => ∃ v0_ : Value, e = .returned (v0_) ∧ Kd.R k63 63 w' w.heap.size (fun _ => True) v0_ r ∧ Below w.heap.size w w' := by
  have HR2 := Aside0.mk hr2
  have HC2 := Aside0.mk hc2
  clear hr2 hc2
  have HAMB := Aside0.mk hA_
  clear hA_
  have HB := Aside0.mk (Below.refl w.heap.size w)
  have H : (if ([] : List ByteArray).length + l2.length < 8796093022208 then ((some (([] : List ByteArray) ++ l2 : List ByteArray)).bind fun y313 => (if a0 = true then ((fuzzysearch_RankFindFold.f k a1 y313).bind fun t316 => (some t316)) else ((fuzzysearch_RankFind.f k a1 y313).bind fun t319 => (some t319)))) else (none)) = some r := h
  clear h
  by_cases c4 : ([] : List ByteArray).length + l2.length < 8796093022208
  · rw [if_pos c4] at H
    have LMc4 := Aside0.mk c4
    clear c4
    obtain ⟨y313, hy313⟩ : ∃ y_ : List ByteArray, y_ = (([] : List ByteArray) ++ l2) := ⟨_, rfl⟩
    replace H : (if a0 = true then ((fuzzysearch_RankFindFold.f k a1 y313).bind fun t316 => (some t316)) else ((fuzzysearch_RankFind.f k a1 y313).bind fun t319 => (some t319))) = some r := by first | (rw [hy313]; with_reducible exact H) | (have H2_ := (Option.bind_some _ _).symm.trans H; rw [hy313]; with_reducible exact H2_) | (have H2_ := (Option.bind_some _ _).symm.trans H; with_reducible exact H2_) | with_reducible exact H | (rw [hy313]; exact H) | exact H
    have Ny313 := Aside0.mk hy313
    clear hy313
    by_cases c5 : a0 = true
    · subst c5
      have H1 : ((fuzzysearch_RankFindFold.f k a1 y313).bind fun t316 => (some t316)) = some r := by rw [if_pos rfl] at H; exact H
      clear H
      have H := H1
      clear H1
      replace H := Option.bind_eq_some_iff.mp H
      obtain ⟨t316, A60, H⟩ := H
      replace H : (some t316) = some r := H
      have A6 := Aside0.mk A60
      clear A60
      obtain rfl := Option.some.inj H
      go_enter Tryd.func40, Tryd.ntmps40
      go_wp2_with (first | ((with_reducible refine gate_builtin (b := .append) (xs := #[.const (.slice none 0 0), .tmp 8]) rfl ?_); at_builtin; refine Kd.R_append_rows Kd.string (w0 := w) w.heap.size rfl (.const (.slice none 0 0)) (.tmp 8) 25 9 (.string ⟨#[]⟩) 16 rfl Tryd.underlying25 info9 rfl (by decide) (by omega) (.slice none 0 0) ([] : List ByteArray) l2 _ _ _ (fun _ => True) (fun _ => False) rfl rfl ?aO ?aR (fun _ _ h => h) (fun _ h => h.elim) ?aF ?aB ?aS ?aL ?_; (case aR => repeat (first | exact HR2.out | (with_reducible refine Kd.C_alloc ?_ _) | (with_reducible refine Kd.C_drewN ?_ _) | (with_reducible refine Kd.C_drew ?_))); (case aB => exact (by repeat (first | (with_reducible first | exact HB.out | apply below_alloc | apply pw_below_drewN | apply below_drew1) | exact HB.out))); (case aF => exact (fun _ _ => trivial)); (case aO => exact ((Kd.R_nil _ _ _ _ (fun _ => True)))); (case aS => exact (below_size (by repeat (first | (with_reducible first | exact HB.out | apply below_alloc | apply pw_below_drewN | apply below_drew1) | exact HB.out)))); (case aL => have := LMc4.out; omega); intro v314 w7 ho hb hg hat; rw [← Ny313.out] at ho; have n0_ := Aside0.mk (hb); have n1_ := Aside0.mk (ho); clear HB; have HB := n0_; have HO315 := n1_; clear n0_ n1_; clear ho hb hg hat; obtain ⟨Ao8, co8, eo8⟩ := Kd.R_slice HO315.out; subst eo8) | ((with_reducible refine gate_callee (f := 50) rfl ?_); refine goesL_ (some 13) rfl rfl Tryd.func50 (by kernel_rfl) rfl #[.string a1, .slice Ao8 y313.length co8] rfl (by (try simp only [List.map_toArray, List.map_cons, List.map_nil]); first | done | rfl | (simp only [List.length_drop, List.length_take]; rfl)) ?_; (with_reducible refine (fuzzysearch_RankFindFold.calls k a1 _ _ y313 t316 _ ?side1 ?side2 (by first | (with_reducible exact HAMB.out) | exact Amb.below HAMB.out (by repeat (first | (with_reducible first | exact HB.out | apply below_alloc | apply pw_below_drewN | apply below_drew1) | exact HB.out)) | exact Amb.below HAMB.out (by repeat (first | (with_reducible first | exact Below.refl _ _ | apply pw_below_drewN | apply below_drew1 | apply below_alloc)))) A6.out).mono ?_); (case side1 => repeat (first | exact (Kd.R_reads' HO315.out).2.2 | (with_reducible refine Kd.C_alloc ?_ _) | (with_reducible refine Kd.C_drewN ?_ _) | (with_reducible refine Kd.C_drew ?_))); (case side2 => exact (Kd.R_reads' HO315.out).2.1); rintro e w9 ⟨v317, rfl, ho0, hb⟩; refine ⟨_, rfl, ?_⟩; have n0_ := Aside0.mk (Kd.R_below (by (with_reducible repeat (first | apply Kd.R_alloc | apply Kd.R_drewN | apply Kd.R_drew)); exact HO315.out) hb); have n1_ := Aside0.mk (Kd.R_lower ho0 (below_size (by repeat (first | (with_reducible first | exact HB.out | apply below_alloc | apply pw_below_drewN | apply below_drew1) | exact HB.out)))); have n2_ := Aside0.mk (below_step (by repeat (first | (with_reducible first | exact HB.out | apply below_alloc | apply pw_below_drewN | apply below_drew1) | exact HB.out)) hb); clear HO315; clear HB; have HO315 := n0_; have HO318 := n1_; have HB := n2_; clear n0_ n1_ n2_; (try clear hb); (try clear hb2); (try clear hk); (try clear hi); (try clear ho0)))
      go_ret
      exact ⟨_, by first | rfl | (simp [errW_none, errW_some] <;> rfl) | (simp [*, errW_none, errW_some] <;> rfl), by (with_reducible repeat (first | apply Kd.R_alloc | apply Kd.R_drewN | apply Kd.R_drew)); exact HO318.out, by repeat (first | (with_reducible first | exact HB.out | apply below_alloc | apply pw_below_drewN | apply below_drew1) | exact HB.out)⟩
    · replace c5 := Bool.eq_false_iff.mpr c5
      subst c5
      have H1 : ((fuzzysearch_RankFind.f k a1 y313).bind fun t319 => (some t319)) = some r := by rw [if_neg (show ¬ (false = true) by decide)] at H; exact H
      clear H
      have H := H1
      clear H1
      replace H := Option.bind_eq_some_iff.mp H
      obtain ⟨t319, A100, H⟩ := H
      replace H : (some t319) = some r := H
      have A10 := Aside0.mk A100
      clear A100
      obtain rfl := Option.some.inj H
      go_enter Tryd.func40, Tryd.ntmps40
      go_wp2_with (first | ((with_reducible refine gate_builtin (b := .append) (xs := #[.const (.slice none 0 0), .tmp 8]) rfl ?_); at_builtin; refine Kd.R_append_rows Kd.string (w0 := w) w.heap.size rfl (.const (.slice none 0 0)) (.tmp 8) 25 9 (.string ⟨#[]⟩) 16 rfl Tryd.underlying25 info9 rfl (by decide) (by omega) (.slice none 0 0) ([] : List ByteArray) l2 _ _ _ (fun _ => True) (fun _ => False) rfl rfl ?aO ?aR (fun _ _ h => h) (fun _ h => h.elim) ?aF ?aB ?aS ?aL ?_; (case aR => repeat (first | exact HR2.out | (with_reducible refine Kd.C_alloc ?_ _) | (with_reducible refine Kd.C_drewN ?_ _) | (with_reducible refine Kd.C_drew ?_))); (case aB => exact (by repeat (first | (with_reducible first | exact HB.out | apply below_alloc | apply pw_below_drewN | apply below_drew1) | exact HB.out))); (case aF => exact (fun _ _ => trivial)); (case aO => exact ((Kd.R_nil _ _ _ _ (fun _ => True)))); (case aS => exact (below_size (by repeat (first | (with_reducible first | exact HB.out | apply below_alloc | apply pw_below_drewN | apply below_drew1) | exact HB.out)))); (case aL => have := LMc4.out; omega); intro v314 w11 ho hb hg hat; rw [← Ny313.out] at ho; have n0_ := Aside0.mk (hb); have n1_ := Aside0.mk (ho); clear HB; have HB := n0_; have HO315 := n1_; clear n0_ n1_; clear ho hb hg hat; obtain ⟨Ao12, co12, eo12⟩ := Kd.R_slice HO315.out; subst eo12) | ((with_reducible refine gate_callee (f := 51) rfl ?_); refine goesL_ (some 16) rfl rfl Tryd.func51 (by kernel_rfl) rfl #[.string a1, .slice Ao12 y313.length co12] rfl (by (try simp only [List.map_toArray, List.map_cons, List.map_nil]); first | done | rfl | (simp only [List.length_drop, List.length_take]; rfl)) ?_; (with_reducible refine (fuzzysearch_RankFind.calls k a1 _ _ y313 t319 _ ?side1 ?side2 (by first | (with_reducible exact HAMB.out) | exact Amb.below HAMB.out (by repeat (first | (with_reducible first | exact HB.out | apply below_alloc | apply pw_below_drewN | apply below_drew1) | exact HB.out)) | exact Amb.below HAMB.out (by repeat (first | (with_reducible first | exact Below.refl _ _ | apply pw_below_drewN | apply below_drew1 | apply below_alloc)))) A10.out).mono ?_); (case side1 => repeat (first | exact (Kd.R_reads' HO315.out).2.2 | (with_reducible refine Kd.C_alloc ?_ _) | (with_reducible refine Kd.C_drewN ?_ _) | (with_reducible refine Kd.C_drew ?_))); (case side2 => exact (Kd.R_reads' HO315.out).2.1); rintro e w13 ⟨v320, rfl, ho0, hb⟩; refine ⟨_, rfl, ?_⟩; have n0_ := Aside0.mk (Kd.R_below (by (with_reducible repeat (first | apply Kd.R_alloc | apply Kd.R_drewN | apply Kd.R_drew)); exact HO315.out) hb); have n1_ := Aside0.mk (Kd.R_lower ho0 (below_size (by repeat (first | (with_reducible first | exact HB.out | apply below_alloc | apply pw_below_drewN | apply below_drew1) | exact HB.out)))); have n2_ := Aside0.mk (below_step (by repeat (first | (with_reducible first | exact HB.out | apply below_alloc | apply pw_below_drewN | apply below_drew1) | exact HB.out)) hb); clear HO315; clear HB; have HO315 := n0_; have HO321 := n1_; have HB := n2_; clear n0_ n1_ n2_; (try clear hb); (try clear hb2); (try clear hk); (try clear hi); (try clear ho0)))
      go_ret
      exact ⟨_, by first | rfl | (simp [errW_none, errW_some] <;> rfl) | (simp [*, errW_none, errW_some] <;> rfl), by (with_reducible repeat (first | apply Kd.R_alloc | apply Kd.R_drewN | apply Kd.R_drew)); exact HO321.out, by repeat (first | (with_reducible first | exact HB.out | apply below_alloc | apply pw_below_drewN | apply below_drew1) | exact HB.out)⟩
  · rw [if_neg c4] at H
    exact absurd H (by simp)

/-! ### impl_RankFind: function 24 -/
def impl_RankFind.f (k : Nat) (a0 : Bool) (a1 : Bool) (a2 : ByteArray) (l3 : List ByteArray) : Option ((List (S50))) := (impl_areTexts.f k a1 a2 l3).bind fun t322 => (if t322 = true then ((impl_ranks.f k a0 a2 l3).bind fun t323 => ((impl_ranked.f k t323).bind fun t326 => (some t326))) else (some ([] : List (S50))))
theorem impl_RankFind.mono : ∀ a0 a1 a2 a3 k, LeO (impl_RankFind.f k a0 a1 a2 a3) (impl_RankFind.f (k + 1) a0 a1 a2 a3) := by
  intro a0 a1 a2 a3 k
  unfold impl_RankFind.f
  repeat' first
      | (with_reducible exact impl_areTexts.mono _ _ _ _)
      | (with_reducible exact impl_ranked.mono _ _)
      | (with_reducible exact impl_ranks.mono _ _ _ _)
      | (with_reducible exact LeO.refl _)
      | (with_reducible exact LeO.none _)
      | (with_reducible refine LeO.ite ?_ ?_)
      | (with_reducible refine LeO.bind ?_ (fun _ => ?_))
      | exact impl_areTexts.mono _ _ _ _
      | exact impl_ranked.mono _ _
      | exact impl_ranks.mono _ _ _ _
      | exact LeO.none _
      | refine LeO.ite ?_ ?_
      | refine LeO.bind ?_ (fun _ => ?_)
set_option maxHeartbeats 8000000 in
set_option maxRecDepth 100000 in
theorem impl_RankFind.calls (k : Nat) (a0 : Bool) (a1 : Bool) (a2 : ByteArray) (A3 : Option Addr) (c3 : Nat) (l3 : List ByteArray) (r : List (S50)) (w : World) (hr3 : Kd.C Kd.string w A3 l3.length l3) (hc3 : l3.length ≤ c3) (hA_ : Amb w) (h : impl_RankFind.f k a0 a1 a2 l3 = some r) :
    Calls Tryd.prog 24 #[.bool a0, .bool a1, .string a2, .slice A3 l3.length c3] w fun e w' => ∃ v0_ : Value, e = .returned (v0_) ∧ Kd.R k50 50 w' w.heap.size (fun _ => True) v0_ r ∧ Below w.heap.size w w' := by
  have HR3 := Aside0.mk hr3
  have HC3 := Aside0.mk hc3
  clear hr3 hc3
  have HAMB := Aside0.mk hA_
  clear hA_
  have HB := Aside0.mk (Below.refl w.heap.size w)
  have H : ((impl_areTexts.f k a1 a2 l3).bind fun t322 => (if t322 = true then ((impl_ranks.f k a0 a2 l3).bind fun t323 => ((impl_ranked.f k t323).bind fun t326 => (some t326))) else (some ([] : List (S50))))) = some r := h
  clear h
  replace H := Option.bind_eq_some_iff.mp H
  obtain ⟨t322, A50, H⟩ := H
  replace H : (if t322 = true then ((impl_ranks.f k a0 a2 l3).bind fun t323 => ((impl_ranked.f k t323).bind fun t326 => (some t326))) else (some ([] : List (S50)))) = some r := H
  have A5 := Aside0.mk A50
  clear A50
  by_cases c6 : t322 = true
  · subst c6
    have H1 : ((impl_ranks.f k a0 a2 l3).bind fun t323 => ((impl_ranked.f k t323).bind fun t326 => (some t326))) = some r := by rw [if_pos rfl] at H; exact H
    clear H
    have H := H1
    clear H1
    replace H := Option.bind_eq_some_iff.mp H
    obtain ⟨t323, A70, H⟩ := H
    replace H : ((impl_ranked.f k t323).bind fun t326 => (some t326)) = some r := H
    have A7 := Aside0.mk A70
    clear A70
    replace H := Option.bind_eq_some_iff.mp H
    obtain ⟨t326, A80, H⟩ := H
    replace H : (some t326) = some r := H
    have A8 := Aside0.mk A80
    clear A80
    obtain rfl := Option.some.inj H
    go_enter Tryd.func24, Tryd.ntmps24
    go_wp2_with (first | ((with_reducible refine gate_callee (f := 31) rfl ?_); refine goesL_ (some 12) rfl rfl Tryd.func31 (by kernel_rfl) rfl #[.bool a1, .string a2, .slice A3 l3.length c3] rfl (by (try simp only [List.map_toArray, List.map_cons, List.map_nil]); first | done | rfl | (simp only [List.length_drop, List.length_take]; rfl)) ?_; (with_reducible refine (impl_areTexts.calls k a1 a2 _ _ l3 true _ ?side1 ?side2 A5.out).mono ?_); (case side1 => repeat (first | exact HR3.out | (with_reducible refine Kd.C_alloc ?_ _) | (with_reducible refine Kd.C_drewN ?_ _) | (with_reducible refine Kd.C_drew ?_))); (case side2 => exact HC3.out); rintro e w9 ⟨rfl, hb⟩; refine ⟨_, rfl, ?_⟩; have n0_ := Aside0.mk (below_step (by repeat (first | (with_reducible first | exact HB.out | apply below_alloc | apply pw_below_drewN | apply below_drew1) | exact HB.out)) hb); clear HB; have HB := n0_; clear n0_; (try clear hb); (try clear hb2); (try clear hk); (try clear hi)) | ((with_reducible refine gate_callee (f := 40) rfl ?_); refine goesL_ (some 17) rfl rfl Tryd.func40 (by kernel_rfl) rfl #[.bool a0, .string a2, .slice A3 l3.length c3] rfl (by (try simp only [List.map_toArray, List.map_cons, List.map_nil]); first | done | rfl | (simp only [List.length_drop, List.length_take]; rfl)) ?_; (with_reducible refine (impl_ranks.calls k a0 a2 _ _ l3 t323 _ ?side1 ?side2 (by first | (with_reducible exact HAMB.out) | exact Amb.below HAMB.out (by repeat (first | (with_reducible first | exact HB.out | apply below_alloc | apply pw_below_drewN | apply below_drew1) | exact HB.out)) | exact Amb.below HAMB.out (by repeat (first | (with_reducible first | exact Below.refl _ _ | apply pw_below_drewN | apply below_drew1 | apply below_alloc)))) A7.out).mono ?_); (case side1 => repeat (first | exact (Kd.C_below HR3.out HB.out) | (with_reducible refine Kd.C_alloc ?_ _) | (with_reducible refine Kd.C_drewN ?_ _) | (with_reducible refine Kd.C_drew ?_))); (case side2 => exact HC3.out); rintro e w10 ⟨v324, rfl, ho0, hb⟩; refine ⟨_, rfl, ?_⟩; have n0_ := Aside0.mk (Kd.R_lower ho0 (below_size (by repeat (first | (with_reducible first | exact HB.out | apply below_alloc | apply pw_below_drewN | apply below_drew1) | exact HB.out)))); have n1_ := Aside0.mk (below_step (by repeat (first | (with_reducible first | exact HB.out | apply below_alloc | apply pw_below_drewN | apply below_drew1) | exact HB.out)) hb); clear HB; have HO325 := n0_; have HB := n1_; clear n0_ n1_; (try clear hb); (try clear hb2); (try clear hk); (try clear hi); (try clear ho0); obtain ⟨Ao11, co11, eo11⟩ := Kd.R_slice HO325.out; subst eo11) | ((with_reducible refine gate_callee (f := 39) rfl ?_); refine goesL_ (some 18) rfl rfl Tryd.func39 (by kernel_rfl) rfl #[.slice Ao11 t323.length co11] rfl (by (try simp only [List.map_toArray, List.map_cons, List.map_nil]); first | done | rfl | (simp only [List.length_drop, List.length_take]; rfl)) ?_; (with_reducible refine (impl_ranked.calls k _ _ t323 t326 _ ?side1 ?side2 A8.out).mono ?_); (case side1 => repeat (first | exact (Kd.R_reads' HO325.out).2.2 | (with_reducible refine Kd.C_alloc ?_ _) | (with_reducible refine Kd.C_drewN ?_ _) | (with_reducible refine Kd.C_drew ?_))); (case side2 => exact (Kd.R_reads' HO325.out).2.1); rintro e w12 ⟨v327, rfl, ho0, hb⟩; refine ⟨_, rfl, ?_⟩; have n0_ := Aside0.mk (Kd.R_below (by (with_reducible repeat (first | apply Kd.R_alloc | apply Kd.R_drewN | apply Kd.R_drew)); exact HO325.out) hb); have n1_ := Aside0.mk (Kd.R_lower ho0 (below_size (by repeat (first | (with_reducible first | exact HB.out | apply below_alloc | apply pw_below_drewN | apply below_drew1) | exact HB.out)))); have n2_ := Aside0.mk (below_step (by repeat (first | (with_reducible first | exact HB.out | apply below_alloc | apply pw_below_drewN | apply below_drew1) | exact HB.out)) hb); clear HO325; clear HB; have HO325 := n0_; have HO328 := n1_; have HB := n2_; clear n0_ n1_ n2_; (try clear hb); (try clear hb2); (try clear hk); (try clear hi); (try clear ho0)))
    go_ret
    exact ⟨_, by first | rfl | (simp [errW_none, errW_some] <;> rfl) | (simp [*, errW_none, errW_some] <;> rfl), by (with_reducible repeat (first | apply Kd.R_alloc | apply Kd.R_drewN | apply Kd.R_drew)); exact HO328.out, by repeat (first | (with_reducible first | exact HB.out | apply below_alloc | apply pw_below_drewN | apply below_drew1) | exact HB.out)⟩
  · replace c6 := Bool.eq_false_iff.mpr c6
    subst c6
    have H1 : (some ([] : List (S50))) = some r := by rw [if_neg (show ¬ (false = true) by decide)] at H; exact H
    clear H
    have H := H1
    clear H1
    obtain rfl := Option.some.inj H
    go_enter Tryd.func24, Tryd.ntmps24
    go_wp2_with (first | ((with_reducible refine gate_callee (f := 31) rfl ?_); refine goesL_ (some 12) rfl rfl Tryd.func31 (by kernel_rfl) rfl #[.bool a1, .string a2, .slice A3 l3.length c3] rfl (by (try simp only [List.map_toArray, List.map_cons, List.map_nil]); first | done | rfl | (simp only [List.length_drop, List.length_take]; rfl)) ?_; (with_reducible refine (impl_areTexts.calls k a1 a2 _ _ l3 false _ ?side1 ?side2 A5.out).mono ?_); (case side1 => repeat (first | exact HR3.out | (with_reducible refine Kd.C_alloc ?_ _) | (with_reducible refine Kd.C_drewN ?_ _) | (with_reducible refine Kd.C_drew ?_))); (case side2 => exact HC3.out); rintro e w13 ⟨rfl, hb⟩; refine ⟨_, rfl, ?_⟩; have n0_ := Aside0.mk (below_step (by repeat (first | (with_reducible first | exact HB.out | apply below_alloc | apply pw_below_drewN | apply below_drew1) | exact HB.out)) hb); clear HB; have HB := n0_; clear n0_; (try clear hb); (try clear hb2); (try clear hk); (try clear hi)))
    go_ret
    exact ⟨_, by first | rfl | (simp [errW_none, errW_some] <;> rfl) | (simp [*, errW_none, errW_some] <;> rfl), by first | exact Kd.R_nil _ _ _ _ _ | exact Kd.N_nil _ _ _ _ _ | exact Kd.V_nil _ _ _ _ _ | exact Kd.Q_nil _ _ _ _ _ | exact Kd.S_nil _ _ _ _ _, by repeat (first | (with_reducible first | exact HB.out | apply below_alloc | apply pw_below_drewN | apply below_drew1) | exact HB.out)⟩

end Go.Proofs.YtfkemfkleceeiaaDoor.P
