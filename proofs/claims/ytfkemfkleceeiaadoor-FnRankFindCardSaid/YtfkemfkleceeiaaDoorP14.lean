-- written by a program of this session (wip/tools), out of the translation
import Derived.Test.YtfkemfkleceeiaaDoorP0
import Derived.Test.YtfkemfkleceeiaaDoorP6
import Derived.Test.YtfkemfkleceeiaaDoorP8
import Derived.Test.YtfkemfkleceeiaaDoorP10
import Derived.Test.YtfkemfkleceeiaaDoorP12
import Derived.Test.YtfkemfkleceeiaaDoorExtRank
import Derived.Test.YtfkemfkleceeiaaDoorExtFold
import Derived.Test.YtfkemfkleceeiaaDoorP2
import Derived.Test.YtfkemfkleceeiaaDoorP4
namespace Go.Proofs.YtfkemfkleceeiaaDoor.P
open Go.RowKit Go.Proofs.YtfkemfkleceeiaaDoorW.PrintWords Go.Proofs.YtfkemfkleceeiaaDoorW.PrintLast Go.Proofs.YtfkemfkleceeiaaDoorW.PrintMore
attribute [local go_sem] max2_int min2_int max_two min_two max_three min_three max_four min_four   -- for this text's walks alone
set_option linter.unusedVariables false
set_option linter.unusedSimpArgs false

/-! ### fuzzysearch_RankMatch: function 38 -/
def fuzzysearch_RankMatch.f (a0 : ByteArray) (a1 : ByteArray) : Option (Int) := (fuzzysearch_noopTransformer.f).bind fun t262 => ((fuzzysearch_rank.f a0 a1 t262).bind fun t263 => (some t263))
set_option maxHeartbeats 8000000 in
set_option maxRecDepth 100000 in
theorem fuzzysearch_RankMatch.calls (a0 : ByteArray) (a1 : ByteArray) (r : Int) (w : World) (hA_ : Amb w) (h : fuzzysearch_RankMatch.f a0 a1 = some r) :
    Calls Tryd.prog 38 #[.string a0, .string a1] w fun e w' => e = .returned (.int .i64 r) ∧ Below w.heap.size w w' := by
  have HAMB := Aside0.mk hA_
  clear hA_
  have HB := Aside0.mk (Below.refl w.heap.size w)
  have H : ((fuzzysearch_noopTransformer.f).bind fun t262 => ((fuzzysearch_rank.f a0 a1 t262).bind fun t263 => (some t263))) = some r := h
  clear h
  replace H := Option.bind_eq_some_iff.mp H
  obtain ⟨t262, A30, H⟩ := H
  replace H : ((fuzzysearch_rank.f a0 a1 t262).bind fun t263 => (some t263)) = some r := H
  have A3 := Aside0.mk A30
  clear A30
  replace H := Option.bind_eq_some_iff.mp H
  obtain ⟨t263, A40, H⟩ := H
  replace H : (some t263) = some r := H
  have A4 := Aside0.mk A40
  clear A40
  obtain rfl := Option.some.inj H
  go_enter Tryd.func38, Tryd.ntmps38
  go_wp2_with (first | ((with_reducible refine gate_callee (f := 47) rfl ?_); refine goesL_ (some 7) rfl rfl Tryd.func47 (by kernel_rfl) rfl #[] rfl (by (try simp only [List.map_toArray, List.map_cons, List.map_nil]); first | done | rfl | (simp only [List.length_drop, List.length_take]; rfl)) ?_; (with_reducible refine (fuzzysearch_noopTransformer.calls  t262 _ A3.out).mono ?_); rintro e w' ⟨rfl, ⟨nd, rfl⟩⟩; refine ⟨_, rfl, ?_⟩) | ((with_reducible refine gate_callee (f := 49) rfl ?_); refine goesL_ (some 8) rfl rfl Tryd.func49 (by kernel_rfl) rfl #[.string a0, .string a1, .bool t262] rfl (by (try simp only [List.map_toArray, List.map_cons, List.map_nil]); first | done | rfl | (simp only [List.length_drop, List.length_take]; rfl)) ?_; (with_reducible refine (fuzzysearch_rank.calls a0 a1 t262 t263 _ (by first | (with_reducible exact HAMB.out) | exact Amb.below HAMB.out (by repeat (first | (with_reducible first | exact HB.out | apply below_alloc | apply pw_below_drewN | apply below_drew1) | exact HB.out)) | exact Amb.below HAMB.out (by repeat (first | (with_reducible first | exact Below.refl _ _ | apply pw_below_drewN | apply below_drew1 | apply below_alloc)))) A4.out).mono ?_); rintro e w5 ⟨rfl, hb⟩; refine ⟨_, rfl, ?_⟩; have n0_ := Aside0.mk (below_step (by repeat (first | (with_reducible first | exact HB.out | apply below_alloc | apply pw_below_drewN | apply below_drew1) | exact HB.out)) hb); clear HB; have HB := n0_; clear n0_; (try clear hb); (try clear hb2); (try clear hk); (try clear hi)))
  go_ret
  exact ⟨by first | rfl | (simp [errW_none, errW_some] <;> rfl) | (simp [*, errW_none, errW_some] <;> rfl), by repeat (first | (with_reducible first | exact HB.out | apply below_alloc | apply pw_below_drewN | apply below_drew1) | exact HB.out)⟩

/-! ### impl_Rank: function 21 -/
def impl_Rank.f (k : Nat) (a0 : Bool) (a1 : Bool) (a2 : ByteArray) (a3 : ByteArray) : Option (Int) := (impl_areTexts.f k a1 a2 (([a3] : List ByteArray))).bind fun t267 => (if t267 = true then (if a0 = true then ((fuzzysearch_RankMatchFold.f a2 a3).bind fun t268 => (some t268)) else ((fuzzysearch_RankMatch.f a2 a3).bind fun t269 => (some t269))) else (some (-1)))
theorem impl_Rank.mono : ∀ a0 a1 a2 a3 k, LeO (impl_Rank.f k a0 a1 a2 a3) (impl_Rank.f (k + 1) a0 a1 a2 a3) := by
  intro a0 a1 a2 a3 k
  unfold impl_Rank.f
  repeat' first
      | (with_reducible exact impl_areTexts.mono _ _ _ _)
      | (with_reducible exact LeO.refl _)
      | (with_reducible exact LeO.none _)
      | (with_reducible refine LeO.ite ?_ ?_)
      | (with_reducible refine LeO.bind ?_ (fun _ => ?_))
      | exact impl_areTexts.mono _ _ _ _
      | exact LeO.none _
      | refine LeO.ite ?_ ?_
      | refine LeO.bind ?_ (fun _ => ?_)
set_option maxHeartbeats 8000000 in
set_option maxRecDepth 100000 in
theorem impl_Rank.calls (k : Nat) (a0 : Bool) (a1 : Bool) (a2 : ByteArray) (a3 : ByteArray) (r : Int) (w : World) (hA_ : Amb w) (h : impl_Rank.f k a0 a1 a2 a3 = some r) :
    Calls Tryd.prog 21 #[.bool a0, .bool a1, .string a2, .string a3] w fun e w' => e = .returned (.int .i64 r) ∧ Below w.heap.size w w' := by
  have HAMB := Aside0.mk hA_
  clear hA_
  have HB := Aside0.mk (Below.refl w.heap.size w)
  have H : ((impl_areTexts.f k a1 a2 (([a3] : List ByteArray))).bind fun t267 => (if t267 = true then (if a0 = true then ((fuzzysearch_RankMatchFold.f a2 a3).bind fun t268 => (some t268)) else ((fuzzysearch_RankMatch.f a2 a3).bind fun t269 => (some t269))) else (some (-1)))) = some r := h
  clear h
  obtain ⟨y264, hy264⟩ : ∃ y_ : List ByteArray, y_ = (([a3] : List ByteArray)) := ⟨_, rfl⟩
  replace H : ((impl_areTexts.f k a1 a2 y264).bind fun t267 => (if t267 = true then (if a0 = true then ((fuzzysearch_RankMatchFold.f a2 a3).bind fun t268 => (some t268)) else ((fuzzysearch_RankMatch.f a2 a3).bind fun t269 => (some t269))) else (some (-1)))) = some r := by first | (rw [hy264]; with_reducible exact H) | (have H2_ := (Option.bind_some _ _).symm.trans H; rw [hy264]; with_reducible exact H2_) | (have H2_ := (Option.bind_some _ _).symm.trans H; with_reducible exact H2_) | with_reducible exact H | (rw [hy264]; exact H) | exact H
  have Ny264 := Aside0.mk hy264
  clear hy264
  replace H := Option.bind_eq_some_iff.mp H
  obtain ⟨t267, A50, H⟩ := H
  replace H : (if t267 = true then (if a0 = true then ((fuzzysearch_RankMatchFold.f a2 a3).bind fun t268 => (some t268)) else ((fuzzysearch_RankMatch.f a2 a3).bind fun t269 => (some t269))) else (some (-1))) = some r := H
  have A5 := Aside0.mk A50
  clear A50
  by_cases c6 : t267 = true
  · subst c6
    have H1 : (if a0 = true then ((fuzzysearch_RankMatchFold.f a2 a3).bind fun t268 => (some t268)) else ((fuzzysearch_RankMatch.f a2 a3).bind fun t269 => (some t269))) = some r := by rw [if_pos rfl] at H; exact H
    clear H
    have H := H1
    clear H1
    by_cases c7 : a0 = true
    · subst c7
      have H1 : ((fuzzysearch_RankMatchFold.f a2 a3).bind fun t268 => (some t268)) = some r := by rw [if_pos rfl] at H; exact H
      clear H
      have H := H1
      clear H1
      replace H := Option.bind_eq_some_iff.mp H
      obtain ⟨t268, A80, H⟩ := H
      replace H : (some t268) = some r := H
      have A8 := Aside0.mk A80
      clear A80
      obtain rfl := Option.some.inj H
      go_enter Tryd.func21, Tryd.ntmps21
      go_wp2_with (first | ((with_reducible refine gate_dst (N := 12) rfl ?_); refine Kd.R_lit Kd.string _ 9 ?hg (N := 12) ?hd (xs := ([a3] : List ByteArray)) (inner := [.string a3]) (ok := fun _ => True) (okp := fun _ => True) ?hr ?hp (fun _ hk => hk) trivial (Below.refl _ _) (Nat.le_refl _) (by simp) ?_; (case hd => rfl); (case hg => rfl); (case hr => first | (go_simp; done) | (go_simp; rfl)); (case hp => exact (Reps.one (show Kd.M Kd.string _ _ _ a3 [.string a3] from rfl) (Reps.none _ _))); intro v265 w9 ho10 hb hg_ hnew_; clear hg_ hnew_; (first | rw [← Ny264.out] at ho10 | (simp only [Int.reduceToNat] at ho10; rw [← Ny264.out] at ho10)); have n0_ := Aside0.mk (Kd.R_lower ho10 (below_size (by repeat (first | (with_reducible first | exact HB.out | apply below_alloc | apply pw_below_drewN | apply below_drew1) | exact HB.out)))); have n1_ := Aside0.mk (below_step (by repeat (first | (with_reducible first | exact HB.out | apply below_alloc | apply pw_below_drewN | apply below_drew1) | exact HB.out)) hb); clear HB; have HO266 := n0_; have HB := n1_; clear n0_ n1_; clear hb ho10; obtain ⟨Ao11, co11, eo11⟩ := Kd.R_slice HO266.out; subst eo11) | ((with_reducible refine gate_callee (f := 31) rfl ?_); refine goesL_ (some 13) rfl rfl Tryd.func31 (by kernel_rfl) rfl #[.bool a1, .string a2, .slice Ao11 y264.length co11] rfl (by (try simp only [List.map_toArray, List.map_cons, List.map_nil]); first | done | rfl | (simp only [List.length_drop, List.length_take]; rfl)) ?_; (with_reducible refine (impl_areTexts.calls k a1 a2 _ _ y264 true _ ?side1 ?side2 A5.out).mono ?_); (case side1 => repeat (first | exact (Kd.R_reads' HO266.out).2.2 | (with_reducible refine Kd.C_alloc ?_ _) | (with_reducible refine Kd.C_drewN ?_ _) | (with_reducible refine Kd.C_drew ?_))); (case side2 => exact (Kd.R_reads' HO266.out).2.1); rintro e w12 ⟨rfl, hb⟩; refine ⟨_, rfl, ?_⟩; have n0_ := Aside0.mk (Kd.R_below (by (with_reducible repeat (first | apply Kd.R_alloc | apply Kd.R_drewN | apply Kd.R_drew)); exact HO266.out) hb); have n1_ := Aside0.mk (below_step (by repeat (first | (with_reducible first | exact HB.out | apply below_alloc | apply pw_below_drewN | apply below_drew1) | exact HB.out)) hb); clear HO266; clear HB; have HO266 := n0_; have HB := n1_; clear n0_ n1_; (try clear hb); (try clear hb2); (try clear hk); (try clear hi)) | ((with_reducible refine gate_callee (f := 37) rfl ?_); refine goesL_ (some 18) rfl rfl Tryd.func37 (by kernel_rfl) rfl #[.string a2, .string a3] rfl (by (try simp only [List.map_toArray, List.map_cons, List.map_nil]); first | done | rfl | (simp only [List.length_drop, List.length_take]; rfl)) ?_; (with_reducible refine (fuzzysearch_RankMatchFold.calls a2 a3 t268 _ (by first | (with_reducible exact HAMB.out) | exact Amb.below HAMB.out (by repeat (first | (with_reducible first | exact HB.out | apply below_alloc | apply pw_below_drewN | apply below_drew1) | exact HB.out)) | exact Amb.below HAMB.out (by repeat (first | (with_reducible first | exact Below.refl _ _ | apply pw_below_drewN | apply below_drew1 | apply below_alloc)))) A8.out).mono ?_); rintro e w13 ⟨rfl, hb⟩; refine ⟨_, rfl, ?_⟩; have n0_ := Aside0.mk (Kd.R_below (by (with_reducible repeat (first | apply Kd.R_alloc | apply Kd.R_drewN | apply Kd.R_drew)); exact HO266.out) hb); have n1_ := Aside0.mk (below_step (by repeat (first | (with_reducible first | exact HB.out | apply below_alloc | apply pw_below_drewN | apply below_drew1) | exact HB.out)) hb); clear HO266; clear HB; have HO266 := n0_; have HB := n1_; clear n0_ n1_; (try clear hb); (try clear hb2); (try clear hk); (try clear hi)))
      go_ret
      exact ⟨by first | rfl | (simp [errW_none, errW_some] <;> rfl) | (simp [*, errW_none, errW_some] <;> rfl), by repeat (first | (with_reducible first | exact HB.out | apply below_alloc | apply pw_below_drewN | apply below_drew1) | exact HB.out)⟩
    · replace c7 := Bool.eq_false_iff.mpr c7
      subst c7
      have H1 : ((fuzzysearch_RankMatch.f a2 a3).bind fun t269 => (some t269)) = some r := by rw [if_neg (show ¬ (false = true) by decide)] at H; exact H
      clear H
      have H := H1
      clear H1
      replace H := Option.bind_eq_some_iff.mp H
      obtain ⟨t269, A140, H⟩ := H
      replace H : (some t269) = some r := H
      have A14 := Aside0.mk A140
      clear A140
      obtain rfl := Option.some.inj H
      go_enter Tryd.func21, Tryd.ntmps21
      go_wp2_with (first | ((with_reducible refine gate_dst (N := 12) rfl ?_); refine Kd.R_lit Kd.string _ 9 ?hg (N := 12) ?hd (xs := ([a3] : List ByteArray)) (inner := [.string a3]) (ok := fun _ => True) (okp := fun _ => True) ?hr ?hp (fun _ hk => hk) trivial (Below.refl _ _) (Nat.le_refl _) (by simp) ?_; (case hd => rfl); (case hg => rfl); (case hr => first | (go_simp; done) | (go_simp; rfl)); (case hp => exact (Reps.one (show Kd.M Kd.string _ _ _ a3 [.string a3] from rfl) (Reps.none _ _))); intro v265 w15 ho16 hb hg_ hnew_; clear hg_ hnew_; (first | rw [← Ny264.out] at ho16 | (simp only [Int.reduceToNat] at ho16; rw [← Ny264.out] at ho16)); have n0_ := Aside0.mk (Kd.R_lower ho16 (below_size (by repeat (first | (with_reducible first | exact HB.out | apply below_alloc | apply pw_below_drewN | apply below_drew1) | exact HB.out)))); have n1_ := Aside0.mk (below_step (by repeat (first | (with_reducible first | exact HB.out | apply below_alloc | apply pw_below_drewN | apply below_drew1) | exact HB.out)) hb); clear HB; have HO266 := n0_; have HB := n1_; clear n0_ n1_; clear hb ho16; obtain ⟨Ao17, co17, eo17⟩ := Kd.R_slice HO266.out; subst eo17) | ((with_reducible refine gate_callee (f := 31) rfl ?_); refine goesL_ (some 13) rfl rfl Tryd.func31 (by kernel_rfl) rfl #[.bool a1, .string a2, .slice Ao17 y264.length co17] rfl (by (try simp only [List.map_toArray, List.map_cons, List.map_nil]); first | done | rfl | (simp only [List.length_drop, List.length_take]; rfl)) ?_; (with_reducible refine (impl_areTexts.calls k a1 a2 _ _ y264 true _ ?side1 ?side2 A5.out).mono ?_); (case side1 => repeat (first | exact (Kd.R_reads' HO266.out).2.2 | (with_reducible refine Kd.C_alloc ?_ _) | (with_reducible refine Kd.C_drewN ?_ _) | (with_reducible refine Kd.C_drew ?_))); (case side2 => exact (Kd.R_reads' HO266.out).2.1); rintro e w18 ⟨rfl, hb⟩; refine ⟨_, rfl, ?_⟩; have n0_ := Aside0.mk (Kd.R_below (by (with_reducible repeat (first | apply Kd.R_alloc | apply Kd.R_drewN | apply Kd.R_drew)); exact HO266.out) hb); have n1_ := Aside0.mk (below_step (by repeat (first | (with_reducible first | exact HB.out | apply below_alloc | apply pw_below_drewN | apply below_drew1) | exact HB.out)) hb); clear HO266; clear HB; have HO266 := n0_; have HB := n1_; clear n0_ n1_; (try clear hb); (try clear hb2); (try clear hk); (try clear hi)) | ((with_reducible refine gate_callee (f := 38) rfl ?_); refine goesL_ (some 21) rfl rfl Tryd.func38 (by kernel_rfl) rfl #[.string a2, .string a3] rfl (by (try simp only [List.map_toArray, List.map_cons, List.map_nil]); first | done | rfl | (simp only [List.length_drop, List.length_take]; rfl)) ?_; (with_reducible refine (fuzzysearch_RankMatch.calls a2 a3 t269 _ (by first | (with_reducible exact HAMB.out) | exact Amb.below HAMB.out (by repeat (first | (with_reducible first | exact HB.out | apply below_alloc | apply pw_below_drewN | apply below_drew1) | exact HB.out)) | exact Amb.below HAMB.out (by repeat (first | (with_reducible first | exact Below.refl _ _ | apply pw_below_drewN | apply below_drew1 | apply below_alloc)))) A14.out).mono ?_); rintro e w19 ⟨rfl, hb⟩; refine ⟨_, rfl, ?_⟩; have n0_ := Aside0.mk (Kd.R_below (by (with_reducible repeat (first | apply Kd.R_alloc | apply Kd.R_drewN | apply Kd.R_drew)); exact HO266.out) hb); have n1_ := Aside0.mk (below_step (by repeat (first | (with_reducible first | exact HB.out | apply below_alloc | apply pw_below_drewN | apply below_drew1) | exact HB.out)) hb); clear HO266; clear HB; have HO266 := n0_; have HB := n1_; clear n0_ n1_; (try clear hb); (try clear hb2); (try clear hk); (try clear hi)))
      go_ret
      exact ⟨by first | rfl | (simp [errW_none, errW_some] <;> rfl) | (simp [*, errW_none, errW_some] <;> rfl), by repeat (first | (with_reducible first | exact HB.out | apply below_alloc | apply pw_below_drewN | apply below_drew1) | exact HB.out)⟩
  · replace c6 := Bool.eq_false_iff.mpr c6
    subst c6
    have H1 : (some (-1)) = some r := by rw [if_neg (show ¬ (false = true) by decide)] at H; exact H
    clear H
    have H := H1
    clear H1
    obtain rfl := Option.some.inj H
    go_enter Tryd.func21, Tryd.ntmps21
    go_wp2_with (first | ((with_reducible refine gate_dst (N := 12) rfl ?_); refine Kd.R_lit Kd.string _ 9 ?hg (N := 12) ?hd (xs := ([a3] : List ByteArray)) (inner := [.string a3]) (ok := fun _ => True) (okp := fun _ => True) ?hr ?hp (fun _ hk => hk) trivial (Below.refl _ _) (Nat.le_refl _) (by simp) ?_; (case hd => rfl); (case hg => rfl); (case hr => first | (go_simp; done) | (go_simp; rfl)); (case hp => exact (Reps.one (show Kd.M Kd.string _ _ _ a3 [.string a3] from rfl) (Reps.none _ _))); intro v265 w20 ho21 hb hg_ hnew_; clear hg_ hnew_; (first | rw [← Ny264.out] at ho21 | (simp only [Int.reduceToNat] at ho21; rw [← Ny264.out] at ho21)); have n0_ := Aside0.mk (Kd.R_lower ho21 (below_size (by repeat (first | (with_reducible first | exact HB.out | apply below_alloc | apply pw_below_drewN | apply below_drew1) | exact HB.out)))); have n1_ := Aside0.mk (below_step (by repeat (first | (with_reducible first | exact HB.out | apply below_alloc | apply pw_below_drewN | apply below_drew1) | exact HB.out)) hb); clear HB; have HO266 := n0_; have HB := n1_; clear n0_ n1_; clear hb ho21; obtain ⟨Ao22, co22, eo22⟩ := Kd.R_slice HO266.out; subst eo22) | ((with_reducible refine gate_callee (f := 31) rfl ?_); refine goesL_ (some 13) rfl rfl Tryd.func31 (by kernel_rfl) rfl #[.bool a1, .string a2, .slice Ao22 y264.length co22] rfl (by (try simp only [List.map_toArray, List.map_cons, List.map_nil]); first | done | rfl | (simp only [List.length_drop, List.length_take]; rfl)) ?_; (with_reducible refine (impl_areTexts.calls k a1 a2 _ _ y264 false _ ?side1 ?side2 A5.out).mono ?_); (case side1 => repeat (first | exact (Kd.R_reads' HO266.out).2.2 | (with_reducible refine Kd.C_alloc ?_ _) | (with_reducible refine Kd.C_drewN ?_ _) | (with_reducible refine Kd.C_drew ?_))); (case side2 => exact (Kd.R_reads' HO266.out).2.1); rintro e w23 ⟨rfl, hb⟩; refine ⟨_, rfl, ?_⟩; have n0_ := Aside0.mk (Kd.R_below (by (with_reducible repeat (first | apply Kd.R_alloc | apply Kd.R_drewN | apply Kd.R_drew)); exact HO266.out) hb); have n1_ := Aside0.mk (below_step (by repeat (first | (with_reducible first | exact HB.out | apply below_alloc | apply pw_below_drewN | apply below_drew1) | exact HB.out)) hb); clear HO266; clear HB; have HO266 := n0_; have HB := n1_; clear n0_ n1_; (try clear hb); (try clear hb2); (try clear hk); (try clear hi)))
    go_ret
    exact ⟨by first | rfl | (simp [errW_none, errW_some] <;> rfl) | (simp [*, errW_none, errW_some] <;> rfl), by repeat (first | (with_reducible first | exact HB.out | apply below_alloc | apply pw_below_drewN | apply below_drew1) | exact HB.out)⟩

/-! ### spec_Rank: function 22 -/
def spec_Rank.f (k : Nat) (a0 : Bool) (a1 : ByteArray) (a2 : ByteArray) : Option (Int) := (spec_runesOf.f a1 a0).bind fun t270 => ((spec_runesOf.f a2 a0).bind fun t273 => (if (a1.size : Int) > (a2.size : Int) then (some (-1)) else ((spec_follows.f k t270 t273).bind fun t276 => (if t276 = true then (some (wrap64 ((t273.length : Int) - (t270.length : Int)))) else (some (-1))))))
theorem spec_Rank.mono : ∀ a0 a1 a2 k, LeO (spec_Rank.f k a0 a1 a2) (spec_Rank.f (k + 1) a0 a1 a2) := by
  intro a0 a1 a2 k
  unfold spec_Rank.f
  repeat' first
      | (with_reducible exact spec_follows.mono _ _ _)
      | (with_reducible exact LeO.refl _)
      | (with_reducible exact LeO.none _)
      | (with_reducible refine LeO.ite ?_ ?_)
      | (with_reducible refine LeO.bind ?_ (fun _ => ?_))
      | exact spec_follows.mono _ _ _
      | exact LeO.none _
      | refine LeO.ite ?_ ?_
      | refine LeO.bind ?_ (fun _ => ?_)
set_option maxHeartbeats 8000000 in
set_option maxRecDepth 100000 in
theorem spec_Rank.calls (k : Nat) (a0 : Bool) (a1 : ByteArray) (a2 : ByteArray) (r : Int) (w : World) (hA_ : Amb w) (h : spec_Rank.f k a0 a1 a2 = some r) :
    Calls Tryd.prog 22 #[.bool a0, .string a1, .string a2] w fun e w' => e = .returned (.int .i64 r) ∧ Below w.heap.size w w' := by
  have HAMB := Aside0.mk hA_
  clear hA_
  have HB := Aside0.mk (Below.refl w.heap.size w)
  have H : ((spec_runesOf.f a1 a0).bind fun t270 => ((spec_runesOf.f a2 a0).bind fun t273 => (if (a1.size : Int) > (a2.size : Int) then (some (-1)) else ((spec_follows.f k t270 t273).bind fun t276 => (if t276 = true then (some (wrap64 ((t273.length : Int) - (t270.length : Int)))) else (some (-1))))))) = some r := h
  clear h
  replace H := Option.bind_eq_some_iff.mp H
  obtain ⟨t270, A40, H⟩ := H
  replace H : ((spec_runesOf.f a2 a0).bind fun t273 => (if (a1.size : Int) > (a2.size : Int) then (some (-1)) else ((spec_follows.f k t270 t273).bind fun t276 => (if t276 = true then (some (wrap64 ((t273.length : Int) - (t270.length : Int)))) else (some (-1)))))) = some r := H
  have A4 := Aside0.mk A40
  clear A40
  replace H := Option.bind_eq_some_iff.mp H
  obtain ⟨t273, A50, H⟩ := H
  replace H : (if (a1.size : Int) > (a2.size : Int) then (some (-1)) else ((spec_follows.f k t270 t273).bind fun t276 => (if t276 = true then (some (wrap64 ((t273.length : Int) - (t270.length : Int)))) else (some (-1))))) = some r := H
  have A5 := Aside0.mk A50
  clear A50
  by_cases c6 : (a1.size : Int) > (a2.size : Int)
  · rw [if_pos c6] at H
    have c6b0 : decide ((a2.size : Int) < (a1.size : Int)) = true := decide_eq_true c6
    have c6b1 : decide (a2.size < a1.size) = true := decide_eq_true (Int.ofNat_lt.mp c6)
    clear c6
    obtain rfl := Option.some.inj H
    go_enter Tryd.func22, Tryd.ntmps22
    go_wp2_with (first | ((with_reducible refine gate_callee (f := 29) rfl ?_); refine goesL_ (some 11) rfl rfl Tryd.func29 (by kernel_rfl) rfl #[.string a1, .bool a0] rfl (by (try simp only [List.map_toArray, List.map_cons, List.map_nil]); first | done | rfl | (simp only [List.length_drop, List.length_take]; rfl)) ?_; (with_reducible refine (spec_runesOf.calls a1 a0 t270 _ (by first | (with_reducible exact HAMB.out) | exact Amb.below HAMB.out (by repeat (first | (with_reducible first | exact HB.out | apply below_alloc | apply pw_below_drewN | apply below_drew1) | exact HB.out)) | exact Amb.below HAMB.out (by repeat (first | (with_reducible first | exact Below.refl _ _ | apply pw_below_drewN | apply below_drew1 | apply below_alloc)))) A4.out).mono ?_); rintro e w7 ⟨v271, rfl, ho0, hb⟩; refine ⟨_, rfl, ?_⟩; have n0_ := Aside0.mk (Kd.R_lower ho0 (below_size (by repeat (first | (with_reducible first | exact HB.out | apply below_alloc | apply pw_below_drewN | apply below_drew1) | exact HB.out)))); have n1_ := Aside0.mk (below_step (by repeat (first | (with_reducible first | exact HB.out | apply below_alloc | apply pw_below_drewN | apply below_drew1) | exact HB.out)) hb); clear HB; have HO272 := n0_; have HB := n1_; clear n0_ n1_; (try clear hb); (try clear hb2); (try clear hk); (try clear hi); (try clear ho0)) | ((with_reducible refine gate_callee (f := 29) rfl ?_); refine goesL_ (some 14) rfl rfl Tryd.func29 (by kernel_rfl) rfl #[.string a2, .bool a0] rfl (by (try simp only [List.map_toArray, List.map_cons, List.map_nil]); first | done | rfl | (simp only [List.length_drop, List.length_take]; rfl)) ?_; (with_reducible refine (spec_runesOf.calls a2 a0 t273 _ (by first | (with_reducible exact HAMB.out) | exact Amb.below HAMB.out (by repeat (first | (with_reducible first | exact HB.out | apply below_alloc | apply pw_below_drewN | apply below_drew1) | exact HB.out)) | exact Amb.below HAMB.out (by repeat (first | (with_reducible first | exact Below.refl _ _ | apply pw_below_drewN | apply below_drew1 | apply below_alloc)))) A5.out).mono ?_); rintro e w8 ⟨v274, rfl, ho0, hb⟩; refine ⟨_, rfl, ?_⟩; have n0_ := Aside0.mk (Kd.R_elder' (by (with_reducible repeat (first | apply Kd.R_alloc | apply Kd.R_drewN | apply Kd.R_drew)); exact HO272.out) (Kd.R_base ho0) hb); have n1_ := Aside0.mk (Kd.R_lower (Kd.R_new' ho0 (Kd.R_lt (by (with_reducible repeat (first | apply Kd.R_alloc | apply Kd.R_drewN | apply Kd.R_drew)); exact HO272.out))) (below_size (by repeat (first | (with_reducible first | exact HB.out | apply below_alloc | apply pw_below_drewN | apply below_drew1) | exact HB.out)))); have n2_ := Aside0.mk (below_step (by repeat (first | (with_reducible first | exact HB.out | apply below_alloc | apply pw_below_drewN | apply below_drew1) | exact HB.out)) hb); clear HO272; clear HB; have HO272 := n0_; have HO275 := n1_; have HB := n2_; clear n0_ n1_ n2_; (try clear hb); (try clear hb2); (try clear hk); (try clear hi); (try clear ho0)))
    go_ret
    exact ⟨by first | rfl | (simp [errW_none, errW_some] <;> rfl) | (simp [*, errW_none, errW_some] <;> rfl), by repeat (first | (with_reducible first | exact HB.out | apply below_alloc | apply pw_below_drewN | apply below_drew1) | exact HB.out)⟩
  · rw [if_neg c6] at H
    have c6b0 : decide ((a2.size : Int) < (a1.size : Int)) = false := decide_eq_false c6
    have c6b1 : decide (a2.size < a1.size) = false := decide_eq_false (fun h => c6 (Int.ofNat_lt.mpr h))
    clear c6
    replace H := Option.bind_eq_some_iff.mp H
    obtain ⟨t276, A90, H⟩ := H
    replace H : (if t276 = true then (some (wrap64 ((t273.length : Int) - (t270.length : Int)))) else (some (-1))) = some r := H
    have A9 := Aside0.mk A90
    clear A90
    by_cases c10 : t276 = true
    · subst c10
      have H1 : (some (wrap64 ((t273.length : Int) - (t270.length : Int)))) = some r := by rw [if_pos rfl] at H; exact H
      clear H
      have H := H1
      clear H1
      obtain rfl := Option.some.inj H
      go_enter Tryd.func22, Tryd.ntmps22
      go_wp2_with (first | ((with_reducible refine gate_callee (f := 29) rfl ?_); refine goesL_ (some 11) rfl rfl Tryd.func29 (by kernel_rfl) rfl #[.string a1, .bool a0] rfl (by (try simp only [List.map_toArray, List.map_cons, List.map_nil]); first | done | rfl | (simp only [List.length_drop, List.length_take]; rfl)) ?_; (with_reducible refine (spec_runesOf.calls a1 a0 t270 _ (by first | (with_reducible exact HAMB.out) | exact Amb.below HAMB.out (by repeat (first | (with_reducible first | exact HB.out | apply below_alloc | apply pw_below_drewN | apply below_drew1) | exact HB.out)) | exact Amb.below HAMB.out (by repeat (first | (with_reducible first | exact Below.refl _ _ | apply pw_below_drewN | apply below_drew1 | apply below_alloc)))) A4.out).mono ?_); rintro e w11 ⟨v271, rfl, ho0, hb⟩; refine ⟨_, rfl, ?_⟩; have n0_ := Aside0.mk (Kd.R_lower ho0 (below_size (by repeat (first | (with_reducible first | exact HB.out | apply below_alloc | apply pw_below_drewN | apply below_drew1) | exact HB.out)))); have n1_ := Aside0.mk (below_step (by repeat (first | (with_reducible first | exact HB.out | apply below_alloc | apply pw_below_drewN | apply below_drew1) | exact HB.out)) hb); clear HB; have HO272 := n0_; have HB := n1_; clear n0_ n1_; (try clear hb); (try clear hb2); (try clear hk); (try clear hi); (try clear ho0)) | ((with_reducible refine gate_callee (f := 29) rfl ?_); refine goesL_ (some 14) rfl rfl Tryd.func29 (by kernel_rfl) rfl #[.string a2, .bool a0] rfl (by (try simp only [List.map_toArray, List.map_cons, List.map_nil]); first | done | rfl | (simp only [List.length_drop, List.length_take]; rfl)) ?_; (with_reducible refine (spec_runesOf.calls a2 a0 t273 _ (by first | (with_reducible exact HAMB.out) | exact Amb.below HAMB.out (by repeat (first | (with_reducible first | exact HB.out | apply below_alloc | apply pw_below_drewN | apply below_drew1) | exact HB.out)) | exact Amb.below HAMB.out (by repeat (first | (with_reducible first | exact Below.refl _ _ | apply pw_below_drewN | apply below_drew1 | apply below_alloc)))) A5.out).mono ?_); rintro e w12 ⟨v274, rfl, ho0, hb⟩; refine ⟨_, rfl, ?_⟩; have n0_ := Aside0.mk (Kd.R_elder' (by (with_reducible repeat (first | apply Kd.R_alloc | apply Kd.R_drewN | apply Kd.R_drew)); exact HO272.out) (Kd.R_base ho0) hb); have n1_ := Aside0.mk (Kd.R_lower (Kd.R_new' ho0 (Kd.R_lt (by (with_reducible repeat (first | apply Kd.R_alloc | apply Kd.R_drewN | apply Kd.R_drew)); exact HO272.out))) (below_size (by repeat (first | (with_reducible first | exact HB.out | apply below_alloc | apply pw_below_drewN | apply below_drew1) | exact HB.out)))); have n2_ := Aside0.mk (below_step (by repeat (first | (with_reducible first | exact HB.out | apply below_alloc | apply pw_below_drewN | apply below_drew1) | exact HB.out)) hb); clear HO272; clear HB; have HO272 := n0_; have HO275 := n1_; have HB := n2_; clear n0_ n1_ n2_; (try clear hb); (try clear hb2); (try clear hk); (try clear hi); (try clear ho0); obtain ⟨Ao13, co13, eo13⟩ := Kd.R_slice HO272.out; subst eo13; obtain ⟨Ao14, co14, eo14⟩ := Kd.R_slice HO275.out; subst eo14) | (go_at_call 34; (with_reducible refine (spec_follows.calls k _ _ t270 _ _ t273 true _ ?side1 ?side2 ?side3 ?side4 A9.out).mono ?_); (case side1 => repeat (first | exact (Kd.R_reads' HO272.out).2.2 | (with_reducible refine Kd.C_alloc ?_ _) | (with_reducible refine Kd.C_drewN ?_ _) | (with_reducible refine Kd.C_drew ?_))); (case side2 => exact (Kd.R_reads' HO272.out).2.1); (case side3 => repeat (first | exact (Kd.R_reads' HO275.out).2.2 | (with_reducible refine Kd.C_alloc ?_ _) | (with_reducible refine Kd.C_drewN ?_ _) | (with_reducible refine Kd.C_drew ?_))); (case side4 => exact (Kd.R_reads' HO275.out).2.1); rintro e w' ⟨rfl, ⟨nd, rfl⟩⟩))
      go_ret
      exact ⟨by first | rfl | (simp [errW_none, errW_some] <;> rfl) | (simp [*, errW_none, errW_some] <;> rfl), by repeat (first | (with_reducible first | exact HB.out | apply below_alloc | apply pw_below_drewN | apply below_drew1) | exact HB.out)⟩
    · replace c10 := Bool.eq_false_iff.mpr c10
      subst c10
      have H1 : (some (-1)) = some r := by rw [if_neg (show ¬ (false = true) by decide)] at H; exact H
      clear H
      have H := H1
      clear H1
      obtain rfl := Option.some.inj H
      go_enter Tryd.func22, Tryd.ntmps22
      go_wp2_with (first | ((with_reducible refine gate_callee (f := 29) rfl ?_); refine goesL_ (some 11) rfl rfl Tryd.func29 (by kernel_rfl) rfl #[.string a1, .bool a0] rfl (by (try simp only [List.map_toArray, List.map_cons, List.map_nil]); first | done | rfl | (simp only [List.length_drop, List.length_take]; rfl)) ?_; (with_reducible refine (spec_runesOf.calls a1 a0 t270 _ (by first | (with_reducible exact HAMB.out) | exact Amb.below HAMB.out (by repeat (first | (with_reducible first | exact HB.out | apply below_alloc | apply pw_below_drewN | apply below_drew1) | exact HB.out)) | exact Amb.below HAMB.out (by repeat (first | (with_reducible first | exact Below.refl _ _ | apply pw_below_drewN | apply below_drew1 | apply below_alloc)))) A4.out).mono ?_); rintro e w15 ⟨v271, rfl, ho0, hb⟩; refine ⟨_, rfl, ?_⟩; have n0_ := Aside0.mk (Kd.R_lower ho0 (below_size (by repeat (first | (with_reducible first | exact HB.out | apply below_alloc | apply pw_below_drewN | apply below_drew1) | exact HB.out)))); have n1_ := Aside0.mk (below_step (by repeat (first | (with_reducible first | exact HB.out | apply below_alloc | apply pw_below_drewN | apply below_drew1) | exact HB.out)) hb); clear HB; have HO272 := n0_; have HB := n1_; clear n0_ n1_; (try clear hb); (try clear hb2); (try clear hk); (try clear hi); (try clear ho0)) | ((with_reducible refine gate_callee (f := 29) rfl ?_); refine goesL_ (some 14) rfl rfl Tryd.func29 (by kernel_rfl) rfl #[.string a2, .bool a0] rfl (by (try simp only [List.map_toArray, List.map_cons, List.map_nil]); first | done | rfl | (simp only [List.length_drop, List.length_take]; rfl)) ?_; (with_reducible refine (spec_runesOf.calls a2 a0 t273 _ (by first | (with_reducible exact HAMB.out) | exact Amb.below HAMB.out (by repeat (first | (with_reducible first | exact HB.out | apply below_alloc | apply pw_below_drewN | apply below_drew1) | exact HB.out)) | exact Amb.below HAMB.out (by repeat (first | (with_reducible first | exact Below.refl _ _ | apply pw_below_drewN | apply below_drew1 | apply below_alloc)))) A5.out).mono ?_); rintro e w16 ⟨v274, rfl, ho0, hb⟩; refine ⟨_, rfl, ?_⟩; have n0_ := Aside0.mk (Kd.R_elder' (by (with_reducible repeat (first | apply Kd.R_alloc | apply Kd.R_drewN | apply Kd.R_drew)); exact HO272.out) (Kd.R_base ho0) hb); have n1_ := Aside0.mk (Kd.R_lower (Kd.R_new' ho0 (Kd.R_lt (by (with_reducible repeat (first | apply Kd.R_alloc | apply Kd.R_drewN | apply Kd.R_drew)); exact HO272.out))) (below_size (by repeat (first | (with_reducible first | exact HB.out | apply below_alloc | apply pw_below_drewN | apply below_drew1) | exact HB.out)))); have n2_ := Aside0.mk (below_step (by repeat (first | (with_reducible first | exact HB.out | apply below_alloc | apply pw_below_drewN | apply below_drew1) | exact HB.out)) hb); clear HO272; clear HB; have HO272 := n0_; have HO275 := n1_; have HB := n2_; clear n0_ n1_ n2_; (try clear hb); (try clear hb2); (try clear hk); (try clear hi); (try clear ho0); obtain ⟨Ao17, co17, eo17⟩ := Kd.R_slice HO272.out; subst eo17; obtain ⟨Ao18, co18, eo18⟩ := Kd.R_slice HO275.out; subst eo18) | (go_at_call 34; (with_reducible refine (spec_follows.calls k _ _ t270 _ _ t273 false _ ?side1 ?side2 ?side3 ?side4 A9.out).mono ?_); (case side1 => repeat (first | exact (Kd.R_reads' HO272.out).2.2 | (with_reducible refine Kd.C_alloc ?_ _) | (with_reducible refine Kd.C_drewN ?_ _) | (with_reducible refine Kd.C_drew ?_))); (case side2 => exact (Kd.R_reads' HO272.out).2.1); (case side3 => repeat (first | exact (Kd.R_reads' HO275.out).2.2 | (with_reducible refine Kd.C_alloc ?_ _) | (with_reducible refine Kd.C_drewN ?_ _) | (with_reducible refine Kd.C_drew ?_))); (case side4 => exact (Kd.R_reads' HO275.out).2.1); rintro e w' ⟨rfl, ⟨nd, rfl⟩⟩))
      go_ret
      exact ⟨by first | rfl | (simp [errW_none, errW_some] <;> rfl) | (simp [*, errW_none, errW_some] <;> rfl), by repeat (first | (with_reducible first | exact HB.out | apply below_alloc | apply pw_below_drewN | apply below_drew1) | exact HB.out)⟩

/-! ### laws_FnRank: function 8 -/
def laws_FnRank.j0 : Nat → Bool → ByteArray → ByteArray → Bool → Option (Bool)
  | 0, _, _, _, _ => none
  | k + 1, x0, x1, x2, x14 => if x14 = true then (some true) else ((spec_AllPlain.f k x1 (([x2] : List ByteArray))).bind fun t280 => (if t280 = true then ((impl_Rank.f k x0 false x1 x2).bind fun t281 => ((spec_Rank.f k x0 x1 x2).bind fun t282 => (some (t281 == t282)))) else (some true)))
def laws_FnRank.f (k : Nat) (a0 : Bool) (a1 : ByteArray) (a2 : ByteArray) : Option (Bool) := if (a1.size : Int) > 2147483647 then (laws_FnRank.j0 k a0 a1 a2 true) else (laws_FnRank.j0 k a0 a1 a2 (decide ((a2.size : Int) > 2147483647)))
theorem laws_FnRank.mono_l : ∀ k, (∀ y0 y1 y2 y3, LeO (laws_FnRank.j0 k y0 y1 y2 y3) (laws_FnRank.j0 (k + 1) y0 y1 y2 y3))
  | 0 => fun _ _ _ _ r h => by simp [laws_FnRank.j0] at h
  | k + 1 => by
    have ih0 := laws_FnRank.mono_l k
    · intro y0 y1 y2 y3
      unfold laws_FnRank.j0
      repeat' first
      | (with_reducible exact ih0 _ _ _ _)
      | (with_reducible exact impl_Rank.mono _ _ _ _ _)
      | (with_reducible exact spec_AllPlain.mono _ _ _)
      | (with_reducible exact spec_Rank.mono _ _ _ _)
      | (with_reducible exact LeO.refl _)
      | (with_reducible exact LeO.none _)
      | (with_reducible refine LeO.ite ?_ ?_)
      | (with_reducible refine LeO.bind ?_ (fun _ => ?_))
      | exact ih0 _ _ _ _
      | exact impl_Rank.mono _ _ _ _ _
      | exact spec_AllPlain.mono _ _ _
      | exact spec_Rank.mono _ _ _ _
      | exact LeO.none _
      | refine LeO.ite ?_ ?_
      | refine LeO.bind ?_ (fun _ => ?_)
theorem laws_FnRank.mono : ∀ a0 a1 a2 k, LeO (laws_FnRank.f k a0 a1 a2) (laws_FnRank.f (k + 1) a0 a1 a2) := by
  intro a0 a1 a2 k
  have ih0 := laws_FnRank.mono_l k
  unfold laws_FnRank.f
  repeat' first
      | (with_reducible exact ih0 _ _ _ _)
      | (with_reducible exact impl_Rank.mono _ _ _ _ _)
      | (with_reducible exact spec_AllPlain.mono _ _ _)
      | (with_reducible exact spec_Rank.mono _ _ _ _)
      | (with_reducible exact LeO.refl _)
      | (with_reducible exact LeO.none _)
      | (with_reducible refine LeO.ite ?_ ?_)
      | (with_reducible refine LeO.bind ?_ (fun _ => ?_))
      | exact ih0 _ _ _ _
      | exact impl_Rank.mono _ _ _ _ _
      | exact spec_AllPlain.mono _ _ _
      | exact spec_Rank.mono _ _ _ _
      | exact LeO.none _
      | refine LeO.ite ?_ ?_
      | refine LeO.bind ?_ (fun _ => ?_)
set_option maxHeartbeats 8000000 in
set_option maxRecDepth 100000 in
theorem laws_FnRank.calls (k : Nat) (a0 : Bool) (a1 : ByteArray) (a2 : ByteArray) (r : Bool) (w : World) (hA_ : Amb w) (h : laws_FnRank.f k a0 a1 a2 = some r) :
    Calls Tryd.prog 8 #[.bool a0, .string a1, .string a2] w fun e w' => e = .returned (.bool r) ∧ Below w.heap.size w w' := by
  have HAMB := Aside0.mk hA_
  clear hA_
  have HB := Aside0.mk (Below.refl w.heap.size w)
  have H : (if (a1.size : Int) > 2147483647 then (laws_FnRank.j0 k a0 a1 a2 true) else (laws_FnRank.j0 k a0 a1 a2 (decide ((a2.size : Int) > 2147483647)))) = some r := h
  clear h
  have HC4 := Aside0.mk H
  clear H
  go_enter Tryd.func8, Tryd.ntmps8
  go_upto_region 1 with (fail)
  go_cut [14] (fun v14 wc => ∃ (kq : Nat) (x14_3 : Bool), v14 = .bool x14_3 ∧ Aside0 (laws_FnRank.j0 kq a0 a1 a2 x14_3 = some r) ∧ Aside0 (kq ≤ k) ∧ Aside0 (Below w.heap.size w wc))
  case first =>
    have H := HC4.out
    clear HC4
    by_cases c5 : (a1.size : Int) > 2147483647
    · rw [if_pos c5] at H
      have c5b0 : decide (2147483647 < (a1.size : Int)) = true := decide_eq_true c5
      have c5b1 : decide (2147483647 < a1.size) = true := decide_eq_true (by omega)
      clear c5
      (first | rw [c5b0] | (simp only [i64_w, i32_w]; rw [c5b0]) | skip)
      have H' := Aside0.mk H
      clear H
      go_wp2
      go_meet
      case rel => exact ⟨_, (true), (by first | rfl | (simp; done) | (simp [*]; done)), H', ⟨by first | omega | exact Nat.le_refl _⟩, ⟨by repeat (first | (with_reducible first | exact HB.out | apply below_alloc | apply pw_below_drewN | apply below_drew1) | exact HB.out)⟩⟩
    · rw [if_neg c5] at H
      have c5b0 : decide (2147483647 < (a1.size : Int)) = false := decide_eq_false c5
      have c5b1 : decide (2147483647 < a1.size) = false := decide_eq_false (by omega)
      clear c5
      (first | rw [c5b0] | (simp only [i64_w, i32_w]; rw [c5b0]) | skip)
      have H' := Aside0.mk H
      clear H
      go_wp2
      go_meet
      case rel => exact ⟨_, (decide ((a2.size : Int) > 2147483647)), (by first | rfl | (simp; done) | (simp [*]; done)), H', ⟨by first | omega | exact Nat.le_refl _⟩, ⟨by repeat (first | (with_reducible first | exact HB.out | apply below_alloc | apply pw_below_drewN | apply below_drew1) | exact HB.out)⟩⟩
  case rest =>
    clear HC4
    try clear p2
    try clear c5
    try clear c5b0
    try clear c5b1
    obtain ⟨kq, x14_3, rfl, HA, HJ3, HB⟩ := hcut
    cases kq with
    | zero => exact absurd HA.out (by simp [laws_FnRank.j0])
    | succ kj3 =>
      have H := HA.out
      clear HA
      simp only [laws_FnRank.j0] at H
      by_cases c6 : x14_3 = true
      · subst c6
        have H1 : (some true) = some r := by rw [if_pos rfl] at H; exact H
        clear H
        have H := H1
        clear H1
        obtain rfl := Option.some.inj H
        go_wp2
        go_ret
        exact ⟨by first | rfl | (simp [errW_none, errW_some] <;> rfl) | (simp [*, errW_none, errW_some] <;> rfl), by repeat (first | (with_reducible first | exact HB.out | apply below_alloc | apply pw_below_drewN | apply below_drew1) | exact HB.out)⟩
      · replace c6 := Bool.eq_false_iff.mpr c6
        subst c6
        have H1 : ((spec_AllPlain.f kj3 a1 (([a2] : List ByteArray))).bind fun t280 => (if t280 = true then ((impl_Rank.f kj3 a0 false a1 a2).bind fun t281 => ((spec_Rank.f kj3 a0 a1 a2).bind fun t282 => (some (t281 == t282)))) else (some true))) = some r := by rw [if_neg (show ¬ (false = true) by decide)] at H; exact H
        clear H
        have H := H1
        clear H1
        obtain ⟨y277, hy277⟩ : ∃ y_ : List ByteArray, y_ = (([a2] : List ByteArray)) := ⟨_, rfl⟩
        replace H : ((spec_AllPlain.f kj3 a1 y277).bind fun t280 => (if t280 = true then ((impl_Rank.f kj3 a0 false a1 a2).bind fun t281 => ((spec_Rank.f kj3 a0 a1 a2).bind fun t282 => (some (t281 == t282)))) else (some true))) = some r := by first | (rw [hy277]; with_reducible exact H) | (have H2_ := (Option.bind_some _ _).symm.trans H; rw [hy277]; with_reducible exact H2_) | (have H2_ := (Option.bind_some _ _).symm.trans H; with_reducible exact H2_) | with_reducible exact H | (rw [hy277]; exact H) | exact H
        have Ny277 := Aside0.mk hy277
        clear hy277
        replace H := Option.bind_eq_some_iff.mp H
        obtain ⟨t280, A70, H⟩ := H
        replace H : (if t280 = true then ((impl_Rank.f kj3 a0 false a1 a2).bind fun t281 => ((spec_Rank.f kj3 a0 a1 a2).bind fun t282 => (some (t281 == t282)))) else (some true)) = some r := H
        have A7 := Aside0.mk A70
        clear A70
        by_cases c8 : t280 = true
        · subst c8
          have H1 : ((impl_Rank.f kj3 a0 false a1 a2).bind fun t281 => ((spec_Rank.f kj3 a0 a1 a2).bind fun t282 => (some (t281 == t282)))) = some r := by rw [if_pos rfl] at H; exact H
          clear H
          have H := H1
          clear H1
          replace H := Option.bind_eq_some_iff.mp H
          obtain ⟨t281, A90, H⟩ := H
          replace H : ((spec_Rank.f kj3 a0 a1 a2).bind fun t282 => (some (t281 == t282))) = some r := H
          have A9 := Aside0.mk A90
          clear A90
          replace H := Option.bind_eq_some_iff.mp H
          obtain ⟨t282, A100, H⟩ := H
          replace H : (some (t281 == t282)) = some r := H
          have A10 := Aside0.mk A100
          clear A100
          obtain rfl := Option.some.inj H
          go_wp2_with (first | ((with_reducible refine gate_dst (N := 17) rfl ?_); (try (refine gate_guard (by rfl) ?_; dsimp only)); refine Kd.R_lit Kd.string _ 9 ?hg (N := 17) ?hd (xs := ([a2] : List ByteArray)) (inner := [.string a2]) (ok := fun _ => True) (okp := fun _ => True) ?hr ?hp (fun _ hk => hk) trivial (Below.refl _ _) (Nat.le_refl _) (by simp) ?_; (case hd => rfl); (case hg => rfl); (case hr => first | (go_simp; done) | (go_simp; rfl)); (case hp => exact (Reps.one (show Kd.M Kd.string _ _ _ a2 [.string a2] from rfl) (Reps.none _ _))); intro v278 w11 ho12 hb hg_ hnew_; clear hg_ hnew_; (first | rw [← Ny277.out] at ho12 | (simp only [Int.reduceToNat] at ho12; rw [← Ny277.out] at ho12)); have n0_ := Aside0.mk (Kd.R_lower ho12 (below_size (by repeat (first | (with_reducible first | exact HB.out | apply below_alloc | apply pw_below_drewN | apply below_drew1) | exact HB.out)))); have n1_ := Aside0.mk (below_step (by repeat (first | (with_reducible first | exact HB.out | apply below_alloc | apply pw_below_drewN | apply below_drew1) | exact HB.out)) hb); clear HB; have HO279 := n0_; have HB := n1_; clear n0_ n1_; clear hb ho12; obtain ⟨Ao13, co13, eo13⟩ := Kd.R_slice HO279.out; subst eo13) | ((with_reducible refine gate_callee (f := 14) rfl ?_); refine goesL_ (some 18) rfl rfl Tryd.func14 (by kernel_rfl) rfl #[.string a1, .slice Ao13 y277.length co13] rfl (by (try simp only [List.map_toArray, List.map_cons, List.map_nil]); first | done | rfl | (simp only [List.length_drop, List.length_take]; rfl)) ?_; (with_reducible refine (spec_AllPlain.calls kj3 a1 _ _ y277 true _ ?side1 ?side2 A7.out).mono ?_); (case side1 => repeat (first | exact (Kd.R_reads' HO279.out).2.2 | (with_reducible refine Kd.C_alloc ?_ _) | (with_reducible refine Kd.C_drewN ?_ _) | (with_reducible refine Kd.C_drew ?_))); (case side2 => exact (Kd.R_reads' HO279.out).2.1); rintro e w14 ⟨rfl, hb⟩; refine ⟨_, rfl, ?_⟩; have n0_ := Aside0.mk (Kd.R_below (by (with_reducible repeat (first | apply Kd.R_alloc | apply Kd.R_drewN | apply Kd.R_drew)); exact HO279.out) hb); have n1_ := Aside0.mk (below_step (by repeat (first | (with_reducible first | exact HB.out | apply below_alloc | apply pw_below_drewN | apply below_drew1) | exact HB.out)) hb); clear HO279; clear HB; have HO279 := n0_; have HB := n1_; clear n0_ n1_; (try clear hb); (try clear hb2); (try clear hk); (try clear hi)) | ((with_reducible refine gate_callee (f := 21) rfl ?_); refine goesL_ (some 23) rfl rfl Tryd.func21 (by kernel_rfl) rfl #[.bool a0, .bool false, .string a1, .string a2] rfl (by (try simp only [List.map_toArray, List.map_cons, List.map_nil]); first | done | rfl | (simp only [List.length_drop, List.length_take]; rfl)) ?_; (with_reducible refine (impl_Rank.calls kj3 a0 false a1 a2 t281 _ (by first | (with_reducible exact HAMB.out) | exact Amb.below HAMB.out (by repeat (first | (with_reducible first | exact HB.out | apply below_alloc | apply pw_below_drewN | apply below_drew1) | exact HB.out)) | exact Amb.below HAMB.out (by repeat (first | (with_reducible first | exact Below.refl _ _ | apply pw_below_drewN | apply below_drew1 | apply below_alloc)))) A9.out).mono ?_); rintro e w15 ⟨rfl, hb⟩; refine ⟨_, rfl, ?_⟩; have n0_ := Aside0.mk (Kd.R_below (by (with_reducible repeat (first | apply Kd.R_alloc | apply Kd.R_drewN | apply Kd.R_drew)); exact HO279.out) hb); have n1_ := Aside0.mk (below_step (by repeat (first | (with_reducible first | exact HB.out | apply below_alloc | apply pw_below_drewN | apply below_drew1) | exact HB.out)) hb); clear HO279; clear HB; have HO279 := n0_; have HB := n1_; clear n0_ n1_; (try clear hb); (try clear hb2); (try clear hk); (try clear hi)) | ((with_reducible refine gate_callee (f := 22) rfl ?_); refine goesL_ (some 27) rfl rfl Tryd.func22 (by kernel_rfl) rfl #[.bool a0, .string a1, .string a2] rfl (by (try simp only [List.map_toArray, List.map_cons, List.map_nil]); first | done | rfl | (simp only [List.length_drop, List.length_take]; rfl)) ?_; (with_reducible refine (spec_Rank.calls kj3 a0 a1 a2 t282 _ (by first | (with_reducible exact HAMB.out) | exact Amb.below HAMB.out (by repeat (first | (with_reducible first | exact HB.out | apply below_alloc | apply pw_below_drewN | apply below_drew1) | exact HB.out)) | exact Amb.below HAMB.out (by repeat (first | (with_reducible first | exact Below.refl _ _ | apply pw_below_drewN | apply below_drew1 | apply below_alloc)))) A10.out).mono ?_); rintro e w16 ⟨rfl, hb⟩; refine ⟨_, rfl, ?_⟩; have n0_ := Aside0.mk (Kd.R_below (by (with_reducible repeat (first | apply Kd.R_alloc | apply Kd.R_drewN | apply Kd.R_drew)); exact HO279.out) hb); have n1_ := Aside0.mk (below_step (by repeat (first | (with_reducible first | exact HB.out | apply below_alloc | apply pw_below_drewN | apply below_drew1) | exact HB.out)) hb); clear HO279; clear HB; have HO279 := n0_; have HB := n1_; clear n0_ n1_; (try clear hb); (try clear hb2); (try clear hk); (try clear hi)))
          go_ret
          exact ⟨by first | rfl | (simp [errW_none, errW_some] <;> rfl) | (simp [*, errW_none, errW_some] <;> rfl), by repeat (first | (with_reducible first | exact HB.out | apply below_alloc | apply pw_below_drewN | apply below_drew1) | exact HB.out)⟩
        · replace c8 := Bool.eq_false_iff.mpr c8
          subst c8
          have H1 : (some true) = some r := by rw [if_neg (show ¬ (false = true) by decide)] at H; exact H
          clear H
          have H := H1
          clear H1
          obtain rfl := Option.some.inj H
          go_wp2_with (first | ((with_reducible refine gate_dst (N := 17) rfl ?_); (try (refine gate_guard (by rfl) ?_; dsimp only)); refine Kd.R_lit Kd.string _ 9 ?hg (N := 17) ?hd (xs := ([a2] : List ByteArray)) (inner := [.string a2]) (ok := fun _ => True) (okp := fun _ => True) ?hr ?hp (fun _ hk => hk) trivial (Below.refl _ _) (Nat.le_refl _) (by simp) ?_; (case hd => rfl); (case hg => rfl); (case hr => first | (go_simp; done) | (go_simp; rfl)); (case hp => exact (Reps.one (show Kd.M Kd.string _ _ _ a2 [.string a2] from rfl) (Reps.none _ _))); intro v278 w17 ho18 hb hg_ hnew_; clear hg_ hnew_; (first | rw [← Ny277.out] at ho18 | (simp only [Int.reduceToNat] at ho18; rw [← Ny277.out] at ho18)); have n0_ := Aside0.mk (Kd.R_lower ho18 (below_size (by repeat (first | (with_reducible first | exact HB.out | apply below_alloc | apply pw_below_drewN | apply below_drew1) | exact HB.out)))); have n1_ := Aside0.mk (below_step (by repeat (first | (with_reducible first | exact HB.out | apply below_alloc | apply pw_below_drewN | apply below_drew1) | exact HB.out)) hb); clear HB; have HO279 := n0_; have HB := n1_; clear n0_ n1_; clear hb ho18; obtain ⟨Ao19, co19, eo19⟩ := Kd.R_slice HO279.out; subst eo19) | ((with_reducible refine gate_callee (f := 14) rfl ?_); refine goesL_ (some 18) rfl rfl Tryd.func14 (by kernel_rfl) rfl #[.string a1, .slice Ao19 y277.length co19] rfl (by (try simp only [List.map_toArray, List.map_cons, List.map_nil]); first | done | rfl | (simp only [List.length_drop, List.length_take]; rfl)) ?_; (with_reducible refine (spec_AllPlain.calls kj3 a1 _ _ y277 false _ ?side1 ?side2 A7.out).mono ?_); (case side1 => repeat (first | exact (Kd.R_reads' HO279.out).2.2 | (with_reducible refine Kd.C_alloc ?_ _) | (with_reducible refine Kd.C_drewN ?_ _) | (with_reducible refine Kd.C_drew ?_))); (case side2 => exact (Kd.R_reads' HO279.out).2.1); rintro e w20 ⟨rfl, hb⟩; refine ⟨_, rfl, ?_⟩; have n0_ := Aside0.mk (Kd.R_below (by (with_reducible repeat (first | apply Kd.R_alloc | apply Kd.R_drewN | apply Kd.R_drew)); exact HO279.out) hb); have n1_ := Aside0.mk (below_step (by repeat (first | (with_reducible first | exact HB.out | apply below_alloc | apply pw_below_drewN | apply below_drew1) | exact HB.out)) hb); clear HO279; clear HB; have HO279 := n0_; have HB := n1_; clear n0_ n1_; (try clear hb); (try clear hb2); (try clear hk); (try clear hi)))
          go_ret
          exact ⟨by first | rfl | (simp [errW_none, errW_some] <;> rfl) | (simp [*, errW_none, errW_some] <;> rfl), by repeat (first | (with_reducible first | exact HB.out | apply below_alloc | apply pw_below_drewN | apply below_drew1) | exact HB.out)⟩

end Go.Proofs.YtfkemfkleceeiaaDoor.P
namespace Go.Proofs.YtfkemfkleceeiaaDoor.P
open Go.RowKit Go.Proofs.YtfkemfkleceeiaaDoorW.PrintWords Go.Proofs.YtfkemfkleceeiaaDoorW.PrintLast Go.Proofs.YtfkemfkleceeiaaDoorW.PrintMore
attribute [local go_sem] max2_int min2_int max_two min_two max_three min_three max_four min_four   -- for this text's walks alone
set_option linter.unusedVariables false
set_option linter.unusedSimpArgs false

attribute [local go_sem high] eqA50
/-! ### laws_FnRankIsDistance: function 9 -/
def laws_FnRankIsDistance.j0 : Nat → ByteArray → ByteArray → Bool → Option (Bool)
  | 0, _, _, _ => none
  | k + 1, x0, x1, x13 => if x13 = true then (some true) else ((spec_AllPlain.f k x0 (([x1] : List ByteArray))).bind fun t286 => (if t286 = true then ((impl_Rank.f k false false x0 x1).bind fun t287 => ((spec_Match.f k false x0 x1).bind fun t288 => (if ((t287 == (-1)) == (!t288)) = true then (if t287 = (-1) then (some true) else ((impl_Distance.f k x0 x1).bind fun t289 => (some (t287 == t289)))) else (some false)))) else (some true)))
def laws_FnRankIsDistance.f (k : Nat) (a0 : ByteArray) (a1 : ByteArray) : Option (Bool) := if (a0.size : Int) > 2147483647 then (laws_FnRankIsDistance.j0 k a0 a1 true) else (laws_FnRankIsDistance.j0 k a0 a1 (decide ((a1.size : Int) > 2147483647)))
theorem laws_FnRankIsDistance.mono_l : ∀ k, (∀ y0 y1 y2, LeO (laws_FnRankIsDistance.j0 k y0 y1 y2) (laws_FnRankIsDistance.j0 (k + 1) y0 y1 y2))
  | 0 => fun _ _ _ r h => by simp [laws_FnRankIsDistance.j0] at h
  | k + 1 => by
    have ih0 := laws_FnRankIsDistance.mono_l k
    · intro y0 y1 y2
      unfold laws_FnRankIsDistance.j0
      repeat' first
      | (with_reducible exact ih0 _ _ _)
      | (with_reducible exact impl_Distance.mono _ _ _)
      | (with_reducible exact impl_Rank.mono _ _ _ _ _)
      | (with_reducible exact spec_AllPlain.mono _ _ _)
      | (with_reducible exact spec_Match.mono _ _ _ _)
      | (with_reducible exact LeO.refl _)
      | (with_reducible exact LeO.none _)
      | (with_reducible refine LeO.ite ?_ ?_)
      | (with_reducible refine LeO.bind ?_ (fun _ => ?_))
      | exact ih0 _ _ _
      | exact impl_Distance.mono _ _ _
      | exact impl_Rank.mono _ _ _ _ _
      | exact spec_AllPlain.mono _ _ _
      | exact spec_Match.mono _ _ _ _
      | exact LeO.none _
      | refine LeO.ite ?_ ?_
      | refine LeO.bind ?_ (fun _ => ?_)
theorem laws_FnRankIsDistance.mono : ∀ a0 a1 k, LeO (laws_FnRankIsDistance.f k a0 a1) (laws_FnRankIsDistance.f (k + 1) a0 a1) := by
  intro a0 a1 k
  have ih0 := laws_FnRankIsDistance.mono_l k
  unfold laws_FnRankIsDistance.f
  repeat' first
      | (with_reducible exact ih0 _ _ _)
      | (with_reducible exact impl_Distance.mono _ _ _)
      | (with_reducible exact impl_Rank.mono _ _ _ _ _)
      | (with_reducible exact spec_AllPlain.mono _ _ _)
      | (with_reducible exact spec_Match.mono _ _ _ _)
      | (with_reducible exact LeO.refl _)
      | (with_reducible exact LeO.none _)
      | (with_reducible refine LeO.ite ?_ ?_)
      | (with_reducible refine LeO.bind ?_ (fun _ => ?_))
      | exact ih0 _ _ _
      | exact impl_Distance.mono _ _ _
      | exact impl_Rank.mono _ _ _ _ _
      | exact spec_AllPlain.mono _ _ _
      | exact spec_Match.mono _ _ _ _
      | exact LeO.none _
      | refine LeO.ite ?_ ?_
      | refine LeO.bind ?_ (fun _ => ?_)
set_option maxHeartbeats 8000000 in
set_option maxRecDepth 100000 in
theorem laws_FnRankIsDistance.calls (k : Nat) (a0 : ByteArray) (a1 : ByteArray) (r : Bool) (w : World) (hA_ : Amb w) (h : laws_FnRankIsDistance.f k a0 a1 = some r) :
    Calls Tryd.prog 9 #[.string a0, .string a1] w fun e w' => e = .returned (.bool r) ∧ Below w.heap.size w w' := by
  have HAMB := Aside0.mk hA_
  clear hA_
  have HB := Aside0.mk (Below.refl w.heap.size w)
  have H : (if (a0.size : Int) > 2147483647 then (laws_FnRankIsDistance.j0 k a0 a1 true) else (laws_FnRankIsDistance.j0 k a0 a1 (decide ((a1.size : Int) > 2147483647)))) = some r := h
  clear h
  have HC3 := Aside0.mk H
  clear H
  go_enter Tryd.func9, Tryd.ntmps9
  go_upto_region 1 with (fail)
  go_cut [13] (fun v13 wc => ∃ (kq : Nat) (x13_2 : Bool), v13 = .bool x13_2 ∧ Aside0 (laws_FnRankIsDistance.j0 kq a0 a1 x13_2 = some r) ∧ Aside0 (kq ≤ k) ∧ Aside0 (Below w.heap.size w wc))
  case first =>
    have H := HC3.out
    clear HC3
    by_cases c4 : (a0.size : Int) > 2147483647
    · rw [if_pos c4] at H
      have c4b0 : decide (2147483647 < (a0.size : Int)) = true := decide_eq_true c4
      have c4b1 : decide (2147483647 < a0.size) = true := decide_eq_true (by omega)
      clear c4
      (first | rw [c4b0] | (simp only [i64_w, i32_w]; rw [c4b0]) | skip)
      have H' := Aside0.mk H
      clear H
      go_wp2
      go_meet
      case rel => exact ⟨_, (true), (by first | rfl | (simp; done) | (simp [*]; done)), H', ⟨by first | omega | exact Nat.le_refl _⟩, ⟨by repeat (first | (with_reducible first | exact HB.out | apply below_alloc | apply pw_below_drewN | apply below_drew1) | exact HB.out)⟩⟩
    · rw [if_neg c4] at H
      have c4b0 : decide (2147483647 < (a0.size : Int)) = false := decide_eq_false c4
      have c4b1 : decide (2147483647 < a0.size) = false := decide_eq_false (by omega)
      clear c4
      (first | rw [c4b0] | (simp only [i64_w, i32_w]; rw [c4b0]) | skip)
      have H' := Aside0.mk H
      clear H
      go_wp2
      go_meet
      case rel => exact ⟨_, (decide ((a1.size : Int) > 2147483647)), (by first | rfl | (simp; done) | (simp [*]; done)), H', ⟨by first | omega | exact Nat.le_refl _⟩, ⟨by repeat (first | (with_reducible first | exact HB.out | apply below_alloc | apply pw_below_drewN | apply below_drew1) | exact HB.out)⟩⟩
  case rest =>
    clear HC3
    try clear p2
    try clear c4
    try clear c4b0
    try clear c4b1
    obtain ⟨kq, x13_2, rfl, HA, HJ2, HB⟩ := hcut
    cases kq with
    | zero => exact absurd HA.out (by simp [laws_FnRankIsDistance.j0])
    | succ kj2 =>
      have H := HA.out
      clear HA
      simp only [laws_FnRankIsDistance.j0] at H
      by_cases c5 : x13_2 = true
      · subst c5
        have H1 : (some true) = some r := by rw [if_pos rfl] at H; exact H
        clear H
        have H := H1
        clear H1
        obtain rfl := Option.some.inj H
        go_wp2
        go_ret
        exact ⟨by first | rfl | (simp [errW_none, errW_some] <;> rfl) | (simp [*, errW_none, errW_some] <;> rfl), by repeat (first | (with_reducible first | exact HB.out | apply below_alloc | apply pw_below_drewN | apply below_drew1) | exact HB.out)⟩
      · replace c5 := Bool.eq_false_iff.mpr c5
        subst c5
        have H1 : ((spec_AllPlain.f kj2 a0 (([a1] : List ByteArray))).bind fun t286 => (if t286 = true then ((impl_Rank.f kj2 false false a0 a1).bind fun t287 => ((spec_Match.f kj2 false a0 a1).bind fun t288 => (if ((t287 == (-1)) == (!t288)) = true then (if t287 = (-1) then (some true) else ((impl_Distance.f kj2 a0 a1).bind fun t289 => (some (t287 == t289)))) else (some false)))) else (some true))) = some r := by rw [if_neg (show ¬ (false = true) by decide)] at H; exact H
        clear H
        have H := H1
        clear H1
        obtain ⟨y283, hy283⟩ : ∃ y_ : List ByteArray, y_ = (([a1] : List ByteArray)) := ⟨_, rfl⟩
        replace H : ((spec_AllPlain.f kj2 a0 y283).bind fun t286 => (if t286 = true then ((impl_Rank.f kj2 false false a0 a1).bind fun t287 => ((spec_Match.f kj2 false a0 a1).bind fun t288 => (if ((t287 == (-1)) == (!t288)) = true then (if t287 = (-1) then (some true) else ((impl_Distance.f kj2 a0 a1).bind fun t289 => (some (t287 == t289)))) else (some false)))) else (some true))) = some r := by first | (rw [hy283]; with_reducible exact H) | (have H2_ := (Option.bind_some _ _).symm.trans H; rw [hy283]; with_reducible exact H2_) | (have H2_ := (Option.bind_some _ _).symm.trans H; with_reducible exact H2_) | with_reducible exact H | (rw [hy283]; exact H) | exact H
        have Ny283 := Aside0.mk hy283
        clear hy283
        replace H := Option.bind_eq_some_iff.mp H
        obtain ⟨t286, A60, H⟩ := H
        replace H : (if t286 = true then ((impl_Rank.f kj2 false false a0 a1).bind fun t287 => ((spec_Match.f kj2 false a0 a1).bind fun t288 => (if ((t287 == (-1)) == (!t288)) = true then (if t287 = (-1) then (some true) else ((impl_Distance.f kj2 a0 a1).bind fun t289 => (some (t287 == t289)))) else (some false)))) else (some true)) = some r := H
        have A6 := Aside0.mk A60
        clear A60
        by_cases c7 : t286 = true
        · subst c7
          have H1 : ((impl_Rank.f kj2 false false a0 a1).bind fun t287 => ((spec_Match.f kj2 false a0 a1).bind fun t288 => (if ((t287 == (-1)) == (!t288)) = true then (if t287 = (-1) then (some true) else ((impl_Distance.f kj2 a0 a1).bind fun t289 => (some (t287 == t289)))) else (some false)))) = some r := by rw [if_pos rfl] at H; exact H
          clear H
          have H := H1
          clear H1
          replace H := Option.bind_eq_some_iff.mp H
          obtain ⟨t287, A80, H⟩ := H
          replace H : ((spec_Match.f kj2 false a0 a1).bind fun t288 => (if ((t287 == (-1)) == (!t288)) = true then (if t287 = (-1) then (some true) else ((impl_Distance.f kj2 a0 a1).bind fun t289 => (some (t287 == t289)))) else (some false))) = some r := H
          have A8 := Aside0.mk A80
          clear A80
          replace H := Option.bind_eq_some_iff.mp H
          obtain ⟨t288, A90, H⟩ := H
          replace H : (if ((t287 == (-1)) == (!t288)) = true then (if t287 = (-1) then (some true) else ((impl_Distance.f kj2 a0 a1).bind fun t289 => (some (t287 == t289)))) else (some false)) = some r := H
          have A9 := Aside0.mk A90
          clear A90
          by_cases c10 : ((t287 == (-1)) == (!t288)) = true
          · rw [if_pos c10] at H
            have c10b0 : ((t287 == (-1)) == (!t288)) = true := c10
            (try (have c10b1 : decide ((t287 == (-1)) = (!t288)) = true := by simpa using c10))
            (try (have c10b2 : ((t287 == (-1)) == (!t288)) = true := by simpa using c10))
            clear c10
            by_cases c11 : t287 = (-1)
            · rw [if_pos c11] at H
              have c11b0 : (t287 == (-1)) = true := beq_iff_eq.mpr c11
              have c11b1 : (t287 != (-1)) = false := bne_eq_false_iff_eq.mpr c11
              have zb9 : (!t288) = true := by have hz_ : ((t287 == (-1)) == (!t288)) = true := c10b0; have hy_ : (t287 == (-1)) = true := c11b0; rw [hy_] at hz_; revert hz_; cases t288 <;> decide
              clear c11
              obtain rfl := Option.some.inj H
              go_wp2_with (first | ((with_reducible refine gate_dst (N := 16) rfl ?_); (try (refine gate_guard (by rfl) ?_; dsimp only)); refine Kd.R_lit Kd.string _ 9 ?hg (N := 16) ?hd (xs := ([a1] : List ByteArray)) (inner := [.string a1]) (ok := fun _ => True) (okp := fun _ => True) ?hr ?hp (fun _ hk => hk) trivial (Below.refl _ _) (Nat.le_refl _) (by simp) ?_; (case hd => rfl); (case hg => rfl); (case hr => first | (go_simp; done) | (go_simp; rfl)); (case hp => exact (Reps.one (show Kd.M Kd.string _ _ _ a1 [.string a1] from rfl) (Reps.none _ _))); intro v284 w12 ho13 hb hg_ hnew_; clear hg_ hnew_; (first | rw [← Ny283.out] at ho13 | (simp only [Int.reduceToNat] at ho13; rw [← Ny283.out] at ho13)); have n0_ := Aside0.mk (Kd.R_lower ho13 (below_size (by repeat (first | (with_reducible first | exact HB.out | apply below_alloc | apply pw_below_drewN | apply below_drew1) | exact HB.out)))); have n1_ := Aside0.mk (below_step (by repeat (first | (with_reducible first | exact HB.out | apply below_alloc | apply pw_below_drewN | apply below_drew1) | exact HB.out)) hb); clear HB; have HO285 := n0_; have HB := n1_; clear n0_ n1_; clear hb ho13; obtain ⟨Ao14, co14, eo14⟩ := Kd.R_slice HO285.out; subst eo14) | ((with_reducible refine gate_callee (f := 14) rfl ?_); refine goesL_ (some 17) rfl rfl Tryd.func14 (by kernel_rfl) rfl #[.string a0, .slice Ao14 y283.length co14] rfl (by (try simp only [List.map_toArray, List.map_cons, List.map_nil]); first | done | rfl | (simp only [List.length_drop, List.length_take]; rfl)) ?_; (with_reducible refine (spec_AllPlain.calls kj2 a0 _ _ y283 true _ ?side1 ?side2 A6.out).mono ?_); (case side1 => repeat (first | exact (Kd.R_reads' HO285.out).2.2 | (with_reducible refine Kd.C_alloc ?_ _) | (with_reducible refine Kd.C_drewN ?_ _) | (with_reducible refine Kd.C_drew ?_))); (case side2 => exact (Kd.R_reads' HO285.out).2.1); rintro e w15 ⟨rfl, hb⟩; refine ⟨_, rfl, ?_⟩; have n0_ := Aside0.mk (Kd.R_below (by (with_reducible repeat (first | apply Kd.R_alloc | apply Kd.R_drewN | apply Kd.R_drew)); exact HO285.out) hb); have n1_ := Aside0.mk (below_step (by repeat (first | (with_reducible first | exact HB.out | apply below_alloc | apply pw_below_drewN | apply below_drew1) | exact HB.out)) hb); clear HO285; clear HB; have HO285 := n0_; have HB := n1_; clear n0_ n1_; (try clear hb); (try clear hb2); (try clear hk); (try clear hi)) | ((with_reducible refine gate_callee (f := 21) rfl ?_); refine goesL_ (some 21) rfl rfl Tryd.func21 (by kernel_rfl) rfl #[.bool false, .bool false, .string a0, .string a1] rfl (by (try simp only [List.map_toArray, List.map_cons, List.map_nil]); first | done | rfl | (simp only [List.length_drop, List.length_take]; rfl)) ?_; (with_reducible refine (impl_Rank.calls kj2 false false a0 a1 t287 _ (by first | (with_reducible exact HAMB.out) | exact Amb.below HAMB.out (by repeat (first | (with_reducible first | exact HB.out | apply below_alloc | apply pw_below_drewN | apply below_drew1) | exact HB.out)) | exact Amb.below HAMB.out (by repeat (first | (with_reducible first | exact Below.refl _ _ | apply pw_below_drewN | apply below_drew1 | apply below_alloc)))) A8.out).mono ?_); rintro e w16 ⟨rfl, hb⟩; refine ⟨_, rfl, ?_⟩; have n0_ := Aside0.mk (Kd.R_below (by (with_reducible repeat (first | apply Kd.R_alloc | apply Kd.R_drewN | apply Kd.R_drew)); exact HO285.out) hb); have n1_ := Aside0.mk (below_step (by repeat (first | (with_reducible first | exact HB.out | apply below_alloc | apply pw_below_drewN | apply below_drew1) | exact HB.out)) hb); clear HO285; clear HB; have HO285 := n0_; have HB := n1_; clear n0_ n1_; (try clear hb); (try clear hb2); (try clear hk); (try clear hi)) | ((with_reducible refine gate_callee (f := 16) rfl ?_); refine goesL_ (some 26) rfl rfl Tryd.func16 (by kernel_rfl) rfl #[.bool false, .string a0, .string a1] rfl (by (try simp only [List.map_toArray, List.map_cons, List.map_nil]); first | done | rfl | (simp only [List.length_drop, List.length_take]; rfl)) ?_; (with_reducible refine (spec_Match.calls kj2 false a0 a1 t288 _ (by first | (with_reducible exact HAMB.out) | exact Amb.below HAMB.out (by repeat (first | (with_reducible first | exact HB.out | apply below_alloc | apply pw_below_drewN | apply below_drew1) | exact HB.out)) | exact Amb.below HAMB.out (by repeat (first | (with_reducible first | exact Below.refl _ _ | apply pw_below_drewN | apply below_drew1 | apply below_alloc)))) A9.out).mono ?_); rintro e w17 ⟨rfl, hb⟩; refine ⟨_, rfl, ?_⟩; have n0_ := Aside0.mk (Kd.R_below (by (with_reducible repeat (first | apply Kd.R_alloc | apply Kd.R_drewN | apply Kd.R_drew)); exact HO285.out) hb); have n1_ := Aside0.mk (below_step (by repeat (first | (with_reducible first | exact HB.out | apply below_alloc | apply pw_below_drewN | apply below_drew1) | exact HB.out)) hb); clear HO285; clear HB; have HO285 := n0_; have HB := n1_; clear n0_ n1_; (try clear hb); (try clear hb2); (try clear hk); (try clear hi)))
              go_ret
              exact ⟨by first | rfl | (simp [errW_none, errW_some] <;> rfl) | (simp [*, errW_none, errW_some] <;> rfl), by repeat (first | (with_reducible first | exact HB.out | apply below_alloc | apply pw_below_drewN | apply below_drew1) | exact HB.out)⟩
            · rw [if_neg c11] at H
              have c11b0 : (t287 == (-1)) = false := beq_eq_false_iff_ne.mpr c11
              have c11b1 : (t287 != (-1)) = true := bne_iff_ne.mpr c11
              have zb9 : (!t288) = false := by have hz_ : ((t287 == (-1)) == (!t288)) = true := c10b0; have hy_ : (t287 == (-1)) = false := c11b0; rw [hy_] at hz_; revert hz_; cases t288 <;> decide
              replace H := Option.bind_eq_some_iff.mp H
              obtain ⟨t289, A180, H⟩ := H
              replace H : (some (t287 == t289)) = some r := H
              have A18 := Aside0.mk A180
              clear A180
              obtain rfl := Option.some.inj H
              go_wp2_with (first | ((with_reducible refine gate_dst (N := 16) rfl ?_); (try (refine gate_guard (by rfl) ?_; dsimp only)); refine Kd.R_lit Kd.string _ 9 ?hg (N := 16) ?hd (xs := ([a1] : List ByteArray)) (inner := [.string a1]) (ok := fun _ => True) (okp := fun _ => True) ?hr ?hp (fun _ hk => hk) trivial (Below.refl _ _) (Nat.le_refl _) (by simp) ?_; (case hd => rfl); (case hg => rfl); (case hr => first | (go_simp; done) | (go_simp; rfl)); (case hp => exact (Reps.one (show Kd.M Kd.string _ _ _ a1 [.string a1] from rfl) (Reps.none _ _))); intro v284 w19 ho20 hb hg_ hnew_; clear hg_ hnew_; (first | rw [← Ny283.out] at ho20 | (simp only [Int.reduceToNat] at ho20; rw [← Ny283.out] at ho20)); have n0_ := Aside0.mk (Kd.R_lower ho20 (below_size (by repeat (first | (with_reducible first | exact HB.out | apply below_alloc | apply pw_below_drewN | apply below_drew1) | exact HB.out)))); have n1_ := Aside0.mk (below_step (by repeat (first | (with_reducible first | exact HB.out | apply below_alloc | apply pw_below_drewN | apply below_drew1) | exact HB.out)) hb); clear HB; have HO285 := n0_; have HB := n1_; clear n0_ n1_; clear hb ho20; obtain ⟨Ao21, co21, eo21⟩ := Kd.R_slice HO285.out; subst eo21) | ((with_reducible refine gate_callee (f := 14) rfl ?_); refine goesL_ (some 17) rfl rfl Tryd.func14 (by kernel_rfl) rfl #[.string a0, .slice Ao21 y283.length co21] rfl (by (try simp only [List.map_toArray, List.map_cons, List.map_nil]); first | done | rfl | (simp only [List.length_drop, List.length_take]; rfl)) ?_; (with_reducible refine (spec_AllPlain.calls kj2 a0 _ _ y283 true _ ?side1 ?side2 A6.out).mono ?_); (case side1 => repeat (first | exact (Kd.R_reads' HO285.out).2.2 | (with_reducible refine Kd.C_alloc ?_ _) | (with_reducible refine Kd.C_drewN ?_ _) | (with_reducible refine Kd.C_drew ?_))); (case side2 => exact (Kd.R_reads' HO285.out).2.1); rintro e w22 ⟨rfl, hb⟩; refine ⟨_, rfl, ?_⟩; have n0_ := Aside0.mk (Kd.R_below (by (with_reducible repeat (first | apply Kd.R_alloc | apply Kd.R_drewN | apply Kd.R_drew)); exact HO285.out) hb); have n1_ := Aside0.mk (below_step (by repeat (first | (with_reducible first | exact HB.out | apply below_alloc | apply pw_below_drewN | apply below_drew1) | exact HB.out)) hb); clear HO285; clear HB; have HO285 := n0_; have HB := n1_; clear n0_ n1_; (try clear hb); (try clear hb2); (try clear hk); (try clear hi)) | ((with_reducible refine gate_callee (f := 21) rfl ?_); refine goesL_ (some 21) rfl rfl Tryd.func21 (by kernel_rfl) rfl #[.bool false, .bool false, .string a0, .string a1] rfl (by (try simp only [List.map_toArray, List.map_cons, List.map_nil]); first | done | rfl | (simp only [List.length_drop, List.length_take]; rfl)) ?_; (with_reducible refine (impl_Rank.calls kj2 false false a0 a1 t287 _ (by first | (with_reducible exact HAMB.out) | exact Amb.below HAMB.out (by repeat (first | (with_reducible first | exact HB.out | apply below_alloc | apply pw_below_drewN | apply below_drew1) | exact HB.out)) | exact Amb.below HAMB.out (by repeat (first | (with_reducible first | exact Below.refl _ _ | apply pw_below_drewN | apply below_drew1 | apply below_alloc)))) A8.out).mono ?_); rintro e w23 ⟨rfl, hb⟩; refine ⟨_, rfl, ?_⟩; have n0_ := Aside0.mk (Kd.R_below (by (with_reducible repeat (first | apply Kd.R_alloc | apply Kd.R_drewN | apply Kd.R_drew)); exact HO285.out) hb); have n1_ := Aside0.mk (below_step (by repeat (first | (with_reducible first | exact HB.out | apply below_alloc | apply pw_below_drewN | apply below_drew1) | exact HB.out)) hb); clear HO285; clear HB; have HO285 := n0_; have HB := n1_; clear n0_ n1_; (try clear hb); (try clear hb2); (try clear hk); (try clear hi)) | ((with_reducible refine gate_callee (f := 16) rfl ?_); refine goesL_ (some 26) rfl rfl Tryd.func16 (by kernel_rfl) rfl #[.bool false, .string a0, .string a1] rfl (by (try simp only [List.map_toArray, List.map_cons, List.map_nil]); first | done | rfl | (simp only [List.length_drop, List.length_take]; rfl)) ?_; (with_reducible refine (spec_Match.calls kj2 false a0 a1 t288 _ (by first | (with_reducible exact HAMB.out) | exact Amb.below HAMB.out (by repeat (first | (with_reducible first | exact HB.out | apply below_alloc | apply pw_below_drewN | apply below_drew1) | exact HB.out)) | exact Amb.below HAMB.out (by repeat (first | (with_reducible first | exact Below.refl _ _ | apply pw_below_drewN | apply below_drew1 | apply below_alloc)))) A9.out).mono ?_); rintro e w24 ⟨rfl, hb⟩; refine ⟨_, rfl, ?_⟩; have n0_ := Aside0.mk (Kd.R_below (by (with_reducible repeat (first | apply Kd.R_alloc | apply Kd.R_drewN | apply Kd.R_drew)); exact HO285.out) hb); have n1_ := Aside0.mk (below_step (by repeat (first | (with_reducible first | exact HB.out | apply below_alloc | apply pw_below_drewN | apply below_drew1) | exact HB.out)) hb); clear HO285; clear HB; have HO285 := n0_; have HB := n1_; clear n0_ n1_; (try clear hb); (try clear hb2); (try clear hk); (try clear hi)) | (go_at_call 12; (with_reducible refine (impl_Distance.calls kj2 a0 a1 t289 _ A18.out).mono ?_); rintro e w25 ⟨rfl, hb⟩; have n0_ := Aside0.mk (Kd.R_below (by (with_reducible repeat (first | apply Kd.R_alloc | apply Kd.R_drewN | apply Kd.R_drew)); exact HO285.out) hb); have n1_ := Aside0.mk (below_step (by repeat (first | (with_reducible first | exact HB.out | apply below_alloc | apply pw_below_drewN | apply below_drew1) | exact HB.out)) hb); clear HO285; clear HB; have HO285 := n0_; have HB := n1_; clear n0_ n1_; (try clear hb); (try clear hb2); (try clear hk); (try clear hi)))
              go_ret
              exact ⟨by first | rfl | (simp [errW_none, errW_some] <;> rfl) | (simp [*, errW_none, errW_some] <;> rfl), by repeat (first | (with_reducible first | exact HB.out | apply below_alloc | apply pw_below_drewN | apply below_drew1) | exact HB.out)⟩
          · rw [if_neg c10] at H
            have c10b0 : ((t287 == (-1)) == (!t288)) = false := by simpa using c10
            (try (have c10b1 : decide ((t287 == (-1)) = (!t288)) = false := by simpa using c10))
            (try (have c10b2 : ((t287 == (-1)) == (!t288)) = false := by simpa using c10))
            (try (have c10b3 : ¬ ((t287 == (-1)) = (!t288)) := by simpa using c10))
            clear c10
            obtain rfl := Option.some.inj H
            go_wp2_with (first | ((with_reducible refine gate_dst (N := 16) rfl ?_); (try (refine gate_guard (by rfl) ?_; dsimp only)); refine Kd.R_lit Kd.string _ 9 ?hg (N := 16) ?hd (xs := ([a1] : List ByteArray)) (inner := [.string a1]) (ok := fun _ => True) (okp := fun _ => True) ?hr ?hp (fun _ hk => hk) trivial (Below.refl _ _) (Nat.le_refl _) (by simp) ?_; (case hd => rfl); (case hg => rfl); (case hr => first | (go_simp; done) | (go_simp; rfl)); (case hp => exact (Reps.one (show Kd.M Kd.string _ _ _ a1 [.string a1] from rfl) (Reps.none _ _))); intro v284 w26 ho27 hb hg_ hnew_; clear hg_ hnew_; (first | rw [← Ny283.out] at ho27 | (simp only [Int.reduceToNat] at ho27; rw [← Ny283.out] at ho27)); have n0_ := Aside0.mk (Kd.R_lower ho27 (below_size (by repeat (first | (with_reducible first | exact HB.out | apply below_alloc | apply pw_below_drewN | apply below_drew1) | exact HB.out)))); have n1_ := Aside0.mk (below_step (by repeat (first | (with_reducible first | exact HB.out | apply below_alloc | apply pw_below_drewN | apply below_drew1) | exact HB.out)) hb); clear HB; have HO285 := n0_; have HB := n1_; clear n0_ n1_; clear hb ho27; obtain ⟨Ao28, co28, eo28⟩ := Kd.R_slice HO285.out; subst eo28) | ((with_reducible refine gate_callee (f := 14) rfl ?_); refine goesL_ (some 17) rfl rfl Tryd.func14 (by kernel_rfl) rfl #[.string a0, .slice Ao28 y283.length co28] rfl (by (try simp only [List.map_toArray, List.map_cons, List.map_nil]); first | done | rfl | (simp only [List.length_drop, List.length_take]; rfl)) ?_; (with_reducible refine (spec_AllPlain.calls kj2 a0 _ _ y283 true _ ?side1 ?side2 A6.out).mono ?_); (case side1 => repeat (first | exact (Kd.R_reads' HO285.out).2.2 | (with_reducible refine Kd.C_alloc ?_ _) | (with_reducible refine Kd.C_drewN ?_ _) | (with_reducible refine Kd.C_drew ?_))); (case side2 => exact (Kd.R_reads' HO285.out).2.1); rintro e w29 ⟨rfl, hb⟩; refine ⟨_, rfl, ?_⟩; have n0_ := Aside0.mk (Kd.R_below (by (with_reducible repeat (first | apply Kd.R_alloc | apply Kd.R_drewN | apply Kd.R_drew)); exact HO285.out) hb); have n1_ := Aside0.mk (below_step (by repeat (first | (with_reducible first | exact HB.out | apply below_alloc | apply pw_below_drewN | apply below_drew1) | exact HB.out)) hb); clear HO285; clear HB; have HO285 := n0_; have HB := n1_; clear n0_ n1_; (try clear hb); (try clear hb2); (try clear hk); (try clear hi)) | ((with_reducible refine gate_callee (f := 21) rfl ?_); refine goesL_ (some 21) rfl rfl Tryd.func21 (by kernel_rfl) rfl #[.bool false, .bool false, .string a0, .string a1] rfl (by (try simp only [List.map_toArray, List.map_cons, List.map_nil]); first | done | rfl | (simp only [List.length_drop, List.length_take]; rfl)) ?_; (with_reducible refine (impl_Rank.calls kj2 false false a0 a1 t287 _ (by first | (with_reducible exact HAMB.out) | exact Amb.below HAMB.out (by repeat (first | (with_reducible first | exact HB.out | apply below_alloc | apply pw_below_drewN | apply below_drew1) | exact HB.out)) | exact Amb.below HAMB.out (by repeat (first | (with_reducible first | exact Below.refl _ _ | apply pw_below_drewN | apply below_drew1 | apply below_alloc)))) A8.out).mono ?_); rintro e w30 ⟨rfl, hb⟩; refine ⟨_, rfl, ?_⟩; have n0_ := Aside0.mk (Kd.R_below (by (with_reducible repeat (first | apply Kd.R_alloc | apply Kd.R_drewN | apply Kd.R_drew)); exact HO285.out) hb); have n1_ := Aside0.mk (below_step (by repeat (first | (with_reducible first | exact HB.out | apply below_alloc | apply pw_below_drewN | apply below_drew1) | exact HB.out)) hb); clear HO285; clear HB; have HO285 := n0_; have HB := n1_; clear n0_ n1_; (try clear hb); (try clear hb2); (try clear hk); (try clear hi)) | ((with_reducible refine gate_callee (f := 16) rfl ?_); refine goesL_ (some 26) rfl rfl Tryd.func16 (by kernel_rfl) rfl #[.bool false, .string a0, .string a1] rfl (by (try simp only [List.map_toArray, List.map_cons, List.map_nil]); first | done | rfl | (simp only [List.length_drop, List.length_take]; rfl)) ?_; (with_reducible refine (spec_Match.calls kj2 false a0 a1 t288 _ (by first | (with_reducible exact HAMB.out) | exact Amb.below HAMB.out (by repeat (first | (with_reducible first | exact HB.out | apply below_alloc | apply pw_below_drewN | apply below_drew1) | exact HB.out)) | exact Amb.below HAMB.out (by repeat (first | (with_reducible first | exact Below.refl _ _ | apply pw_below_drewN | apply below_drew1 | apply below_alloc)))) A9.out).mono ?_); rintro e w31 ⟨rfl, hb⟩; refine ⟨_, rfl, ?_⟩; have n0_ := Aside0.mk (Kd.R_below (by (with_reducible repeat (first | apply Kd.R_alloc | apply Kd.R_drewN | apply Kd.R_drew)); exact HO285.out) hb); have n1_ := Aside0.mk (below_step (by repeat (first | (with_reducible first | exact HB.out | apply below_alloc | apply pw_below_drewN | apply below_drew1) | exact HB.out)) hb); clear HO285; clear HB; have HO285 := n0_; have HB := n1_; clear n0_ n1_; (try clear hb); (try clear hb2); (try clear hk); (try clear hi)))
            go_ret
            exact ⟨by first | rfl | (simp [errW_none, errW_some] <;> rfl) | (simp [*, errW_none, errW_some] <;> rfl), by repeat (first | (with_reducible first | exact HB.out | apply below_alloc | apply pw_below_drewN | apply below_drew1) | exact HB.out)⟩
        · replace c7 := Bool.eq_false_iff.mpr c7
          subst c7
          have H1 : (some true) = some r := by rw [if_neg (show ¬ (false = true) by decide)] at H; exact H
          clear H
          have H := H1
          clear H1
          obtain rfl := Option.some.inj H
          go_wp2_with (first | ((with_reducible refine gate_dst (N := 16) rfl ?_); (try (refine gate_guard (by rfl) ?_; dsimp only)); refine Kd.R_lit Kd.string _ 9 ?hg (N := 16) ?hd (xs := ([a1] : List ByteArray)) (inner := [.string a1]) (ok := fun _ => True) (okp := fun _ => True) ?hr ?hp (fun _ hk => hk) trivial (Below.refl _ _) (Nat.le_refl _) (by simp) ?_; (case hd => rfl); (case hg => rfl); (case hr => first | (go_simp; done) | (go_simp; rfl)); (case hp => exact (Reps.one (show Kd.M Kd.string _ _ _ a1 [.string a1] from rfl) (Reps.none _ _))); intro v284 w32 ho33 hb hg_ hnew_; clear hg_ hnew_; (first | rw [← Ny283.out] at ho33 | (simp only [Int.reduceToNat] at ho33; rw [← Ny283.out] at ho33)); have n0_ := Aside0.mk (Kd.R_lower ho33 (below_size (by repeat (first | (with_reducible first | exact HB.out | apply below_alloc | apply pw_below_drewN | apply below_drew1) | exact HB.out)))); have n1_ := Aside0.mk (below_step (by repeat (first | (with_reducible first | exact HB.out | apply below_alloc | apply pw_below_drewN | apply below_drew1) | exact HB.out)) hb); clear HB; have HO285 := n0_; have HB := n1_; clear n0_ n1_; clear hb ho33; obtain ⟨Ao34, co34, eo34⟩ := Kd.R_slice HO285.out; subst eo34) | ((with_reducible refine gate_callee (f := 14) rfl ?_); refine goesL_ (some 17) rfl rfl Tryd.func14 (by kernel_rfl) rfl #[.string a0, .slice Ao34 y283.length co34] rfl (by (try simp only [List.map_toArray, List.map_cons, List.map_nil]); first | done | rfl | (simp only [List.length_drop, List.length_take]; rfl)) ?_; (with_reducible refine (spec_AllPlain.calls kj2 a0 _ _ y283 false _ ?side1 ?side2 A6.out).mono ?_); (case side1 => repeat (first | exact (Kd.R_reads' HO285.out).2.2 | (with_reducible refine Kd.C_alloc ?_ _) | (with_reducible refine Kd.C_drewN ?_ _) | (with_reducible refine Kd.C_drew ?_))); (case side2 => exact (Kd.R_reads' HO285.out).2.1); rintro e w35 ⟨rfl, hb⟩; refine ⟨_, rfl, ?_⟩; have n0_ := Aside0.mk (Kd.R_below (by (with_reducible repeat (first | apply Kd.R_alloc | apply Kd.R_drewN | apply Kd.R_drew)); exact HO285.out) hb); have n1_ := Aside0.mk (below_step (by repeat (first | (with_reducible first | exact HB.out | apply below_alloc | apply pw_below_drewN | apply below_drew1) | exact HB.out)) hb); clear HO285; clear HB; have HO285 := n0_; have HB := n1_; clear n0_ n1_; (try clear hb); (try clear hb2); (try clear hk); (try clear hi)))
          go_ret
          exact ⟨by first | rfl | (simp [errW_none, errW_some] <;> rfl) | (simp [*, errW_none, errW_some] <;> rfl), by repeat (first | (with_reducible first | exact HB.out | apply below_alloc | apply pw_below_drewN | apply below_drew1) | exact HB.out)⟩

/-! ### spec_SameRanks: function 23 -/
def spec_SameRanks.l0 : Nat → List (S50) → List (S50) → Int → Option (Bool)
  | 0, _, _, _ => none
  | k + 1, x0, x1, x5 => if x5 < (x0.length : Int) then (if 0 ≤ x5 then (if x5 < (x1.length : Int) then (if (!((((rd_T50 x0 x5).f0).toList) == (((rd_T50 x1 x5).f0).toList)) || (!((((rd_T50 x0 x5).f1).toList) == (((rd_T50 x1 x5).f1).toList)) || (!(((rd_T50 x0 x5).f2) == ((rd_T50 x1 x5).f2)) || (!(((rd_T50 x0 x5).f3) == ((rd_T50 x1 x5).f3)))))) = true then (some false) else (spec_SameRanks.l0 k x0 x1 (wrap64 (x5 + 1)))) else (none)) else (none)) else (some true)
def spec_SameRanks.f (k : Nat) (l0 : List (S50)) (l1 : List (S50)) : Option (Bool) := if (l0.length : Int) = (l1.length : Int) then (spec_SameRanks.l0 k l0 l1 0) else (some false)
theorem spec_SameRanks.mono_l : ∀ k, (∀ y0 y1 y2, LeO (spec_SameRanks.l0 k y0 y1 y2) (spec_SameRanks.l0 (k + 1) y0 y1 y2))
  | 0 => fun _ _ _ r h => by simp [spec_SameRanks.l0] at h
  | k + 1 => by
    have ih0 := spec_SameRanks.mono_l k
    · intro y0 y1 y2
      unfold spec_SameRanks.l0
      repeat' first
      | (with_reducible exact ih0 _ _ _)
      | (with_reducible exact LeO.refl _)
      | (with_reducible exact LeO.none _)
      | (with_reducible refine LeO.ite ?_ ?_)
      | (with_reducible refine LeO.bind ?_ (fun _ => ?_))
      | exact ih0 _ _ _
      | exact LeO.none _
      | refine LeO.ite ?_ ?_
      | refine LeO.bind ?_ (fun _ => ?_)
theorem spec_SameRanks.mono : ∀ a0 a1 k, LeO (spec_SameRanks.f k a0 a1) (spec_SameRanks.f (k + 1) a0 a1) := by
  intro a0 a1 k
  have ih0 := spec_SameRanks.mono_l k
  unfold spec_SameRanks.f
  repeat' first
      | (with_reducible exact ih0 _ _ _)
      | (with_reducible exact LeO.refl _)
      | (with_reducible exact LeO.none _)
      | (with_reducible refine LeO.ite ?_ ?_)
      | (with_reducible refine LeO.bind ?_ (fun _ => ?_))
      | exact ih0 _ _ _
      | exact LeO.none _
      | refine LeO.ite ?_ ?_
      | refine LeO.bind ?_ (fun _ => ?_)
set_option maxHeartbeats 8000000 in
set_option maxRecDepth 100000 in
theorem spec_SameRanks.calls (k : Nat) (A0 : Option Addr) (c0 : Nat) (l0 : List (S50)) (A1 : Option Addr) (c1 : Nat) (l1 : List (S50)) (r : Bool) (w : World) (hr0 : Kd.C k50 w A0 l0.length l0) (hc0 : l0.length ≤ c0) (hr1 : Kd.C k50 w A1 l1.length l1) (hc1 : l1.length ≤ c1) (h : spec_SameRanks.f k l0 l1 = some r) :
    Calls Tryd.prog 23 #[.slice A0 l0.length c0, .slice A1 l1.length c1] w fun e w' => e = .returned (.bool r) ∧ Drawn0 w w' := by
  have hu50 := Tryd.underlying50
  have HR0 := Aside0.mk hr0
  have HC0 := Aside0.mk hc0
  clear hr0 hc0
  have HR1 := Aside0.mk hr1
  have HC1 := Aside0.mk hc1
  clear hr1 hc1
  have H : (if (l0.length : Int) = (l1.length : Int) then (spec_SameRanks.l0 k l0 l1 0) else (some false)) = some r := h
  clear h
  by_cases c3 : (l0.length : Int) = (l1.length : Int)
  · rw [if_pos c3] at H
    have c3b0 : ((l0.length : Int) == (l1.length : Int)) = true := beq_iff_eq.mpr c3
    have c3b1 : ((l0.length : Int) != (l1.length : Int)) = false := bne_eq_false_iff_eq.mpr c3
    have c3b2 : (l0.length == l1.length) = true := by first | simpa using c3 | (simp at c3 ⊢; omega)
    clear c3
    have H' := Aside0.mk H
    clear H
    go_enter Tryd.func23, Tryd.ntmps23
    go_wp2
    repeat (go_quiet (fail); try go_wp2)
    go_loopg [5] k (fun kq v5 w' => ∃ (x5_1 : Int), v5 = .int .i64 x5_1 ∧ Aside0 (spec_SameRanks.l0 kq l0 l1 x5_1 = some r) ∧ Aside0 (kq ≤ k) ∧ Drawn0 w w')
    case atStart => exact ⟨(0), (by first | rfl | (simp; done) | (simp [*]; done)), H', ⟨Nat.le_refl _⟩, by repeat (first | exact Drawn0.refl _ | apply Drawn0.step)⟩
    case round =>
      clear H'
      try clear c1
      try clear c2
      try clear p2
      try clear c3
      try clear c3b0
      try clear c3b1
      try clear c3b2
      obtain ⟨x5_1, rfl, HA, HK1, ⟨m1, rfl⟩⟩ := hrel
      cases gk with
      | zero => exact absurd HA.out (by simp [spec_SameRanks.l0])
      | succ k1 =>
        have H := HA.out
        clear HA
        simp only [spec_SameRanks.l0] at H
        by_cases c4 : x5_1 < (l0.length : Int)
        · rw [if_pos c4] at H
          have c4b0 : decide (x5_1 < (l0.length : Int)) = true := decide_eq_true c4
          clear c4
          by_cases c5 : 0 ≤ x5_1
          · rw [if_pos c5] at H
            have c5b0 : decide (0 ≤ x5_1) = true := decide_eq_true c5
            clear c5
            by_cases c6 : x5_1 < (l1.length : Int)
            · rw [if_pos c6] at H
              have c6b0 : decide (x5_1 < (l1.length : Int)) = true := decide_eq_true c6
              clear c6
              by_cases c7 : (!((((rd_T50 l0 x5_1).f0).toList) == (((rd_T50 l1 x5_1).f0).toList)) || (!((((rd_T50 l0 x5_1).f1).toList) == (((rd_T50 l1 x5_1).f1).toList)) || (!(((rd_T50 l0 x5_1).f2) == ((rd_T50 l1 x5_1).f2)) || (!(((rd_T50 l0 x5_1).f3) == ((rd_T50 l1 x5_1).f3)))))) = true
              · rw [if_pos c7] at H
                have c7b0 : (!((((rd_T50 l0 x5_1).f0).toList) == (((rd_T50 l1 x5_1).f0).toList)) || (!((((rd_T50 l0 x5_1).f1).toList) == (((rd_T50 l1 x5_1).f1).toList)) || (!(((rd_T50 l0 x5_1).f2) == ((rd_T50 l1 x5_1).f2)) || (!(((rd_T50 l0 x5_1).f3) == ((rd_T50 l1 x5_1).f3)))))) = true := c7
                clear c7
                obtain rfl := Option.some.inj H
                have p290 : 0 ≤ (x5_1 : Int) := of_decide_eq_true (by first | (with_reducible assumption) | assumption)
                have q290 : x5_1 < (l0.length : Int) := of_decide_eq_true (by first | (with_reducible assumption) | assumption)
                obtain ⟨ad290, e290, hx290_0, hx290_1, hx290_2, hx290_3⟩ := at_T50 HR0.out x5_1 p290 q290
                cases e290
                replace p290 := eq_true p290
                replace q290 := eq_true q290
                have p291 : 0 ≤ (x5_1 : Int) := of_decide_eq_true (by first | (with_reducible assumption) | assumption)
                have q291 : x5_1 < (l1.length : Int) := of_decide_eq_true (by first | (with_reducible assumption) | assumption)
                obtain ⟨ad291, e291, hx291_0, hx291_1, hx291_2, hx291_3⟩ := at_T50 HR1.out x5_1 p291 q291
                cases e291
                replace p291 := eq_true p291
                replace q291 := eq_true q291
                go_wp2
                repeat (go_quiet (fail); try go_wp2)
                go_ret
                exact ⟨by first | rfl | (simp; done) | (simp [*]; done), by repeat (first | exact Drawn0.refl _ | apply Drawn0.step)⟩
              · rw [if_neg c7] at H
                have c7b0 : (!((((rd_T50 l0 x5_1).f0).toList) == (((rd_T50 l1 x5_1).f0).toList)) || (!((((rd_T50 l0 x5_1).f1).toList) == (((rd_T50 l1 x5_1).f1).toList)) || (!(((rd_T50 l0 x5_1).f2) == ((rd_T50 l1 x5_1).f2)) || (!(((rd_T50 l0 x5_1).f3) == ((rd_T50 l1 x5_1).f3)))))) = false := by simpa using c7
                clear c7
                have H' := Aside0.mk H
                clear H
                have p290 : 0 ≤ (x5_1 : Int) := of_decide_eq_true (by first | (with_reducible assumption) | assumption)
                have q290 : x5_1 < (l0.length : Int) := of_decide_eq_true (by first | (with_reducible assumption) | assumption)
                obtain ⟨ad290, e290, hx290_0, hx290_1, hx290_2, hx290_3⟩ := at_T50 HR0.out x5_1 p290 q290
                cases e290
                replace p290 := eq_true p290
                replace q290 := eq_true q290
                have p291 : 0 ≤ (x5_1 : Int) := of_decide_eq_true (by first | (with_reducible assumption) | assumption)
                have q291 : x5_1 < (l1.length : Int) := of_decide_eq_true (by first | (with_reducible assumption) | assumption)
                obtain ⟨ad291, e291, hx291_0, hx291_1, hx291_2, hx291_3⟩ := at_T50 HR1.out x5_1 p291 q291
                cases e291
                replace p291 := eq_true p291
                replace q291 := eq_true q291
                go_wp2
                repeat (go_quiet (fail); try go_wp2)
                go_roundg k1
                case measure => have := HK1.out; omega
                case rel => exact ⟨(wrap64 (x5_1 + 1)), (by first | rfl | (simp; done) | (simp [*]; done)), H', ⟨by have := HK1.out; omega⟩, by repeat (first | exact Drawn0.refl _ | apply Drawn0.step)⟩
            · rw [if_neg c6] at H
              exact absurd H (by simp)
          · rw [if_neg c5] at H
            exact absurd H (by simp)
        · rw [if_neg c4] at H
          have c4b0 : decide (x5_1 < (l0.length : Int)) = false := decide_eq_false c4
          clear c4
          obtain rfl := Option.some.inj H
          go_wp2
          repeat (go_quiet (fail); try go_wp2)
          go_ret
          exact ⟨by first | rfl | (simp; done) | (simp [*]; done), by repeat (first | exact Drawn0.refl _ | apply Drawn0.step)⟩
  · rw [if_neg c3] at H
    have c3b0 : ((l0.length : Int) == (l1.length : Int)) = false := beq_eq_false_iff_ne.mpr c3
    have c3b1 : ((l0.length : Int) != (l1.length : Int)) = true := bne_iff_ne.mpr c3
    have c3b2 : (l0.length == l1.length) = false := by first | simpa using c3 | (simp at c3 ⊢; omega)
    obtain rfl := Option.some.inj H
    go_enter Tryd.func23, Tryd.ntmps23
    go_wp2
    repeat (go_quiet (fail); try go_wp2)
    go_ret
    exact ⟨by first | rfl | (simp; done) | (simp [*]; done), by repeat (first | exact Drawn0.refl _ | apply Drawn0.step)⟩

/-! ### impl_ranked: function 39 -/
def impl_ranked.l0 : Nat → List (S50) → List (S63) → Int → Int → Option ((List (S50)))
  | 0, _, _, _, _ => none
  | k + 1, x3, x6, x7, x8 => if x8 < x7 then (if 0 ≤ x8 then (if x8 < (x6.length : Int) then (if x3.length < 2932031007402 then (impl_ranked.l0 k (x3 ++ [(⟨(rd_T63 x6 x8).f0, (rd_T63 x6 x8).f1, (rd_T63 x6 x8).f2, (rd_T63 x6 x8).f3⟩ : S50)]) x6 x7 (wrap64 (x8 + 1))) else (none)) else (none)) else (none)) else (some x3)
def impl_ranked.f (k : Nat) (l0 : List (S63)) : Option ((List (S50))) := impl_ranked.l0 k ([] : List (S50)) l0 (l0.length : Int) 0
theorem impl_ranked.mono_l : ∀ k, (∀ y0 y1 y2 y3, LeO (impl_ranked.l0 k y0 y1 y2 y3) (impl_ranked.l0 (k + 1) y0 y1 y2 y3))
  | 0 => fun _ _ _ _ r h => by simp [impl_ranked.l0] at h
  | k + 1 => by
    have ih0 := impl_ranked.mono_l k
    · intro y0 y1 y2 y3
      unfold impl_ranked.l0
      repeat' first
      | (with_reducible exact ih0 _ _ _ _)
      | (with_reducible exact LeO.refl _)
      | (with_reducible exact LeO.none _)
      | (with_reducible refine LeO.ite ?_ ?_)
      | (with_reducible refine LeO.bind ?_ (fun _ => ?_))
      | exact ih0 _ _ _ _
      | exact LeO.none _
      | refine LeO.ite ?_ ?_
      | refine LeO.bind ?_ (fun _ => ?_)
theorem impl_ranked.mono : ∀ a0 k, LeO (impl_ranked.f k a0) (impl_ranked.f (k + 1) a0) := by
  intro a0 k
  have ih0 := impl_ranked.mono_l k
  unfold impl_ranked.f
  repeat' first
      | (with_reducible exact ih0 _ _ _ _)
      | (with_reducible exact LeO.refl _)
      | (with_reducible exact LeO.none _)
      | (with_reducible refine LeO.ite ?_ ?_)
      | (with_reducible refine LeO.bind ?_ (fun _ => ?_))
      | exact ih0 _ _ _ _
      | exact LeO.none _
      | refine LeO.ite ?_ ?_
      | refine LeO.bind ?_ (fun _ => ?_)
set_option maxHeartbeats 8000000 in
set_option maxRecDepth 100000 in
theorem impl_ranked.calls (k : Nat) (A0 : Option Addr) (c0 : Nat) (l0 : List (S63)) (r : List (S50)) (w : World) (hr0 : Kd.C k63 w A0 l0.length l0) (hc0 : l0.length ≤ c0) (h : impl_ranked.f k l0 = some r) :
    Calls Tryd.prog 39 #[.slice A0 l0.length c0] w fun e w' => ∃ v0_ : Value, e = .returned (v0_) ∧ Kd.R k50 50 w' w.heap.size (fun _ => True) v0_ r ∧ Below w.heap.size w w' := by
  have hu63 := Tryd.underlying63
  have hu50 := Tryd.underlying50
  have HR0 := Aside0.mk hr0
  have HC0 := Aside0.mk hc0
  clear hr0 hc0
  have HB := Aside0.mk (Below.refl w.heap.size w)
  have H : (impl_ranked.l0 k ([] : List (S50)) l0 (l0.length : Int) 0) = some r := h
  clear h
  have H' := Aside0.mk H
  clear H
  go_enter Tryd.func39, Tryd.ntmps39
  go_wp2
  go_loopg [3, 8] k (fun kq v3 v8 w' => ∃ (x3_1 : List (S50)) (x8_1 : Int), v8 = .int .i64 x8_1 ∧ Aside0 (impl_ranked.l0 kq x3_1 l0 (l0.length : Int) x8_1 = some r) ∧ Aside0 (kq ≤ k) ∧ Aside0 (Kd.R k50 50 w' w.heap.size (fun _ => True) v3 x3_1) ∧ Aside0 (Below w.heap.size w w'))
  case atStart => exact ⟨(([] : List (S50))), (0), (by first | rfl | (simp; done) | (simp [*]; done)), H', ⟨Nat.le_refl _⟩, ⟨by first | exact Kd.R_nil _ _ _ _ _ | exact Kd.N_nil _ _ _ _ _ | exact Kd.V_nil _ _ _ _ _ | exact Kd.Q_nil _ _ _ _ _ | exact Kd.S_nil _ _ _ _ _⟩, ⟨by repeat (first | (with_reducible first | exact HB.out | apply below_alloc | apply pw_below_drewN | apply below_drew1) | exact HB.out)⟩⟩
  case round =>
    clear H'
    obtain ⟨x3_1, x8_1, rfl, HA, HK1, HO_3, HB⟩ := hrel
    cases gk with
    | zero => exact absurd HA.out (by simp [impl_ranked.l0])
    | succ k1 =>
      have H := HA.out
      clear HA
      simp only [impl_ranked.l0] at H
      by_cases c2 : x8_1 < (l0.length : Int)
      · rw [if_pos c2] at H
        have c2b0 : decide (x8_1 < (l0.length : Int)) = true := decide_eq_true c2
        clear c2
        by_cases c3 : 0 ≤ x8_1
        · rw [if_pos c3] at H
          have c3b0 : decide (0 ≤ x8_1) = true := decide_eq_true c3
          clear c3
          by_cases c4 : x8_1 < (l0.length : Int)
          · rw [if_pos c4] at H
            have c4b0 : decide (x8_1 < (l0.length : Int)) = true := decide_eq_true c4
            clear c4
            by_cases c5 : x3_1.length < 2932031007402
            · rw [if_pos c5] at H
              have LMc5 := Aside0.mk c5
              clear c5
              obtain ⟨y294, hy294⟩ : ∃ y_ : List (S50), y_ = (x3_1 ++ [(⟨(rd_T63 l0 x8_1).f0, (rd_T63 l0 x8_1).f1, (rd_T63 l0 x8_1).f2, (rd_T63 l0 x8_1).f3⟩ : S50)]) := ⟨_, rfl⟩
              replace H : (impl_ranked.l0 k1 y294 l0 (l0.length : Int) (wrap64 (x8_1 + 1))) = some r := by first | (rw [hy294]; with_reducible exact H) | (have H2_ := (Option.bind_some _ _).symm.trans H; rw [hy294]; with_reducible exact H2_) | (have H2_ := (Option.bind_some _ _).symm.trans H; with_reducible exact H2_) | with_reducible exact H | (rw [hy294]; exact H) | exact H
              have Ny294 := Aside0.mk hy294
              clear hy294
              have H' := Aside0.mk H
              clear H
              have p292 : 0 ≤ (x8_1 : Int) := of_decide_eq_true (by first | (with_reducible assumption) | assumption)
              have q292 : x8_1 < (l0.length : Int) := of_decide_eq_true (by first | (with_reducible assumption) | assumption)
              obtain ⟨ad292, e292, hx292_0, hx292_1, hx292_2, hx292_3⟩ := at_T63 HR0.out x8_1 p292 q292
              cases e292
              replace hx292_0 := (HB.out.cell (World.block_lt_of_cell? w _ hx292_0)).trans hx292_0
              replace hx292_1 := (HB.out.cell (World.block_lt_of_cell? w _ hx292_1)).trans hx292_1
              replace hx292_2 := (HB.out.cell (World.block_lt_of_cell? w _ hx292_2)).trans hx292_2
              replace hx292_3 := (HB.out.cell (World.block_lt_of_cell? w _ hx292_3)).trans hx292_3
              replace p292 := eq_true p292
              replace q292 := eq_true q292
              go_wp2_with (first | ((with_reducible refine gate_dst (N := 5) rfl ?_); refine box_event ?hg (N := 5) ?hd (cs := #[.string (⟨#[]⟩ : ByteArray), .string (⟨#[]⟩ : ByteArray), .int .i64 0, .int .i64 0]) (t := 63) ?hr ?_; (case hd => rfl); (case hg => rfl); (case hr => first | (go_simp; done) | (go_simp; rfl)); intro gb293 hg w6 hbox hb; have n0_ := Aside0.mk (Kd.R_below (by (with_reducible repeat (first | apply Kd.R_alloc | apply Kd.R_drewN | apply Kd.R_drew)); exact HO_3.out) hb); have n1_ := Aside0.mk (below_step (by repeat (first | (with_reducible first | exact HB.out | apply below_alloc | apply pw_below_drewN | apply below_drew1) | exact HB.out)) hb); have n2_ := Aside0.mk (hbox); have n3_ := Aside0.mk ((by rw [hg]; exact (below_size (by repeat (first | (with_reducible first | exact HB.out | apply below_alloc | apply pw_below_drewN | apply below_drew1) | exact HB.out))) : w.heap.size ≤ gb293)); have n4_ := Aside0.mk ((by rw [hg]; exact (below_size (by repeat (first | (with_reducible first | exact HB.out | apply below_alloc | apply pw_below_drewN | apply below_drew1) | exact HB.out))) : w.heap.size ≤ gb293)); clear HO_3; clear HB; have HO_3 := n0_; have HB := n1_; have BK293 := n2_; have GW293 := n3_; have GE293 := n4_; clear n0_ n1_ n2_ n3_ n4_; clear hb hbox hg; have hcz7_0 : w6.cell? ⟨gb293, 0, none⟩ = some (.string (⟨#[]⟩ : ByteArray)) := (blk_cell BK293.out 0).trans rfl; have hcz7_1 : w6.cell? ⟨gb293, 1, none⟩ = some (.string (⟨#[]⟩ : ByteArray)) := (blk_cell BK293.out 1).trans rfl; have hcz7_2 : w6.cell? ⟨gb293, 2, none⟩ = some (.int .i64 0) := (blk_cell BK293.out 2).trans rfl; have hcz7_3 : w6.cell? ⟨gb293, 3, none⟩ = some (.int .i64 0) := (blk_cell BK293.out 3).trans rfl; have hfz7_0 := blk_frozen BK293.out 0; have hfz7_1 := blk_frozen BK293.out 1; have hfz7_2 := blk_frozen BK293.out 2; have hfz7_3 := blk_frozen BK293.out 3) | ((with_reducible refine gate_builtin (b := .append) (xs := #[.tmp 12, .tmp 22]) rfl ?_); at_builtin; refine Kd.R_append k50 (w0 := w) w.heap.size rfl (.tmp 12) (.tmp 22) 38 50 (.agg #[(.string ⟨#[]⟩), (.string ⟨#[]⟩), (.int .i64 0), (.int .i64 0)]) 48 rfl Tryd.underlying38 info50 rfl (by decide) (by omega) u3 x3_1 (⟨(rd_T63 l0 x8_1).f0, (rd_T63 l0 x8_1).f1, (rd_T63 l0 x8_1).f2, (rd_T63 l0 x8_1).f3⟩ : S50) [.string ((rd_T63 l0 x8_1).f0), .string ((rd_T63 l0 x8_1).f1), .int .i64 ((rd_T63 l0 x8_1).f2), .int .i64 ((rd_T63 l0 x8_1).f3)] (fun _ => True) (fun _ => False) rfl (by first | (go_simp; done) | (go_simp; rfl)) ?aP (fun _ hk => hk.elim) ?aF ?aO ?aB ?aS ?aL ?_; (case aP => exact k50_mkM _ _ _ (⟨(rd_T63 l0 x8_1).f0, (rd_T63 l0 x8_1).f1, (rd_T63 l0 x8_1).f2, (rd_T63 l0 x8_1).f3⟩ : S50)); (case aB => exact (by repeat (first | (with_reducible first | exact HB.out | apply below_alloc | apply pw_below_drewN | apply below_drew1 | refine below_set ?_ GE293.out) | exact HB.out))); (case aF => exact (fun _ _ => trivial)); (case aO => exact (by (with_reducible repeat (first | apply Kd.R_alloc | apply Kd.R_drewN | apply Kd.R_drew)); exact Kd.R_mono (Kd.R_far (p := ⟨gb293, 3, none⟩) (Kd.R_far (p := ⟨gb293, 2, none⟩) (Kd.R_far (p := ⟨gb293, 1, none⟩) (Kd.R_far (p := ⟨gb293, 0, none⟩) (Kd.R_types HO_3.out BK293.out (by decide)) (fun _ hk => hk.2) (.string ((rd_T63 l0 x8_1).f0))) (fun _ hk => hk.2) (.string ((rd_T63 l0 x8_1).f1))) (fun _ hk => hk.2) (.int .i64 ((rd_T63 l0 x8_1).f2))) (fun _ hk => hk.2) (.int .i64 ((rd_T63 l0 x8_1).f3))) (fun _ hk => trivial))); (case aS => exact (below_size (by repeat (first | (with_reducible first | exact HB.out | apply below_alloc | apply pw_below_drewN | apply below_drew1 | refine below_set ?_ GE293.out) | exact HB.out)))); (case aL => have := LMc5.out; omega); intro v295 w8 ho hb hg hat; rw [← Ny294.out] at ho; have n0_ := Aside0.mk (blk_grown (g := gb293) (o := .cells #[.string ((rd_T63 l0 x8_1).f0), .string ((rd_T63 l0 x8_1).f1), .int .i64 ((rd_T63 l0 x8_1).f2), .int .i64 ((rd_T63 l0 x8_1).f3)] 63 (0, 0)) (by (with_reducible repeat (first | refine blk_drewN ?_ _ | refine blk_drew ?_ | refine blk_alloc ?_ _)); refine blk_put (cs := #[.string ((rd_T63 l0 x8_1).f0), .string ((rd_T63 l0 x8_1).f1), .int .i64 ((rd_T63 l0 x8_1).f2), .int .i64 0]) ?_ 3 _ rfl; (with_reducible repeat (first | refine blk_drewN ?_ _ | refine blk_drew ?_ | refine blk_alloc ?_ _)); refine blk_put (cs := #[.string ((rd_T63 l0 x8_1).f0), .string ((rd_T63 l0 x8_1).f1), .int .i64 0, .int .i64 0]) ?_ 2 _ rfl; (with_reducible repeat (first | refine blk_drewN ?_ _ | refine blk_drew ?_ | refine blk_alloc ?_ _)); refine blk_put (cs := #[.string ((rd_T63 l0 x8_1).f0), .string (⟨#[]⟩ : ByteArray), .int .i64 0, .int .i64 0]) ?_ 1 _ rfl; (with_reducible repeat (first | refine blk_drewN ?_ _ | refine blk_drew ?_ | refine blk_alloc ?_ _)); refine blk_put (cs := #[.string (⟨#[]⟩ : ByteArray), .string (⟨#[]⟩ : ByteArray), .int .i64 0, .int .i64 0]) ?_ 0 _ rfl; (with_reducible repeat (first | refine blk_drewN ?_ _ | refine blk_drew ?_ | refine blk_alloc ?_ _)); exact BK293.out) hg (Kd.R_ne HO_3.out BK293.out (by decide))); have n1_ := Aside0.mk (hb); have n2_ := Aside0.mk (ho); clear BK293; clear HB; clear HO_3; have BK293 := n0_; have HB := n1_; have HO296 := n2_; clear n0_ n1_ n2_; clear ho hb hg hat))
              go_roundg k1
              case measure => have := HK1.out; omega
              case rel => exact ⟨(y294), (wrap64 (x8_1 + 1)), (by first | rfl | (simp; done) | (simp [*]; done)), H', ⟨by have := HK1.out; omega⟩, ⟨by (with_reducible repeat (first | apply Kd.R_alloc | apply Kd.R_drewN | apply Kd.R_drew)); exact HO296.out⟩, ⟨by repeat (first | (with_reducible first | exact HB.out | apply below_alloc | apply pw_below_drewN | apply below_drew1 | refine below_set ?_ GE293.out) | exact HB.out)⟩⟩
            · rw [if_neg c5] at H
              exact absurd H (by simp)
          · rw [if_neg c4] at H
            exact absurd H (by simp)
        · rw [if_neg c3] at H
          exact absurd H (by simp)
      · rw [if_neg c2] at H
        have c2b0 : decide (x8_1 < (l0.length : Int)) = false := decide_eq_false c2
        clear c2
        obtain rfl := Option.some.inj H
        go_wp2
        go_ret
        exact ⟨_, by first | rfl | (simp [errW_none, errW_some] <;> rfl) | (simp [*, errW_none, errW_some] <;> rfl), by (with_reducible repeat (first | apply Kd.R_alloc | apply Kd.R_drewN | apply Kd.R_drew)); exact HO_3.out, by repeat (first | (with_reducible first | exact HB.out | apply below_alloc | apply pw_below_drewN | apply below_drew1) | exact HB.out)⟩

end Go.Proofs.YtfkemfkleceeiaaDoor.P
