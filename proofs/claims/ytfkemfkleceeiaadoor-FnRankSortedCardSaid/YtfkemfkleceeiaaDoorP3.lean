-- written by a program of this session (wip/tools), out of the translation
import Derived.Test.YtfkemfkleceeiaaDoorP0
import Derived.Test.YtfkemfkleceeiaaDoorP2
namespace Go.Proofs.YtfkemfkleceeiaaDoor.P
open Go.RowKit Go.Proofs.YtfkemfkleceeiaaDoorW.PrintWords Go.Proofs.YtfkemfkleceeiaaDoorW.PrintLast Go.Proofs.YtfkemfkleceeiaaDoorW.PrintMore
attribute [local go_sem] max2_int min2_int max_two min_two max_three min_three max_four min_four   -- for this text's walks alone
set_option linter.unusedVariables false
set_option linter.unusedSimpArgs false

/-! ### fuzzysearch_LevenshteinDistance: function 28 -/
mutual
def fuzzysearch_LevenshteinDistance.l0 : Nat → List Int → List Int → List Int → Int → Option (Int)
  | 0, _, _, _, _ => none
  | k + 1, x5, x6, x7, x8 => if x8 ≤ (x5.length : Int) then (if x7.length < 17592186044416 then (fuzzysearch_LevenshteinDistance.l0 k x5 x6 (x7 ++ [x8]) (wrap64 (x8 + 1))) else (none)) else (fuzzysearch_LevenshteinDistance.l1 k x5 x6 x7 1)
def fuzzysearch_LevenshteinDistance.l1 : Nat → List Int → List Int → List Int → Int → Option (Int)
  | 0, _, _, _, _ => none
  | k + 1, x5, x6, x7, x9 => if x9 ≤ (x6.length : Int) then (if 0 < (x7.length : Int) then (fuzzysearch_LevenshteinDistance.l2 k x5 x6 (x7.set (0 : Int).toNat x9) x9 1 (wrap64 (x9 - 1))) else (none)) else (if 0 ≤ (x5.length : Int) then (if (x5.length : Int) < (x7.length : Int) then (some (rd x7 (x5.length : Int))) else (none)) else (none))
def fuzzysearch_LevenshteinDistance.l2 : Nat → List Int → List Int → List Int → Int → Int → Int → Option (Int)
  | 0, _, _, _, _, _, _ => none
  | k + 1, x5, x6, x7, x9, x10, x11 => if x10 ≤ (x5.length : Int) then (if 0 ≤ x10 then (if x10 < (x7.length : Int) then (if 0 ≤ (wrap64 (x10 - 1)) then (if (wrap64 (x10 - 1)) < (x5.length : Int) then (if 0 ≤ (wrap64 (x9 - 1)) then (if (wrap64 (x9 - 1)) < (x6.length : Int) then (if (rd x5 (wrap64 (x10 - 1))) = (rd x6 (wrap64 (x9 - 1))) then (if (wrap64 (x10 - 1)) < (x7.length : Int) then ((fuzzysearch_min.f (wrap64 ((rd x7 x10) + 1)) (wrap64 ((rd x7 (wrap64 (x10 - 1))) + 1)) (wrap64 (x11))).bind fun t122 => (fuzzysearch_LevenshteinDistance.l2 k x5 x6 (x7.set (x10 : Int).toNat t122) x9 (wrap64 (x10 + 1)) (rd x7 x10))) else (none)) else (if (wrap64 (x10 - 1)) < (x7.length : Int) then ((fuzzysearch_min.f (wrap64 ((rd x7 x10) + 1)) (wrap64 ((rd x7 (wrap64 (x10 - 1))) + 1)) (wrap64 (x11 + 1))).bind fun t126 => (fuzzysearch_LevenshteinDistance.l2 k x5 x6 (x7.set (x10 : Int).toNat t126) x9 (wrap64 (x10 + 1)) (rd x7 x10))) else (none))) else (none)) else (none)) else (none)) else (none)) else (none)) else (none)) else (fuzzysearch_LevenshteinDistance.l1 k x5 x6 x7 (wrap64 (x9 + 1)))
end
def fuzzysearch_LevenshteinDistance.f (k : Nat) (a0 : ByteArray) (a1 : ByteArray) : Option (Int) := if a0.size ≤ 70368744177664 then (if a1.size ≤ 70368744177664 then (fuzzysearch_LevenshteinDistance.l0 k (strRunes a0) (strRunes a1) (List.replicate 1 0) 1) else (none)) else (none)
theorem fuzzysearch_LevenshteinDistance.mono_l : ∀ k, (∀ y0 y1 y2 y3, LeO (fuzzysearch_LevenshteinDistance.l0 k y0 y1 y2 y3) (fuzzysearch_LevenshteinDistance.l0 (k + 1) y0 y1 y2 y3)) ∧ (∀ y0 y1 y2 y3, LeO (fuzzysearch_LevenshteinDistance.l1 k y0 y1 y2 y3) (fuzzysearch_LevenshteinDistance.l1 (k + 1) y0 y1 y2 y3)) ∧ (∀ y0 y1 y2 y3 y4 y5, LeO (fuzzysearch_LevenshteinDistance.l2 k y0 y1 y2 y3 y4 y5) (fuzzysearch_LevenshteinDistance.l2 (k + 1) y0 y1 y2 y3 y4 y5))
  | 0 => ⟨fun _ _ _ _ r h => by simp [fuzzysearch_LevenshteinDistance.l0] at h, fun _ _ _ _ r h => by simp [fuzzysearch_LevenshteinDistance.l1] at h, fun _ _ _ _ _ _ r h => by simp [fuzzysearch_LevenshteinDistance.l2] at h⟩
  | k + 1 => by
    obtain ⟨ih0, ih1, ih2⟩ := fuzzysearch_LevenshteinDistance.mono_l k
    refine ⟨?_, ?_, ?_⟩
    · intro y0 y1 y2 y3
      unfold fuzzysearch_LevenshteinDistance.l0
      repeat' first
      | (with_reducible exact ih0 _ _ _ _)
      | (with_reducible exact ih1 _ _ _ _)
      | (with_reducible exact ih2 _ _ _ _ _ _)
      | (with_reducible exact LeO.refl _)
      | (with_reducible exact LeO.none _)
      | (with_reducible refine LeO.ite ?_ ?_)
      | (with_reducible refine LeO.bind ?_ (fun _ => ?_))
      | exact ih0 _ _ _ _
      | exact ih1 _ _ _ _
      | exact ih2 _ _ _ _ _ _
      | exact LeO.none _
      | refine LeO.ite ?_ ?_
      | refine LeO.bind ?_ (fun _ => ?_)
    · intro y0 y1 y2 y3
      unfold fuzzysearch_LevenshteinDistance.l1
      repeat' first
      | (with_reducible exact ih0 _ _ _ _)
      | (with_reducible exact ih1 _ _ _ _)
      | (with_reducible exact ih2 _ _ _ _ _ _)
      | (with_reducible exact LeO.refl _)
      | (with_reducible exact LeO.none _)
      | (with_reducible refine LeO.ite ?_ ?_)
      | (with_reducible refine LeO.bind ?_ (fun _ => ?_))
      | exact ih0 _ _ _ _
      | exact ih1 _ _ _ _
      | exact ih2 _ _ _ _ _ _
      | exact LeO.none _
      | refine LeO.ite ?_ ?_
      | refine LeO.bind ?_ (fun _ => ?_)
    · intro y0 y1 y2 y3 y4 y5
      unfold fuzzysearch_LevenshteinDistance.l2
      repeat' first
      | (with_reducible exact ih0 _ _ _ _)
      | (with_reducible exact ih1 _ _ _ _)
      | (with_reducible exact ih2 _ _ _ _ _ _)
      | (with_reducible exact LeO.refl _)
      | (with_reducible exact LeO.none _)
      | (with_reducible refine LeO.ite ?_ ?_)
      | (with_reducible refine LeO.bind ?_ (fun _ => ?_))
      | exact ih0 _ _ _ _
      | exact ih1 _ _ _ _
      | exact ih2 _ _ _ _ _ _
      | exact LeO.none _
      | refine LeO.ite ?_ ?_
      | refine LeO.bind ?_ (fun _ => ?_)
theorem fuzzysearch_LevenshteinDistance.mono : ∀ a0 a1 k, LeO (fuzzysearch_LevenshteinDistance.f k a0 a1) (fuzzysearch_LevenshteinDistance.f (k + 1) a0 a1) := by
  intro a0 a1 k
  obtain ⟨ih0, ih1, ih2⟩ := fuzzysearch_LevenshteinDistance.mono_l k
  unfold fuzzysearch_LevenshteinDistance.f
  repeat' first
      | (with_reducible exact ih0 _ _ _ _)
      | (with_reducible exact ih1 _ _ _ _)
      | (with_reducible exact ih2 _ _ _ _ _ _)
      | (with_reducible exact LeO.refl _)
      | (with_reducible exact LeO.none _)
      | (with_reducible refine LeO.ite ?_ ?_)
      | (with_reducible refine LeO.bind ?_ (fun _ => ?_))
      | exact ih0 _ _ _ _
      | exact ih1 _ _ _ _
      | exact ih2 _ _ _ _ _ _
      | exact LeO.none _
      | refine LeO.ite ?_ ?_
      | refine LeO.bind ?_ (fun _ => ?_)
def fuzzysearch_LevenshteinDistance.T16 : Bool × List (List Nat × List Nat) := (true, [([], []), ([], []), ([1], [1]), ([0, 2], [0, 2]), ([3], [3]), ([], []), ([], []), ([6], [6]), ([5, 7], [5, 7]), ([8], [8]), ([4, 9], [4, 9])])
def fuzzysearch_LevenshteinDistance.B16 : List Nat := [0, 0, 2, 7, 15, 0, 0, 64, 224, 480, 1023]
theorem fuzzysearch_LevenshteinDistance.tab16 : rtab .any (opsOf Tryd.f28 16) = fuzzysearch_LevenshteinDistance.T16 := by kernel_rfl
theorem fuzzysearch_LevenshteinDistance.bits16 : waitsOk fuzzysearch_LevenshteinDistance.T16.2 fuzzysearch_LevenshteinDistance.B16 = true := by kernel_rfl
def fuzzysearch_LevenshteinDistance.T18 : Bool × List (List Nat × List Nat) := (true, [([], []), ([], []), ([], []), ([], []), ([2, 3], [2, 3]), ([4], [4]), ([5], [5]), ([], []), ([], []), ([8], [8]), ([7, 9], [7, 9]), ([10], [10]), ([11], [11]), ([], []), ([], []), ([13, 14], [13, 14]), ([6, 12, 15], [6, 12, 15]), ([0, 1, 0, 1, 2, 3, 4, 5, 6, 7, 8, 9, 10, 11, 12, 13, 14, 15, 16], [0, 1]), ([17, 16, 16, 0, 1, 2, 3, 4, 5, 6, 7, 8, 9, 10, 11, 12, 13, 14, 15, 16], [16, 17])])
def fuzzysearch_LevenshteinDistance.B18 : List Nat := [0, 0, 0, 0, 12, 28, 60, 0, 0, 256, 896, 1920, 3968, 0, 0, 24576, 65532, 131071, 262143]
theorem fuzzysearch_LevenshteinDistance.tab18 : rtab .any (opsOf Tryd.f28 18) = fuzzysearch_LevenshteinDistance.T18 := by kernel_rfl
theorem fuzzysearch_LevenshteinDistance.bits18 : waitsOk fuzzysearch_LevenshteinDistance.T18.2 fuzzysearch_LevenshteinDistance.B18 = true := by kernel_rfl
set_option maxHeartbeats 8000000 in
set_option maxRecDepth 100000 in
theorem fuzzysearch_LevenshteinDistance.calls (k : Nat) (a0 : ByteArray) (a1 : ByteArray) (r : Int) (w : World) (h : fuzzysearch_LevenshteinDistance.f k a0 a1 = some r) :
    Calls Tryd.prog 28 #[.string a0, .string a1] w fun e w' => e = .returned (.int .i64 r) ∧ Below w.heap.size w w' := by
  have HB := Aside0.mk (Below.refl w.heap.size w)
  have H : (if a0.size ≤ 70368744177664 then (if a1.size ≤ 70368744177664 then (fuzzysearch_LevenshteinDistance.l0 k (strRunes a0) (strRunes a1) (List.replicate 1 0) 1) else (none)) else (none)) = some r := h
  clear h
  by_cases c3 : a0.size ≤ 70368744177664
  · rw [if_pos c3] at H
    have c3b0 := eq_true c3
    have c3b1 : decide (a0.size ≤ 70368744177664) = true := decide_eq_true c3
    clear c3
    obtain ⟨y103, hy103⟩ : ∃ y_ : List Int, y_ = (strRunes a0) := ⟨_, rfl⟩
    replace H : (if a1.size ≤ 70368744177664 then (fuzzysearch_LevenshteinDistance.l0 k y103 (strRunes a1) (List.replicate 1 0) 1) else (none)) = some r := by first | (rw [hy103]; with_reducible exact H) | (have H2_ := (Option.bind_some _ _).symm.trans H; rw [hy103]; with_reducible exact H2_) | (have H2_ := (Option.bind_some _ _).symm.trans H; with_reducible exact H2_) | with_reducible exact H | (rw [hy103]; exact H) | exact H
    have Ny103 := Aside0.mk hy103
    clear hy103
    by_cases c4 : a1.size ≤ 70368744177664
    · rw [if_pos c4] at H
      have c4b0 := eq_true c4
      have c4b1 : decide (a1.size ≤ 70368744177664) = true := decide_eq_true c4
      clear c4
      obtain ⟨y106, hy106⟩ : ∃ y_ : List Int, y_ = (strRunes a1) := ⟨_, rfl⟩
      replace H : (fuzzysearch_LevenshteinDistance.l0 k y103 y106 (List.replicate 1 0) 1) = some r := by first | (rw [hy106]; with_reducible exact H) | (have H2_ := (Option.bind_some _ _).symm.trans H; rw [hy106]; with_reducible exact H2_) | (have H2_ := (Option.bind_some _ _).symm.trans H; with_reducible exact H2_) | with_reducible exact H | (rw [hy106]; exact H) | exact H
      have Ny106 := Aside0.mk hy106
      clear hy106
      obtain ⟨y109, hy109⟩ : ∃ y_ : List Int, y_ = (List.replicate 1 0) := ⟨_, rfl⟩
      replace H : (fuzzysearch_LevenshteinDistance.l0 k y103 y106 y109 1) = some r := by first | (rw [hy109]; with_reducible exact H) | (have H2_ := (Option.bind_some _ _).symm.trans H; rw [hy109]; with_reducible exact H2_) | (have H2_ := (Option.bind_some _ _).symm.trans H; with_reducible exact H2_) | with_reducible exact H | (rw [hy109]; exact H) | exact H
      have Ny109 := Aside0.mk hy109
      clear hy109
      have H' := Aside0.mk H
      clear H
      go_enter Tryd.func28, Tryd.ntmps28
      go_wp2_with (first | ((with_reducible refine gate_dst (N := 15) rfl ?_); refine Kd.R_runes _ 21 rfl (N := 15) rfl 9 42 rfl rfl Tryd.underlying9 Tryd.underlying42 Tryd.underlying21 (ok := fun _ => True) (of_decide_eq_true (by first | (with_reducible assumption) | assumption)) trivial (Below.refl _ _) (Nat.le_refl _) ?_; intro v104 w5 ho6 hb hg_ hnew_; clear hg_ hnew_; (first | rw [← Ny103.out] at ho6 | (simp only [Int.reduceToNat] at ho6; rw [← Ny103.out] at ho6)); have n0_ := Aside0.mk (Kd.R_lower ho6 (below_size (by repeat (first | (with_reducible first | exact HB.out | apply below_alloc | apply pw_below_drewN | apply below_drew1) | exact HB.out)))); have n1_ := Aside0.mk (below_step (by repeat (first | (with_reducible first | exact HB.out | apply below_alloc | apply pw_below_drewN | apply below_drew1) | exact HB.out)) hb); clear HB; have HO105 := n0_; have HB := n1_; clear n0_ n1_; clear hb ho6) | ((with_reducible refine gate_dst (N := 17) rfl ?_); refine Kd.R_runes _ 21 rfl (N := 17) rfl 9 42 rfl rfl Tryd.underlying9 Tryd.underlying42 Tryd.underlying21 (ok := fun _ => True) (of_decide_eq_true (by first | (with_reducible assumption) | assumption)) trivial (Below.refl _ _) (Nat.le_refl _) ?_; intro v107 w7 ho8 hb hg_ hnew_; clear hg_ hnew_; (first | rw [← Ny106.out] at ho8 | (simp only [Int.reduceToNat] at ho8; rw [← Ny106.out] at ho8)); have n0_ := Aside0.mk (Kd.R_elder' (by (with_reducible repeat (first | apply Kd.R_alloc | apply Kd.R_drewN | apply Kd.R_drew)); exact HO105.out) (Kd.R_base ho8) hb); have n1_ := Aside0.mk (Kd.R_lower (Kd.R_new' ho8 (Kd.R_lt (by (with_reducible repeat (first | apply Kd.R_alloc | apply Kd.R_drewN | apply Kd.R_drew)); exact HO105.out))) (below_size (by repeat (first | (with_reducible first | exact HB.out | apply below_alloc | apply pw_below_drewN | apply below_drew1) | exact HB.out)))); have n2_ := Aside0.mk (below_step (by repeat (first | (with_reducible first | exact HB.out | apply below_alloc | apply pw_below_drewN | apply below_drew1) | exact HB.out)) hb); clear HO105; clear HB; have HO105 := n0_; have HO108 := n1_; have HB := n2_; clear n0_ n1_ n2_; clear hb ho8) | ((with_reducible refine gate_dst (N := 18) rfl ?_); refine Kd.R_makecap (k := .i64) _ 3 rfl (N := 18) rfl 45 _ _ rfl 1 64 rfl rfl Tryd.underlying45 8 info3 (by omega) (ok := fun _ => True) (by decide) (by decide) trivial (Below.refl _ _) (Nat.le_refl _) ?_; intro v110 w9 ho10 hb hg_ hnew_; clear hg_ hnew_; (first | rw [← Ny109.out] at ho10 | (simp only [Int.reduceToNat] at ho10; rw [← Ny109.out] at ho10)); have n0_ := Aside0.mk (Kd.R_below (by (with_reducible repeat (first | apply Kd.R_alloc | apply Kd.R_drewN | apply Kd.R_drew)); exact HO105.out) hb); have n1_ := Aside0.mk (Kd.R_below (by (with_reducible repeat (first | apply Kd.R_alloc | apply Kd.R_drewN | apply Kd.R_drew)); exact HO108.out) hb); have n2_ := Aside0.mk (Kd.R_lower ho10 (below_size (by repeat (first | (with_reducible first | exact HB.out | apply below_alloc | apply pw_below_drewN | apply below_drew1) | exact HB.out)))); have n3_ := Aside0.mk (below_step (by repeat (first | (with_reducible first | exact HB.out | apply below_alloc | apply pw_below_drewN | apply below_drew1) | exact HB.out)) hb); clear HO105; clear HO108; clear HB; have HO105 := n0_; have HO108 := n1_; have HO111 := n2_; have HB := n3_; clear n0_ n1_ n2_ n3_; clear hb ho10))
      go_loopg [7, 8] k (fun kq v7 v8 w' => ∃ (x7_1 : List Int) (x8_1 : Int), v8 = .int .i64 x8_1 ∧ Aside0 (fuzzysearch_LevenshteinDistance.l0 kq y103 y106 x7_1 x8_1 = some r) ∧ Aside0 (kq ≤ k) ∧ Aside0 (Kd.R (Kd.int .i32) 21 w' w.heap.size (fun k_ => some k_ ≠ (v107 : Value).ownBlock) v104 y103) ∧ Aside0 (Kd.R (Kd.int .i32) 21 w' w.heap.size (fun k_ => some k_ ≠ (v104 : Value).ownBlock) v107 y106) ∧ Aside0 (Kd.R (Kd.int .i64) 3 w' w.heap.size (fun _ => True) v7 x7_1) ∧ Aside0 (Below w.heap.size w w'))
      case atStart => exact ⟨(y109), (1), (by first | rfl | (simp; done) | (simp [*]; done)), H', ⟨Nat.le_refl _⟩, ⟨by (with_reducible repeat (first | apply Kd.R_alloc | apply Kd.R_drewN | apply Kd.R_drew)); exact Kd.R_mono HO105.out (fun _ hk => hk.2)⟩, ⟨by (with_reducible repeat (first | apply Kd.R_alloc | apply Kd.R_drewN | apply Kd.R_drew)); exact Kd.R_mono HO108.out (fun _ hk => hk.2)⟩, ⟨by (with_reducible repeat (first | apply Kd.R_alloc | apply Kd.R_drewN | apply Kd.R_drew)); exact HO111.out⟩, ⟨by repeat (first | (with_reducible first | exact HB.out | apply below_alloc | apply pw_below_drewN | apply below_drew1) | exact HB.out)⟩⟩
      case round =>
        clear H'
        try clear c2
        try clear p2
        try clear c3
        try clear c3b0
        try clear c3b1
        try clear c4
        try clear c4b0
        try clear c4b1
        obtain ⟨x7_1, x8_1, rfl, HA, HK1, HO_5, HO_6, HO_7, HB⟩ := hrel
        cases gk with
        | zero => exact absurd HA.out (by simp [fuzzysearch_LevenshteinDistance.l0])
        | succ k1 =>
          have H := HA.out
          clear HA
          simp only [fuzzysearch_LevenshteinDistance.l0] at H
          by_cases c11 : x8_1 ≤ (y103.length : Int)
          · rw [if_pos c11] at H
            have c11b0 : decide (x8_1 ≤ (y103.length : Int)) = true := decide_eq_true c11
            clear c11
            by_cases c12 : x7_1.length < 17592186044416
            · rw [if_pos c12] at H
              have LMc12 := Aside0.mk c12
              clear c12
              obtain ⟨y112, hy112⟩ : ∃ y_ : List Int, y_ = (x7_1 ++ [x8_1]) := ⟨_, rfl⟩
              replace H : (fuzzysearch_LevenshteinDistance.l0 k1 y103 y106 y112 (wrap64 (x8_1 + 1))) = some r := by first | (rw [hy112]; with_reducible exact H) | (have H2_ := (Option.bind_some _ _).symm.trans H; rw [hy112]; with_reducible exact H2_) | (have H2_ := (Option.bind_some _ _).symm.trans H; with_reducible exact H2_) | with_reducible exact H | (rw [hy112]; exact H) | exact H
              have Ny112 := Aside0.mk hy112
              clear hy112
              have H' := Aside0.mk H
              clear H
              obtain ⟨Ao13, co13, eo13⟩ := Kd.R_slice HO_5.out
              subst eo13
              go_wp2_with (first | ((with_reducible refine gate_builtin (b := .append) (xs := #[.tmp 25, .tmp 27]) rfl ?_); at_builtin; refine Kd.R_append (Kd.int .i64) (w0 := w) w.heap.size rfl (.tmp 25) (.tmp 27) 45 3 (.int .i64 0) 8 rfl Tryd.underlying45 info3 rfl (by decide) (by omega) u7 x7_1 x8_1 [.int .i64 x8_1] (fun _ => True) (fun _ => False) rfl rfl ?aP (fun _ hk => hk.elim) ?aF ?aO ?aB ?aS ?aL ?_; (case aP => exact rfl); (case aB => exact (by repeat (first | (with_reducible first | exact HB.out | apply below_alloc | apply pw_below_drewN | apply below_drew1) | exact HB.out))); (case aF => exact (fun _ _ => trivial)); (case aO => exact (by (with_reducible repeat (first | apply Kd.R_alloc | apply Kd.R_drewN | apply Kd.R_drew)); exact HO_7.out)); (case aS => exact (below_size (by repeat (first | (with_reducible first | exact HB.out | apply below_alloc | apply pw_below_drewN | apply below_drew1) | exact HB.out)))); (case aL => have := LMc12.out; omega); intro v113 w14 ho hb hg hat; rw [← Ny112.out] at ho; have n0_ := Aside0.mk (Kd.R_over' (by (with_reducible repeat (first | apply Kd.R_alloc | apply Kd.R_drewN | apply Kd.R_drew)); exact HO_5.out) (Kd.R_typed (by (with_reducible repeat (first | apply Kd.R_alloc | apply Kd.R_drewN | apply Kd.R_drew)); exact HO_7.out)) (by decide) hg); have n1_ := Aside0.mk (Kd.R_over' (by (with_reducible repeat (first | apply Kd.R_alloc | apply Kd.R_drewN | apply Kd.R_drew)); exact HO_6.out) (Kd.R_typed (by (with_reducible repeat (first | apply Kd.R_alloc | apply Kd.R_drewN | apply Kd.R_drew)); exact HO_7.out)) (by decide) hg); have n2_ := Aside0.mk (hb); have n3_ := Aside0.mk (ho); clear HO_5; clear HO_6; clear HB; clear HO_7; have HO_5 := n0_; have HO_6 := n1_; have HB := n2_; have HO114 := n3_; clear n0_ n1_ n2_ n3_; clear ho hb hg hat))
              go_roundg k1
              case measure => have := HK1.out; omega
              case rel => exact ⟨(y112), (wrap64 (x8_1 + 1)), (by first | rfl | (simp; done) | (simp [*]; done)), H', ⟨by have := HK1.out; omega⟩, ⟨by (with_reducible repeat (first | apply Kd.R_alloc | apply Kd.R_drewN | apply Kd.R_drew)); exact HO_5.out⟩, ⟨by (with_reducible repeat (first | apply Kd.R_alloc | apply Kd.R_drewN | apply Kd.R_drew)); exact HO_6.out⟩, ⟨by (with_reducible repeat (first | apply Kd.R_alloc | apply Kd.R_drewN | apply Kd.R_drew)); exact HO114.out⟩, ⟨by repeat (first | (with_reducible first | exact HB.out | apply below_alloc | apply pw_below_drewN | apply below_drew1) | exact HB.out)⟩⟩
            · rw [if_neg c12] at H
              exact absurd H (by simp)
          · rw [if_neg c11] at H
            have c11b0 : decide (x8_1 ≤ (y103.length : Int)) = false := decide_eq_false c11
            clear c11
            have H' := Aside0.mk H
            clear H
            obtain ⟨Ao15, co15, eo15⟩ := Kd.R_slice HO_5.out
            subst eo15
            go_wp2
            go_loopg [9] k1 (fun kq v9 w' => ∃ (x7_2 : List Int) (x9_2 : Int), v9 = .int .i64 x9_2 ∧ Aside0 (fuzzysearch_LevenshteinDistance.l1 kq y103 y106 x7_2 x9_2 = some r) ∧ Aside0 (kq ≤ k1) ∧ Aside0 (Kd.R (Kd.int .i32) 21 w' w.heap.size (fun k_ => some k_ ≠ (v107 : Value).ownBlock) (.slice Ao15 y103.length co15) y103) ∧ Aside0 (Kd.R (Kd.int .i32) 21 w' w.heap.size (fun k_ => some k_ ≠ ((.slice Ao15 y103.length co15) : Value).ownBlock) v107 y106) ∧ Aside0 (Kd.R (Kd.int .i64) 3 w' w.heap.size (fun _ => True) u7 x7_2) ∧ Aside0 (Below w.heap.size w w'))
            case atStart => exact ⟨(x7_1), (1), (by first | rfl | (simp; done) | (simp [*]; done)), H', ⟨Nat.le_refl _⟩, ⟨by (with_reducible repeat (first | apply Kd.R_alloc | apply Kd.R_drewN | apply Kd.R_drew)); exact HO_5.out⟩, ⟨by (with_reducible repeat (first | apply Kd.R_alloc | apply Kd.R_drewN | apply Kd.R_drew)); exact HO_6.out⟩, ⟨by (with_reducible repeat (first | apply Kd.R_alloc | apply Kd.R_drewN | apply Kd.R_drew)); exact HO_7.out⟩, ⟨by repeat (first | (with_reducible first | exact HB.out | apply below_alloc | apply pw_below_drewN | apply below_drew1) | exact HB.out)⟩⟩
            case round =>
              clear H'
              try clear c1
              try clear c2
              try clear p2
              try clear c3
              try clear c3b0
              try clear c3b1
              try clear c4
              try clear c4b0
              try clear c4b1
              try clear p6
              try clear c11
              try clear c11b0
              try clear c12
              try clear p2
              obtain ⟨x7_2, x9_2, rfl, HA, HK2, HO_5, HO_6, HO_7, HB⟩ := hrel
              cases gk with
              | zero => exact absurd HA.out (by simp [fuzzysearch_LevenshteinDistance.l1])
              | succ k2 =>
                have H := HA.out
                clear HA
                simp only [fuzzysearch_LevenshteinDistance.l1] at H
                by_cases c16 : x9_2 ≤ (y106.length : Int)
                · rw [if_pos c16] at H
                  have c16b0 : decide (x9_2 ≤ (y106.length : Int)) = true := decide_eq_true c16
                  clear c16
                  by_cases c17 : 0 < (x7_2.length : Int)
                  · rw [if_pos c17] at H
                    have c17b0 : decide (0 < (x7_2.length : Int)) = true := decide_eq_true c17
                    have c17b1 : decide (0 < x7_2.length) = true := decide_eq_true (by omega)
                    clear c17
                    obtain ⟨y116, hy116⟩ : ∃ y_ : List Int, y_ = (x7_2.set (0 : Int).toNat x9_2) := ⟨_, rfl⟩
                    replace H : (fuzzysearch_LevenshteinDistance.l2 k2 y103 y106 y116 x9_2 1 (wrap64 (x9_2 - 1))) = some r := by first | (rw [hy116]; with_reducible exact H) | (have H2_ := (Option.bind_some _ _).symm.trans H; rw [hy116]; with_reducible exact H2_) | (have H2_ := (Option.bind_some _ _).symm.trans H; with_reducible exact H2_) | with_reducible exact H | (rw [hy116]; exact H) | exact H
                    have Ny116 := Aside0.mk hy116
                    clear hy116
                    have H' := Aside0.mk H
                    clear H
                    obtain ⟨Ao19, co19, eo19⟩ := Kd.R_slice HO_6.out
                    subst eo19
                    have p18 : 0 ≤ (0 : Int) := (by omega)
                    have q18 : (0 : Int) < ((x7_2.length : Int) : Int) := of_decide_eq_true (by first | (with_reducible assumption) | assumption)
                    have qi18 : (0 < x7_2.length) = True := eq_true (by omega)
                    obtain ⟨go18, co18, eo18, gb18, gl18, cl18, HG18⟩ := Kd.R_form HO_7.out (by omega)
                    (first | cases eo18 | (injection eo18 with ea_ en_ ec_; (first | subst ea_ | (injection ea_ with ea_; subst ea_)); subst ec_; clear en_))
                    have GB18 := Aside0.mk gb18
                    have GG18 := Aside0.mk HG18
                    clear gb18 gl18 HG18
                    obtain ⟨hx18_0, hf18_0⟩ := Kd.R_celln 0 HO_7.out (0 : Int) p18 q18
                    (try rw [show ((0 : Int)).toNat = 0 from rfl] at hx18_0)
                    (try simp only [Nat.reduceMul, Nat.zero_mul, Nat.zero_add, Nat.reduceAdd] at hx18_0)
                    (try rw [show ((0 : Int)).toNat = 0 from rfl] at hf18_0)
                    (try simp only [Nat.reduceMul, Nat.zero_mul, Nat.zero_add, Nat.reduceAdd] at hf18_0)
                    replace p18 := eq_true p18
                    replace q18 := eq_true q18
                    have HP20 := Kd.R_putg HO_7.out (0 : Int) x9_2
                    go_wp2_with (first | ((with_reducible refine gate_store (t := 3) (p := 37) rfl ?_); refine store_event (t := 3) (p := 37) (v := ?vo_w21) (w1 := (wr.setCell ⟨go18, (0 : Int).toNat, none⟩ (.int .i64 x9_2))) ?hg ?ho ?hn ?hr ?_; (case ho => rfl); (case hg => rfl); (case hn => rfl); (case hr => first | (go_simp; done) | (go_simp; rfl)); intro w21 hw; have hg : wr.grownBy w21 (some go18) := (by rw [hw]; exact HP20.2); have hp_ : Kd.R (Kd.int .i64) 3 w21 w.heap.size (fun _ => True) (.slice (some ⟨go18, 0, none⟩) x7_2.length co18) y116 := (by rw [hw, Ny116.out]; exact HP20.1); clear HP20; have n0_ := Aside0.mk (Kd.R_over' (v := (.slice (some ⟨go18, 0, none⟩) x7_2.length co18)) (by (with_reducible repeat (first | apply Kd.R_alloc | apply Kd.R_drewN | apply Kd.R_drew)); exact HO_5.out) (Kd.R_typed HO_7.out) (by decide) hg); have n1_ := Aside0.mk (Kd.R_over' (v := (.slice (some ⟨go18, 0, none⟩) x7_2.length co18)) (by (with_reducible repeat (first | apply Kd.R_alloc | apply Kd.R_drewN | apply Kd.R_drew)); exact HO_6.out) (Kd.R_typed HO_7.out) (by decide) hg); have n2_ := Aside0.mk (hp_); have n3_ := Aside0.mk ((by rw [hw]; exact below_set (HB.out) GB18.out : Below w.heap.size w w21)); clear HO_5; clear HO_6; clear HO_7; clear HB; have HO_5 := n0_; have HO_6 := n1_; have HO_7 := n2_; have HB := n3_; clear n0_ n1_ n2_ n3_; clear hg hw hp_))
                    go_loopg [10, 11] k2 (fun kq v10 v11 w' => ∃ (x7_3 : List Int) (x10_3 : Int) (x11_3 : Int), v10 = .int .i64 x10_3 ∧ v11 = .int .i64 x11_3 ∧ Aside0 (fuzzysearch_LevenshteinDistance.l2 kq y103 y106 x7_3 x9_2 x10_3 x11_3 = some r) ∧ Aside0 (kq ≤ k2) ∧ Aside0 (Kd.R (Kd.int .i32) 21 w' w.heap.size (fun k_ => some k_ ≠ ((.slice Ao19 y106.length co19) : Value).ownBlock) (.slice Ao15 y103.length co15) y103) ∧ Aside0 (Kd.R (Kd.int .i32) 21 w' w.heap.size (fun k_ => some k_ ≠ ((.slice Ao15 y103.length co15) : Value).ownBlock) (.slice Ao19 y106.length co19) y106) ∧ Aside0 (Kd.R (Kd.int .i64) 3 w' w.heap.size (fun _ => True) (.slice (some ⟨go18, 0, none⟩) x7_2.length co18) x7_3) ∧ Aside0 (Below w.heap.size w w'))
                    case atStart => exact ⟨(y116), (1), (wrap64 (x9_2 - 1)), (by first | rfl | (simp; done) | (simp [*]; done)), (by first | rfl | (simp; done) | (simp [*]; done)), H', ⟨Nat.le_refl _⟩, ⟨by (with_reducible repeat (first | apply Kd.R_alloc | apply Kd.R_drewN | apply Kd.R_drew)); exact HO_5.out⟩, ⟨by (with_reducible repeat (first | apply Kd.R_alloc | apply Kd.R_drewN | apply Kd.R_drew)); exact HO_6.out⟩, ⟨by (with_reducible repeat (first | apply Kd.R_alloc | apply Kd.R_drewN | apply Kd.R_drew)); exact HO_7.out⟩, ⟨by repeat (first | (with_reducible first | exact HB.out | apply below_alloc | apply pw_below_drewN | apply below_drew1) | exact HB.out)⟩⟩
                    case round =>
                      clear H'
                      try clear c1
                      try clear p1
                      try clear q1
                      try clear hx1
                      try clear qi1
                      try clear c2
                      try clear p2
                      try clear c3
                      try clear c3b0
                      try clear c3b1
                      try clear c4
                      try clear c4b0
                      try clear c4b1
                      try clear p6
                      try clear c11
                      try clear c11b0
                      try clear c12
                      try clear c16
                      try clear c16b0
                      try clear c17
                      try clear c17b0
                      try clear c17b1
                      try clear p18
                      try clear q18
                      try clear hx18
                      try clear qi18
                      try clear hf18
                      try clear hx18_0
                      try clear p18
                      try clear p2
                      try clear p6
                      try clear q18
                      obtain ⟨x7_3, x10_3, x11_3, rfl, rfl, HA, HK3, HO_5, HO_6, HO_7, HB⟩ := hrel
                      have hl7_3 := (Kd.R_reads' HO_7.out).1
                      rw [hl7_3] at HO_7
                      (try simp only [hl7_3])
                      (try simp only [hl7_3] at HO_5)
                      (try simp only [hl7_3] at HO_6)
                      cases gk with
                      | zero => exact absurd HA.out (by simp [fuzzysearch_LevenshteinDistance.l2])
                      | succ k3 =>
                        have H := HA.out
                        clear HA
                        simp only [fuzzysearch_LevenshteinDistance.l2] at H
                        by_cases c22 : x10_3 ≤ (y103.length : Int)
                        · rw [if_pos c22] at H
                          have c22b0 : decide (x10_3 ≤ (y103.length : Int)) = true := decide_eq_true c22
                          clear c22
                          by_cases c23 : 0 ≤ x10_3
                          · rw [if_pos c23] at H
                            have c23b0 : decide (0 ≤ x10_3) = true := decide_eq_true c23
                            clear c23
                            by_cases c24 : x10_3 < (x7_3.length : Int)
                            · rw [if_pos c24] at H
                              have c24b0 : decide (x10_3 < (x7_3.length : Int)) = true := decide_eq_true c24
                              clear c24
                              obtain ⟨ji25, hji25⟩ : ∃ j_ : Int, (wrap64 (x10_3 - 1)) = j_ := ⟨_, rfl⟩
                              replace H : (if 0 ≤ (ji25) then (if (ji25) < (y103.length : Int) then (if 0 ≤ (wrap64 (x9_2 - 1)) then (if (wrap64 (x9_2 - 1)) < (y106.length : Int) then (if (rd y103 (ji25)) = (rd y106 (wrap64 (x9_2 - 1))) then (if (ji25) < (x7_3.length : Int) then ((fuzzysearch_min.f (wrap64 ((rd x7_3 x10_3) + 1)) (wrap64 ((rd x7_3 (ji25)) + 1)) (wrap64 (x11_3))).bind fun t122 => (fuzzysearch_LevenshteinDistance.l2 k3 y103 y106 (x7_3.set (x10_3 : Int).toNat t122) x9_2 (wrap64 (x10_3 + 1)) (rd x7_3 x10_3))) else (none)) else (if (ji25) < (x7_3.length : Int) then ((fuzzysearch_min.f (wrap64 ((rd x7_3 x10_3) + 1)) (wrap64 ((rd x7_3 (ji25)) + 1)) (wrap64 (x11_3 + 1))).bind fun t126 => (fuzzysearch_LevenshteinDistance.l2 k3 y103 y106 (x7_3.set (x10_3 : Int).toNat t126) x9_2 (wrap64 (x10_3 + 1)) (rd x7_3 x10_3))) else (none))) else (none)) else (none)) else (none)) else (none)) = some r := by first | (rw [hji25] at H; exact H) | (simp only [hji25] at H ⊢; exact H)
                              have hji25w : (IntKind.i64.wrap (x10_3 - 1)) = ji25 := (i64_w _).trans hji25
                              by_cases c26 : 0 ≤ (ji25)
                              · rw [if_pos c26] at H
                                have c26b0 : decide (0 ≤ (ji25)) = true := decide_eq_true c26
                                clear c26
                                by_cases c27 : (ji25) < (y103.length : Int)
                                · rw [if_pos c27] at H
                                  have c27b0 : decide ((ji25) < (y103.length : Int)) = true := decide_eq_true c27
                                  clear c27
                                  obtain ⟨ji28, hji28⟩ : ∃ j_ : Int, (wrap64 (x9_2 - 1)) = j_ := ⟨_, rfl⟩
                                  replace H : (if 0 ≤ (ji28) then (if (ji28) < (y106.length : Int) then (if (rd y103 (ji25)) = (rd y106 (ji28)) then (if (ji25) < (x7_3.length : Int) then ((fuzzysearch_min.f (wrap64 ((rd x7_3 x10_3) + 1)) (wrap64 ((rd x7_3 (ji25)) + 1)) (wrap64 (x11_3))).bind fun t122 => (fuzzysearch_LevenshteinDistance.l2 k3 y103 y106 (x7_3.set (x10_3 : Int).toNat t122) x9_2 (wrap64 (x10_3 + 1)) (rd x7_3 x10_3))) else (none)) else (if (ji25) < (x7_3.length : Int) then ((fuzzysearch_min.f (wrap64 ((rd x7_3 x10_3) + 1)) (wrap64 ((rd x7_3 (ji25)) + 1)) (wrap64 (x11_3 + 1))).bind fun t126 => (fuzzysearch_LevenshteinDistance.l2 k3 y103 y106 (x7_3.set (x10_3 : Int).toNat t126) x9_2 (wrap64 (x10_3 + 1)) (rd x7_3 x10_3))) else (none))) else (none)) else (none)) = some r := by first | (rw [hji28] at H; exact H) | (simp only [hji28] at H ⊢; exact H)
                                  have hji28w : (IntKind.i64.wrap (x9_2 - 1)) = ji28 := (i64_w _).trans hji28
                                  by_cases c29 : 0 ≤ (ji28)
                                  · rw [if_pos c29] at H
                                    have c29b0 : decide (0 ≤ (ji28)) = true := decide_eq_true c29
                                    clear c29
                                    by_cases c30 : (ji28) < (y106.length : Int)
                                    · rw [if_pos c30] at H
                                      have c30b0 : decide ((ji28) < (y106.length : Int)) = true := decide_eq_true c30
                                      clear c30
                                      by_cases c31 : (rd y103 (ji25)) = (rd y106 (ji28))
                                      · rw [if_pos c31] at H
                                        have c31b0 : ((rd y103 (ji25)) == (rd y106 (ji28))) = true := beq_iff_eq.mpr c31
                                        have c31b1 : ((rd y103 (ji25)) != (rd y106 (ji28))) = false := bne_eq_false_iff_eq.mpr c31
                                        clear c31
                                        by_cases c32 : (ji25) < (x7_3.length : Int)
                                        · rw [if_pos c32] at H
                                          have c32b0 : decide ((ji25) < (x7_3.length : Int)) = true := decide_eq_true c32
                                          clear c32
                                          replace H := Option.bind_eq_some_iff.mp H
                                          obtain ⟨t122, A330, H⟩ := H
                                          replace H : (fuzzysearch_LevenshteinDistance.l2 k3 y103 y106 (x7_3.set (x10_3 : Int).toNat t122) x9_2 (wrap64 (x10_3 + 1)) (rd x7_3 x10_3)) = some r := H
                                          have A33 := Aside0.mk A330
                                          clear A330
                                          obtain ⟨y123, hy123⟩ : ∃ y_ : List Int, y_ = (x7_3.set (x10_3 : Int).toNat t122) := ⟨_, rfl⟩
                                          replace H : (fuzzysearch_LevenshteinDistance.l2 k3 y103 y106 y123 x9_2 (wrap64 (x10_3 + 1)) (rd x7_3 x10_3)) = some r := by first | (rw [hy123]; with_reducible exact H) | (have H2_ := (Option.bind_some _ _).symm.trans H; rw [hy123]; with_reducible exact H2_) | (have H2_ := (Option.bind_some _ _).symm.trans H; with_reducible exact H2_) | with_reducible exact H | (rw [hy123]; exact H) | exact H
                                          have Ny123 := Aside0.mk hy123
                                          clear hy123
                                          have H' := Aside0.mk H
                                          clear H
                                          have p117 : 0 ≤ (x10_3 : Int) := of_decide_eq_true (by first | (with_reducible assumption) | assumption)
                                          have q117 : x10_3 < (x7_3.length : Int) := of_decide_eq_true (by first | (with_reducible assumption) | assumption)
                                          obtain ⟨ad117, e117, hx117_0⟩ := Kd.at_int (Kd.R_reads' HO_7.out).2.2 x10_3 p117 q117
                                          obtain rfl : (⟨go18, 0, none⟩ : Addr) = ad117 := (by injection e117)
                                          (first | simp only [add_plain] at hx117_0 | simp only [add_at] at hx117_0 | simp only [Addr.add, Nat.zero_add] at hx117_0 | skip)
                                          replace p117 := eq_true p117
                                          replace q117 := eq_true q117
                                          try go_wp2
                                          have n0_ := Aside0.mk (Kd.R_drew HO_5.out)
                                          have n1_ := Aside0.mk (Kd.R_drew HO_6.out)
                                          have n2_ := Aside0.mk (Kd.R_drew HO_7.out)
                                          have n3_ := Aside0.mk (below_drew1 HB.out)
                                          clear HO_5
                                          clear HO_6
                                          clear HO_7
                                          clear HB
                                          have HO_5 := n0_
                                          have HO_6 := n1_
                                          have HO_7 := n2_
                                          have HB := n3_
                                          clear n0_ n1_ n2_ n3_
                                          have p118 : 0 ≤ ((ji25) : Int) := of_decide_eq_true (by first | (with_reducible assumption) | assumption)
                                          have q118 : (ji25) < (y103.length : Int) := of_decide_eq_true (by first | (with_reducible assumption) | assumption)
                                          obtain ⟨ad118, e118, hx118_0⟩ := Kd.at_int (Kd.R_reads' HO_5.out).2.2 (ji25) p118 q118
                                          cases e118
                                          replace p118 := eq_true p118
                                          replace q118 := eq_true q118
                                          have p119 : 0 ≤ ((ji28) : Int) := of_decide_eq_true (by first | (with_reducible assumption) | assumption)
                                          have q119 : (ji28) < (y106.length : Int) := of_decide_eq_true (by first | (with_reducible assumption) | assumption)
                                          obtain ⟨ad119, e119, hx119_0⟩ := Kd.at_int (Kd.R_reads' HO_6.out).2.2 (ji28) p119 q119
                                          cases e119
                                          replace p119 := eq_true p119
                                          replace q119 := eq_true q119
                                          refine start_ (n := 11) (S := fun w' => w'.cell? (ad118.add ((ji25)).toNat) = some (.int .i32 (rd y103 (ji25))) ∧ w'.cell? (ad119.add ((ji28)).toNat) = some (.int .i32 (rd y106 (ji28)))) (ds := []) #[false, false, false, false, false, false, false, false, false, false, false] (by kernel_rfl) rfl rfl ⟨hx118_0, hx119_0⟩ (fun hHeld => ?_); refine with_tabW fuzzysearch_LevenshteinDistance.tab16 fuzzysearch_LevenshteinDistance.bits16 (fun HT_ HW_ => ?_)
                                          generalize wr.drew = w35 at HO_5 HO_6 HO_7 HB hx118_0 hx119_0 hHeld ⊢
                                          refine pure_ (i := 0) (N := some 50) (v := ?_) (a' := ?_) #[true, false, false, false, false, false, false, false, false, false, false] rfl rfl (any_of HT_.out (by kernel_rfl)) (fun _ _ _ h => h) (Or.inl ⟨by rfl, ?_⟩) ?_ ?_
                                          rotate_left
                                          · intro w'
                                            go_simp
                                            with_reducible rfl
                                          rotate_left
                                          · simp only [Act.put, List.setIfInBounds_toArray, List.set_cons_zero, List.set_cons_succ, i64_w, i32_w]
                                            rfl
                                          refine pure_ (i := 1) (N := some 51) (v := ?_) (a' := ?_) #[true, true, false, false, false, false, false, false, false, false, false] rfl rfl (any_of HT_.out (by kernel_rfl)) (fun _ _ _ h => h) (Or.inl ⟨by rfl, ?_⟩) ?_ ?_
                                          rotate_left
                                          · intro w'
                                            go_simp
                                            with_reducible rfl
                                          rotate_left
                                          · simp only [Act.put, List.setIfInBounds_toArray, List.set_cons_zero, List.set_cons_succ, i64_w, i32_w]
                                            rfl
                                          refine pure_ (i := 2) (N := some 52) (v := ?_) (a' := ?_) #[true, true, true, false, false, false, false, false, false, false, false] rfl rfl (any_of HT_.out (by kernel_rfl)) (fun _ _ _ h => h) (Or.inl ⟨by rfl, ?_⟩) ?_ ?_
                                          rotate_left
                                          · intro w'
                                            go_simp
                                            with_reducible rfl
                                          rotate_left
                                          · simp only [Act.put, List.setIfInBounds_toArray, List.set_cons_zero, List.set_cons_succ, i64_w, i32_w]
                                            rfl
                                          refine pure_ (i := 3) (N := some 53) (v := ?_) (a' := ?_) #[true, true, true, true, false, false, false, false, false, false, false] rfl rfl (any_of HT_.out (by kernel_rfl)) (fun _ _ _ h => h) (Or.inl ⟨by rfl, ?_⟩) ?_ ?_
                                          rotate_left
                                          · intro w'
                                            go_simp
                                            with_reducible rfl
                                          rotate_left
                                          · simp only [Act.put, List.setIfInBounds_toArray, List.set_cons_zero, List.set_cons_succ, i64_w, i32_w]
                                            rfl
                                          refine pure_ (i := 5) (N := some 55) (v := ?_) (a' := ?_) #[true, true, true, true, false, true, false, false, false, false, false] rfl rfl (any_of HT_.out (by kernel_rfl)) (fun _ _ _ h => h) (Or.inl ⟨by rfl, ?_⟩) ?_ ?_
                                          rotate_left
                                          · intro w'
                                            go_simp
                                            with_reducible rfl
                                          rotate_left
                                          · simp only [Act.put, List.setIfInBounds_toArray, List.set_cons_zero, List.set_cons_succ, i64_w, i32_w]
                                            rfl
                                          refine pure_ (i := 6) (N := some 56) (v := ?_) (a' := ?_) #[true, true, true, true, false, true, true, false, false, false, false] rfl rfl (any_of HT_.out (by kernel_rfl)) (fun _ _ _ h => h) (Or.inl ⟨by rfl, ?_⟩) ?_ ?_
                                          rotate_left
                                          · intro w'
                                            go_simp
                                            with_reducible rfl
                                          rotate_left
                                          · simp only [Act.put, List.setIfInBounds_toArray, List.set_cons_zero, List.set_cons_succ, i64_w, i32_w]
                                            rfl
                                          refine pure_ (i := 7) (N := some 57) (v := ?_) (a' := ?_) #[true, true, true, true, false, true, true, true, false, false, false] rfl rfl (any_of HT_.out (by kernel_rfl)) (fun _ _ _ h => h) (Or.inl ⟨by rfl, ?_⟩) ?_ ?_
                                          rotate_left
                                          · intro w'
                                            go_simp
                                            with_reducible rfl
                                          rotate_left
                                          · simp only [Act.put, List.setIfInBounds_toArray, List.set_cons_zero, List.set_cons_succ, i64_w, i32_w]
                                            rfl
                                          refine pure_ (i := 8) (N := some 58) (v := ?_) (a' := ?_) #[true, true, true, true, false, true, true, true, true, false, false] rfl rfl (any_of HT_.out (by kernel_rfl)) (fun _ _ _ h => h) (Or.inl ⟨by rfl, ?_⟩) ?_ ?_
                                          rotate_left
                                          · intro w'
                                            go_simp
                                            with_reducible rfl
                                          rotate_left
                                          · simp only [Act.put, List.setIfInBounds_toArray, List.set_cons_zero, List.set_cons_succ, i64_w, i32_w]
                                            rfl
                                          refine take_ (i := 4) (N := some 54) (v := ?_) (a' := ?_) #[true, true, true, true, true, true, true, true, true, false, false] rfl rfl (take_ofW HT_.out HW_.out (by kernel_rfl)) (fun _ _ _ h => h) (Or.inl ⟨by rfl, ?_⟩) hHeld ?_ ?_
                                          rotate_left
                                          · rintro w' ⟨s0, s1⟩
                                            go_simp
                                            with_reducible rfl
                                          rotate_left
                                          · simp only [Act.put, List.setIfInBounds_toArray, List.set_cons_zero, List.set_cons_succ, i64_w, i32_w]
                                            rfl
                                          refine take_ (i := 9) (N := some 59) (v := ?_) (a' := ?_) #[true, true, true, true, true, true, true, true, true, true, false] rfl rfl (take_ofW HT_.out HW_.out (by kernel_rfl)) (fun _ _ _ h => h) (Or.inl ⟨by rfl, ?_⟩) hHeld ?_ ?_
                                          rotate_left
                                          · rintro w' ⟨s0, s1⟩
                                            go_simp
                                            with_reducible rfl
                                          rotate_left
                                          · simp only [Act.put, List.setIfInBounds_toArray, List.set_cons_zero, List.set_cons_succ, i64_w, i32_w]
                                            rfl
                                          refine pure_ (i := 10) (N := some 60) (v := ?_) (a' := ?_) #[true, true, true, true, true, true, true, true, true, true, true] rfl rfl (any_of HT_.out (by kernel_rfl)) (fun _ _ _ h => h) (Or.inl ⟨by rfl, ?_⟩) ?_ ?_
                                          rotate_left
                                          · intro w'
                                            go_simp
                                            with_reducible rfl
                                          rotate_left
                                          · simp only [Act.put, List.setIfInBounds_toArray, List.set_cons_zero, List.set_cons_succ, i64_w, i32_w]
                                            rfl
                                          refine done_ (done_of HT_.out (by kernel_rfl)) ?_
                                          try go_wp2
                                          have n0_ := Aside0.mk (Kd.R_drew HO_5.out)
                                          have n1_ := Aside0.mk (Kd.R_drew HO_6.out)
                                          have n2_ := Aside0.mk (Kd.R_drew HO_7.out)
                                          have n3_ := Aside0.mk (below_drew1 HB.out)
                                          clear HO_5
                                          clear HO_6
                                          clear HO_7
                                          clear HB
                                          have HO_5 := n0_
                                          have HO_6 := n1_
                                          have HO_7 := n2_
                                          have HB := n3_
                                          clear n0_ n1_ n2_ n3_
                                          have p120 : 0 ≤ (x10_3 : Int) := of_decide_eq_true (by first | (with_reducible assumption) | assumption)
                                          have q120 : x10_3 < (x7_3.length : Int) := of_decide_eq_true (by first | (with_reducible assumption) | assumption)
                                          obtain ⟨ad120, e120, hx120_0⟩ := Kd.at_int (Kd.R_reads' HO_7.out).2.2 x10_3 p120 q120
                                          obtain rfl : (⟨go18, 0, none⟩ : Addr) = ad120 := (by injection e120)
                                          (first | simp only [add_plain] at hx120_0 | simp only [add_at] at hx120_0 | simp only [Addr.add, Nat.zero_add] at hx120_0 | skip)
                                          replace p120 := eq_true p120
                                          replace q120 := eq_true q120
                                          have p121 : 0 ≤ ((ji25) : Int) := of_decide_eq_true (by first | (with_reducible assumption) | assumption)
                                          have q121 : (ji25) < (x7_3.length : Int) := of_decide_eq_true (by first | (with_reducible assumption) | assumption)
                                          obtain ⟨ad121, e121, hx121_0⟩ := Kd.at_int (Kd.R_reads' HO_7.out).2.2 (ji25) p121 q121
                                          obtain rfl : (⟨go18, 0, none⟩ : Addr) = ad121 := (by injection e121)
                                          (first | simp only [add_plain] at hx121_0 | simp only [add_at] at hx121_0 | simp only [Addr.add, Nat.zero_add] at hx121_0 | skip)
                                          replace p121 := eq_true p121
                                          replace q121 := eq_true q121
                                          refine start_ (n := 19) (S := fun w' => w'.cell? ⟨go18, (x10_3).toNat, none⟩ = some (.int .i64 (rd x7_3 x10_3)) ∧ w'.cell? ⟨go18, ((ji25)).toNat, none⟩ = some (.int .i64 (rd x7_3 (ji25)))) (ds := [18]) #[false, false, false, false, false, false, false, false, false, false, false, false, false, false, false, false, false, false, false] (by kernel_rfl) rfl rfl ⟨hx120_0, hx121_0⟩ (fun hHeld => ?_); refine with_tabW fuzzysearch_LevenshteinDistance.tab18 fuzzysearch_LevenshteinDistance.bits18 (fun HT_ HW_ => ?_)
                                          generalize w35.drew = w36 at HO_5 HO_6 HO_7 HB hx120_0 hx121_0 hHeld ⊢
                                          refine pure_ (i := 0) (N := some 61) (v := ?_) (a' := ?_) #[true, false, false, false, false, false, false, false, false, false, false, false, false, false, false, false, false, false, false] rfl rfl (any_of HT_.out (by kernel_rfl)) (fun _ _ _ h => h) (Or.inl ⟨by rfl, ?_⟩) ?_ ?_
                                          rotate_left
                                          · intro w'
                                            go_simp
                                            with_reducible rfl
                                          rotate_left
                                          · simp only [Act.put, List.setIfInBounds_toArray, List.set_cons_zero, List.set_cons_succ, i64_w, i32_w]
                                            rfl
                                          refine pure_ (i := 1) (N := some 62) (v := ?_) (a' := ?_) #[true, true, false, false, false, false, false, false, false, false, false, false, false, false, false, false, false, false, false] rfl rfl (any_of HT_.out (by kernel_rfl)) (fun _ _ _ h => h) (Or.inl ⟨by rfl, ?_⟩) ?_ ?_
                                          rotate_left
                                          · intro w'
                                            go_simp
                                            with_reducible rfl
                                          rotate_left
                                          · simp only [Act.put, List.setIfInBounds_toArray, List.set_cons_zero, List.set_cons_succ, i64_w, i32_w]
                                            rfl
                                          refine pure_ (i := 2) (N := some 63) (v := ?_) (a' := ?_) #[true, true, true, false, false, false, false, false, false, false, false, false, false, false, false, false, false, false, false] rfl rfl (any_of HT_.out (by kernel_rfl)) (fun _ _ _ h => h) (Or.inl ⟨by rfl, ?_⟩) ?_ ?_
                                          rotate_left
                                          · intro w'
                                            go_simp
                                            with_reducible rfl
                                          rotate_left
                                          · simp only [Act.put, List.setIfInBounds_toArray, List.set_cons_zero, List.set_cons_succ, i64_w, i32_w]
                                            rfl
                                          refine pure_ (i := 3) (N := some 64) (v := ?_) (a' := ?_) #[true, true, true, true, false, false, false, false, false, false, false, false, false, false, false, false, false, false, false] rfl rfl (any_of HT_.out (by kernel_rfl)) (fun _ _ _ h => h) (Or.inl ⟨by rfl, ?_⟩) ?_ ?_
                                          rotate_left
                                          · intro w'
                                            go_simp
                                            with_reducible rfl
                                          rotate_left
                                          · simp only [Act.put, List.setIfInBounds_toArray, List.set_cons_zero, List.set_cons_succ, i64_w, i32_w]
                                            rfl
                                          refine pure_ (i := 4) (N := some 65) (v := ?_) (a' := ?_) #[true, true, true, true, true, false, false, false, false, false, false, false, false, false, false, false, false, false, false] rfl rfl (any_of HT_.out (by kernel_rfl)) (fun _ _ _ h => h) (Or.inl ⟨by rfl, ?_⟩) ?_ ?_
                                          rotate_left
                                          · intro w'
                                            go_simp
                                            with_reducible rfl
                                          rotate_left
                                          · simp only [Act.put, List.setIfInBounds_toArray, List.set_cons_zero, List.set_cons_succ, i64_w, i32_w]
                                            rfl
                                          refine pure_ (i := 7) (N := some 68) (v := ?_) (a' := ?_) #[true, true, true, true, true, false, false, true, false, false, false, false, false, false, false, false, false, false, false] rfl rfl (any_of HT_.out (by kernel_rfl)) (fun _ _ _ h => h) (Or.inl ⟨by rfl, ?_⟩) ?_ ?_
                                          rotate_left
                                          · intro w'
                                            go_simp
                                            with_reducible rfl
                                          rotate_left
                                          · simp only [Act.put, List.setIfInBounds_toArray, List.set_cons_zero, List.set_cons_succ, i64_w, i32_w]
                                            rfl
                                          refine pure_ (i := 8) (N := some 69) (v := ?_) (a' := ?_) #[true, true, true, true, true, false, false, true, true, false, false, false, false, false, false, false, false, false, false] rfl rfl (any_of HT_.out (by kernel_rfl)) (fun _ _ _ h => h) (Or.inl ⟨by rfl, ?_⟩) ?_ ?_
                                          rotate_left
                                          · intro w'
                                            go_simp
                                            with_reducible rfl
                                          rotate_left
                                          · simp only [Act.put, List.setIfInBounds_toArray, List.set_cons_zero, List.set_cons_succ, i64_w, i32_w]
                                            rfl
                                          refine pure_ (i := 9) (N := some 70) (v := ?_) (a' := ?_) #[true, true, true, true, true, false, false, true, true, true, false, false, false, false, false, false, false, false, false] rfl rfl (any_of HT_.out (by kernel_rfl)) (fun _ _ _ h => h) (Or.inl ⟨by rfl, ?_⟩) ?_ ?_
                                          rotate_left
                                          · intro w'
                                            go_simp
                                            with_reducible rfl
                                          rotate_left
                                          · simp only [Act.put, List.setIfInBounds_toArray, List.set_cons_zero, List.set_cons_succ, i64_w, i32_w]
                                            rfl
                                          refine pure_ (i := 10) (N := some 71) (v := ?_) (a' := ?_) #[true, true, true, true, true, false, false, true, true, true, true, false, false, false, false, false, false, false, false] rfl rfl (any_of HT_.out (by kernel_rfl)) (fun _ _ _ h => h) (Or.inl ⟨by rfl, ?_⟩) ?_ ?_
                                          rotate_left
                                          · intro w'
                                            go_simp
                                            with_reducible rfl
                                          rotate_left
                                          · simp only [Act.put, List.setIfInBounds_toArray, List.set_cons_zero, List.set_cons_succ, i64_w, i32_w]
                                            rfl
                                          refine pure_ (i := 13) (N := some 74) (v := ?_) (a' := ?_) #[true, true, true, true, true, false, false, true, true, true, true, false, false, true, false, false, false, false, false] rfl rfl (any_of HT_.out (by kernel_rfl)) (fun _ _ _ h => h) (Or.inl ⟨by rfl, ?_⟩) ?_ ?_
                                          rotate_left
                                          · intro w'
                                            go_simp
                                            with_reducible rfl
                                          rotate_left
                                          · simp only [Act.put, List.setIfInBounds_toArray, List.set_cons_zero, List.set_cons_succ, i64_w, i32_w]
                                            rfl
                                          refine pure_ (i := 14) (N := some 75) (v := ?_) (a' := ?_) #[true, true, true, true, true, false, false, true, true, true, true, false, false, true, true, false, false, false, false] rfl rfl (any_of HT_.out (by kernel_rfl)) (fun _ _ _ h => h) (Or.inl ⟨by rfl, ?_⟩) ?_ ?_
                                          rotate_left
                                          · intro w'
                                            go_simp
                                            with_reducible rfl
                                          rotate_left
                                          · simp only [Act.put, List.setIfInBounds_toArray, List.set_cons_zero, List.set_cons_succ, i64_w, i32_w]
                                            rfl
                                          refine pure_ (i := 15) (N := some 76) (v := ?_) (a' := ?_) #[true, true, true, true, true, false, false, true, true, true, true, false, false, true, true, true, false, false, false] rfl rfl (any_of HT_.out (by kernel_rfl)) (fun _ _ _ h => h) (Or.inl ⟨by rfl, ?_⟩) ?_ ?_
                                          rotate_left
                                          · intro w'
                                            go_simp
                                            with_reducible rfl
                                          rotate_left
                                          · simp only [Act.put, List.setIfInBounds_toArray, List.set_cons_zero, List.set_cons_succ, i64_w, i32_w]
                                            rfl
                                          refine take_ (i := 5) (N := some 66) (v := ?_) (a' := ?_) #[true, true, true, true, true, true, false, true, true, true, true, false, false, true, true, true, false, false, false] rfl rfl (take_ofW HT_.out HW_.out (by kernel_rfl)) (fun _ _ _ h => h) (Or.inl ⟨by rfl, ?_⟩) hHeld ?_ ?_
                                          rotate_left
                                          · rintro w' ⟨s0, s1⟩
                                            go_simp
                                            with_reducible rfl
                                          rotate_left
                                          · simp only [Act.put, List.setIfInBounds_toArray, List.set_cons_zero, List.set_cons_succ, i64_w, i32_w]
                                            rfl
                                          refine pure_ (i := 6) (N := some 67) (v := ?_) (a' := ?_) #[true, true, true, true, true, true, true, true, true, true, true, false, false, true, true, true, false, false, false] rfl rfl (any_of HT_.out (by kernel_rfl)) (fun _ _ _ h => h) (Or.inl ⟨by rfl, ?_⟩) ?_ ?_
                                          rotate_left
                                          · intro w'
                                            go_simp
                                            with_reducible rfl
                                          rotate_left
                                          · simp only [Act.put, List.setIfInBounds_toArray, List.set_cons_zero, List.set_cons_succ, i64_w, i32_w]
                                            rfl
                                          refine take_ (i := 11) (N := some 72) (v := ?_) (a' := ?_) #[true, true, true, true, true, true, true, true, true, true, true, true, false, true, true, true, false, false, false] rfl rfl (take_ofW HT_.out HW_.out (by kernel_rfl)) (fun _ _ _ h => h) (Or.inl ⟨by rfl, ?_⟩) hHeld ?_ ?_
                                          rotate_left
                                          · rintro w' ⟨s0, s1⟩
                                            go_simp
                                            with_reducible rfl
                                          rotate_left
                                          · simp only [Act.put, List.setIfInBounds_toArray, List.set_cons_zero, List.set_cons_succ, i64_w, i32_w]
                                            rfl
                                          refine pure_ (i := 12) (N := some 73) (v := ?_) (a' := ?_) #[true, true, true, true, true, true, true, true, true, true, true, true, true, true, true, true, false, false, false] rfl rfl (any_of HT_.out (by kernel_rfl)) (fun _ _ _ h => h) (Or.inl ⟨by rfl, ?_⟩) ?_ ?_
                                          rotate_left
                                          · intro w'
                                            go_simp
                                            with_reducible rfl
                                          rotate_left
                                          · simp only [Act.put, List.setIfInBounds_toArray, List.set_cons_zero, List.set_cons_succ, i64_w, i32_w]
                                            rfl
                                          refine one_ (i := 16) (N := some 77) #[true, true, true, true, true, true, true, true, true, true, true, true, true, true, true, true, true, false, false] rfl rfl (one_of HT_.out (by kernel_rfl)) (by decide) (fun K hK => ?_)
                                          refine goes_ Tryd.func42 (by kernel_rfl) rfl #[.int .i64 (wrap64 ((rd x7_3 x10_3) + 1)), .int .i64 (wrap64 ((rd x7_3 (ji25)) + 1)), .int .i64 (wrap64 (x11_3))] (by rfl) rfl rfl (by (try simp only [List.map_toArray, List.map_cons, List.map_nil]); first | done | (simp only [hji25]; rfl) | rfl | (simp only [List.length_drop, List.length_take]; rfl)) ?_
                                          with_reducible refine (fuzzysearch_min.calls (wrap64 ((rd x7_3 x10_3) + 1)) (wrap64 ((rd x7_3 (ji25)) + 1)) (wrap64 (x11_3)) t122 _ A33.out).mono ?_
                                          rintro e w' ⟨rfl, ⟨nd, rfl⟩⟩
                                          refine ⟨_, rfl, ?_⟩
                                          have p34 : 0 ≤ (x10_3 : Int) := of_decide_eq_true (by first | (with_reducible assumption) | assumption)
                                          have q34 : (x10_3 : Int) < ((x7_3.length : Int) : Int) := of_decide_eq_true (by first | (with_reducible assumption) | assumption)
                                          obtain ⟨hx34_0, hf34_0⟩ := Kd.R_celln 0 HO_7.out (x10_3 : Int) p34 q34
                                          replace p34 := eq_true p34
                                          replace q34 := eq_true q34
                                          obtain ⟨_, hgz_⟩ := Kd.R_typed HO_7.out go18 rfl
                                          have GG18 := Aside0.mk hgz_
                                          clear hgz_
                                          have HP37 := Kd.R_putn HO_7.out (x10_3 : Int) t122
                                          rw [← Ny123.out] at HP37
                                          have HQ37 := Aside0.mk HP37
                                          clear HP37
                                          refine hK.out _ _ ⟨hHeld.1, hHeld.2⟩ (fun hHeld => ?_)
                                          clear hK K
                                          refine norm_ (a' := ?_) ?_ ?_
                                          rotate_left
                                          · show Act.put _ (some 77) _ = _
                                            simp only [Act.put, List.setIfInBounds_toArray, List.set_cons_zero, List.set_cons_succ, i64_w, i32_w]
                                            rfl
                                          refine pure_ (i := 17) (N := some 78) (v := ?_) (a' := ?_) #[true, true, true, true, true, true, true, true, true, true, true, true, true, true, true, true, true, true, false] rfl rfl (any_of HT_.out (by kernel_rfl)) (fun _ _ _ h => h) (Or.inl ⟨by rfl, ?_⟩) ?_ ?_
                                          rotate_left
                                          · intro w'
                                            go_simp
                                            with_reducible rfl
                                          rotate_left
                                          · simp only [Act.put, List.setIfInBounds_toArray, List.set_cons_zero, List.set_cons_succ, i64_w, i32_w]
                                            rfl
                                          refine last_ (i := 18) (N := none) #[true, true, true, true, true, true, true, true, true, true, true, true, true, true, true, true, true, true, true] rfl rfl (one_of HT_.out (by kernel_rfl)) (by decide) (fun K hK => ?_)
                                          refine skip_ (w1 := ?_) (by rfl) rfl ?_ ?_
                                          rotate_left
                                          · go_simp
                                            rfl
                                          refine hK.out _ _ ?_
                                          clear hK K
                                          refine done_ (done_of HT_.out (by kernel_rfl)) ?_
                                          try go_wp2
                                          (try simp only [← hl7_3])
                                          first | go_roundg k3 | (simp only [← hji28, ← hji25]; go_roundg k3)
                                          case measure => have := HK1.out; have := HK2.out; have := HK3.out; omega
                                          case rel => exact ⟨(y123), (wrap64 (x10_3 + 1)), (rd x7_3 x10_3), (by first | rfl | (simp; done) | (simp [*]; done)), (by first | rfl | (simp; done) | (simp [*]; done)), H', ⟨by have := HK1.out; have := HK2.out; have := HK3.out; omega⟩, ⟨by (try simp only [hl7_3]); (with_reducible repeat (first | apply Kd.R_alloc | apply Kd.R_drewN | apply Kd.R_drew)); exact Kd.R_mono (Kd.R_far (p := ⟨go18, (x10_3 : Int).toNat, none⟩) (Kd.R_types HO_5.out GG18.out (by decide)) (fun _ hk => hk.2) (.int .i64 t122)) (fun _ hk => hk.1)⟩, ⟨by (try simp only [hl7_3]); (with_reducible repeat (first | apply Kd.R_alloc | apply Kd.R_drewN | apply Kd.R_drew)); exact Kd.R_mono (Kd.R_far (p := ⟨go18, (x10_3 : Int).toNat, none⟩) (Kd.R_types HO_6.out GG18.out (by decide)) (fun _ hk => hk.2) (.int .i64 t122)) (fun _ hk => hk.1)⟩, ⟨by (try simp only [hl7_3]); (with_reducible repeat (first | apply Kd.R_alloc | apply Kd.R_drewN | apply Kd.R_drew)); exact HQ37.out⟩, ⟨by repeat (first | (with_reducible first | exact HB.out | apply below_alloc | apply pw_below_drewN | apply below_drew1 | refine below_set ?_ GB18.out) | exact HB.out)⟩⟩
                                        · rw [if_neg c32] at H
                                          exact absurd H (by simp)
                                      · rw [if_neg c31] at H
                                        have c31b0 : ((rd y103 (ji25)) == (rd y106 (ji28))) = false := beq_eq_false_iff_ne.mpr c31
                                        have c31b1 : ((rd y103 (ji25)) != (rd y106 (ji28))) = true := bne_iff_ne.mpr c31
                                        by_cases c38 : (ji25) < (x7_3.length : Int)
                                        · rw [if_pos c38] at H
                                          have c38b0 : decide ((ji25) < (x7_3.length : Int)) = true := decide_eq_true c38
                                          clear c38
                                          replace H := Option.bind_eq_some_iff.mp H
                                          obtain ⟨t126, A390, H⟩ := H
                                          replace H : (fuzzysearch_LevenshteinDistance.l2 k3 y103 y106 (x7_3.set (x10_3 : Int).toNat t126) x9_2 (wrap64 (x10_3 + 1)) (rd x7_3 x10_3)) = some r := H
                                          have A39 := Aside0.mk A390
                                          clear A390
                                          obtain ⟨y127, hy127⟩ : ∃ y_ : List Int, y_ = (x7_3.set (x10_3 : Int).toNat t126) := ⟨_, rfl⟩
                                          replace H : (fuzzysearch_LevenshteinDistance.l2 k3 y103 y106 y127 x9_2 (wrap64 (x10_3 + 1)) (rd x7_3 x10_3)) = some r := by first | (rw [hy127]; with_reducible exact H) | (have H2_ := (Option.bind_some _ _).symm.trans H; rw [hy127]; with_reducible exact H2_) | (have H2_ := (Option.bind_some _ _).symm.trans H; with_reducible exact H2_) | with_reducible exact H | (rw [hy127]; exact H) | exact H
                                          have Ny127 := Aside0.mk hy127
                                          clear hy127
                                          have H' := Aside0.mk H
                                          clear H
                                          have p117 : 0 ≤ (x10_3 : Int) := of_decide_eq_true (by first | (with_reducible assumption) | assumption)
                                          have q117 : x10_3 < (x7_3.length : Int) := of_decide_eq_true (by first | (with_reducible assumption) | assumption)
                                          obtain ⟨ad117, e117, hx117_0⟩ := Kd.at_int (Kd.R_reads' HO_7.out).2.2 x10_3 p117 q117
                                          obtain rfl : (⟨go18, 0, none⟩ : Addr) = ad117 := (by injection e117)
                                          (first | simp only [add_plain] at hx117_0 | simp only [add_at] at hx117_0 | simp only [Addr.add, Nat.zero_add] at hx117_0 | skip)
                                          replace p117 := eq_true p117
                                          replace q117 := eq_true q117
                                          try go_wp2
                                          have n0_ := Aside0.mk (Kd.R_drew HO_5.out)
                                          have n1_ := Aside0.mk (Kd.R_drew HO_6.out)
                                          have n2_ := Aside0.mk (Kd.R_drew HO_7.out)
                                          have n3_ := Aside0.mk (below_drew1 HB.out)
                                          clear HO_5
                                          clear HO_6
                                          clear HO_7
                                          clear HB
                                          have HO_5 := n0_
                                          have HO_6 := n1_
                                          have HO_7 := n2_
                                          have HB := n3_
                                          clear n0_ n1_ n2_ n3_
                                          have p118 : 0 ≤ ((ji25) : Int) := of_decide_eq_true (by first | (with_reducible assumption) | assumption)
                                          have q118 : (ji25) < (y103.length : Int) := of_decide_eq_true (by first | (with_reducible assumption) | assumption)
                                          obtain ⟨ad118, e118, hx118_0⟩ := Kd.at_int (Kd.R_reads' HO_5.out).2.2 (ji25) p118 q118
                                          cases e118
                                          replace p118 := eq_true p118
                                          replace q118 := eq_true q118
                                          have p119 : 0 ≤ ((ji28) : Int) := of_decide_eq_true (by first | (with_reducible assumption) | assumption)
                                          have q119 : (ji28) < (y106.length : Int) := of_decide_eq_true (by first | (with_reducible assumption) | assumption)
                                          obtain ⟨ad119, e119, hx119_0⟩ := Kd.at_int (Kd.R_reads' HO_6.out).2.2 (ji28) p119 q119
                                          cases e119
                                          replace p119 := eq_true p119
                                          replace q119 := eq_true q119
                                          refine start_ (n := 11) (S := fun w' => w'.cell? (ad118.add ((ji25)).toNat) = some (.int .i32 (rd y103 (ji25))) ∧ w'.cell? (ad119.add ((ji28)).toNat) = some (.int .i32 (rd y106 (ji28)))) (ds := []) #[false, false, false, false, false, false, false, false, false, false, false] (by kernel_rfl) rfl rfl ⟨hx118_0, hx119_0⟩ (fun hHeld => ?_); refine with_tabW fuzzysearch_LevenshteinDistance.tab16 fuzzysearch_LevenshteinDistance.bits16 (fun HT_ HW_ => ?_)
                                          generalize wr.drew = w41 at HO_5 HO_6 HO_7 HB hx118_0 hx119_0 hHeld ⊢
                                          refine pure_ (i := 0) (N := some 50) (v := ?_) (a' := ?_) #[true, false, false, false, false, false, false, false, false, false, false] rfl rfl (any_of HT_.out (by kernel_rfl)) (fun _ _ _ h => h) (Or.inl ⟨by rfl, ?_⟩) ?_ ?_
                                          rotate_left
                                          · intro w'
                                            go_simp
                                            with_reducible rfl
                                          rotate_left
                                          · simp only [Act.put, List.setIfInBounds_toArray, List.set_cons_zero, List.set_cons_succ, i64_w, i32_w]
                                            rfl
                                          refine pure_ (i := 1) (N := some 51) (v := ?_) (a' := ?_) #[true, true, false, false, false, false, false, false, false, false, false] rfl rfl (any_of HT_.out (by kernel_rfl)) (fun _ _ _ h => h) (Or.inl ⟨by rfl, ?_⟩) ?_ ?_
                                          rotate_left
                                          · intro w'
                                            go_simp
                                            with_reducible rfl
                                          rotate_left
                                          · simp only [Act.put, List.setIfInBounds_toArray, List.set_cons_zero, List.set_cons_succ, i64_w, i32_w]
                                            rfl
                                          refine pure_ (i := 2) (N := some 52) (v := ?_) (a' := ?_) #[true, true, true, false, false, false, false, false, false, false, false] rfl rfl (any_of HT_.out (by kernel_rfl)) (fun _ _ _ h => h) (Or.inl ⟨by rfl, ?_⟩) ?_ ?_
                                          rotate_left
                                          · intro w'
                                            go_simp
                                            with_reducible rfl
                                          rotate_left
                                          · simp only [Act.put, List.setIfInBounds_toArray, List.set_cons_zero, List.set_cons_succ, i64_w, i32_w]
                                            rfl
                                          refine pure_ (i := 3) (N := some 53) (v := ?_) (a' := ?_) #[true, true, true, true, false, false, false, false, false, false, false] rfl rfl (any_of HT_.out (by kernel_rfl)) (fun _ _ _ h => h) (Or.inl ⟨by rfl, ?_⟩) ?_ ?_
                                          rotate_left
                                          · intro w'
                                            go_simp
                                            with_reducible rfl
                                          rotate_left
                                          · simp only [Act.put, List.setIfInBounds_toArray, List.set_cons_zero, List.set_cons_succ, i64_w, i32_w]
                                            rfl
                                          refine pure_ (i := 5) (N := some 55) (v := ?_) (a' := ?_) #[true, true, true, true, false, true, false, false, false, false, false] rfl rfl (any_of HT_.out (by kernel_rfl)) (fun _ _ _ h => h) (Or.inl ⟨by rfl, ?_⟩) ?_ ?_
                                          rotate_left
                                          · intro w'
                                            go_simp
                                            with_reducible rfl
                                          rotate_left
                                          · simp only [Act.put, List.setIfInBounds_toArray, List.set_cons_zero, List.set_cons_succ, i64_w, i32_w]
                                            rfl
                                          refine pure_ (i := 6) (N := some 56) (v := ?_) (a' := ?_) #[true, true, true, true, false, true, true, false, false, false, false] rfl rfl (any_of HT_.out (by kernel_rfl)) (fun _ _ _ h => h) (Or.inl ⟨by rfl, ?_⟩) ?_ ?_
                                          rotate_left
                                          · intro w'
                                            go_simp
                                            with_reducible rfl
                                          rotate_left
                                          · simp only [Act.put, List.setIfInBounds_toArray, List.set_cons_zero, List.set_cons_succ, i64_w, i32_w]
                                            rfl
                                          refine pure_ (i := 7) (N := some 57) (v := ?_) (a' := ?_) #[true, true, true, true, false, true, true, true, false, false, false] rfl rfl (any_of HT_.out (by kernel_rfl)) (fun _ _ _ h => h) (Or.inl ⟨by rfl, ?_⟩) ?_ ?_
                                          rotate_left
                                          · intro w'
                                            go_simp
                                            with_reducible rfl
                                          rotate_left
                                          · simp only [Act.put, List.setIfInBounds_toArray, List.set_cons_zero, List.set_cons_succ, i64_w, i32_w]
                                            rfl
                                          refine pure_ (i := 8) (N := some 58) (v := ?_) (a' := ?_) #[true, true, true, true, false, true, true, true, true, false, false] rfl rfl (any_of HT_.out (by kernel_rfl)) (fun _ _ _ h => h) (Or.inl ⟨by rfl, ?_⟩) ?_ ?_
                                          rotate_left
                                          · intro w'
                                            go_simp
                                            with_reducible rfl
                                          rotate_left
                                          · simp only [Act.put, List.setIfInBounds_toArray, List.set_cons_zero, List.set_cons_succ, i64_w, i32_w]
                                            rfl
                                          refine take_ (i := 4) (N := some 54) (v := ?_) (a' := ?_) #[true, true, true, true, true, true, true, true, true, false, false] rfl rfl (take_ofW HT_.out HW_.out (by kernel_rfl)) (fun _ _ _ h => h) (Or.inl ⟨by rfl, ?_⟩) hHeld ?_ ?_
                                          rotate_left
                                          · rintro w' ⟨s0, s1⟩
                                            go_simp
                                            with_reducible rfl
                                          rotate_left
                                          · simp only [Act.put, List.setIfInBounds_toArray, List.set_cons_zero, List.set_cons_succ, i64_w, i32_w]
                                            rfl
                                          refine take_ (i := 9) (N := some 59) (v := ?_) (a' := ?_) #[true, true, true, true, true, true, true, true, true, true, false] rfl rfl (take_ofW HT_.out HW_.out (by kernel_rfl)) (fun _ _ _ h => h) (Or.inl ⟨by rfl, ?_⟩) hHeld ?_ ?_
                                          rotate_left
                                          · rintro w' ⟨s0, s1⟩
                                            go_simp
                                            with_reducible rfl
                                          rotate_left
                                          · simp only [Act.put, List.setIfInBounds_toArray, List.set_cons_zero, List.set_cons_succ, i64_w, i32_w]
                                            rfl
                                          refine pure_ (i := 10) (N := some 60) (v := ?_) (a' := ?_) #[true, true, true, true, true, true, true, true, true, true, true] rfl rfl (any_of HT_.out (by kernel_rfl)) (fun _ _ _ h => h) (Or.inl ⟨by rfl, ?_⟩) ?_ ?_
                                          rotate_left
                                          · intro w'
                                            go_simp
                                            with_reducible rfl
                                          rotate_left
                                          · simp only [Act.put, List.setIfInBounds_toArray, List.set_cons_zero, List.set_cons_succ, i64_w, i32_w]
                                            rfl
                                          refine done_ (done_of HT_.out (by kernel_rfl)) ?_
                                          try go_wp2
                                          have n0_ := Aside0.mk (Kd.R_drew HO_5.out)
                                          have n1_ := Aside0.mk (Kd.R_drew HO_6.out)
                                          have n2_ := Aside0.mk (Kd.R_drew HO_7.out)
                                          have n3_ := Aside0.mk (below_drew1 HB.out)
                                          clear HO_5
                                          clear HO_6
                                          clear HO_7
                                          clear HB
                                          have HO_5 := n0_
                                          have HO_6 := n1_
                                          have HO_7 := n2_
                                          have HB := n3_
                                          clear n0_ n1_ n2_ n3_
                                          have p124 : 0 ≤ (x10_3 : Int) := of_decide_eq_true (by first | (with_reducible assumption) | assumption)
                                          have q124 : x10_3 < (x7_3.length : Int) := of_decide_eq_true (by first | (with_reducible assumption) | assumption)
                                          obtain ⟨ad124, e124, hx124_0⟩ := Kd.at_int (Kd.R_reads' HO_7.out).2.2 x10_3 p124 q124
                                          obtain rfl : (⟨go18, 0, none⟩ : Addr) = ad124 := (by injection e124)
                                          (first | simp only [add_plain] at hx124_0 | simp only [add_at] at hx124_0 | simp only [Addr.add, Nat.zero_add] at hx124_0 | skip)
                                          replace p124 := eq_true p124
                                          replace q124 := eq_true q124
                                          have p125 : 0 ≤ ((ji25) : Int) := of_decide_eq_true (by first | (with_reducible assumption) | assumption)
                                          have q125 : (ji25) < (x7_3.length : Int) := of_decide_eq_true (by first | (with_reducible assumption) | assumption)
                                          obtain ⟨ad125, e125, hx125_0⟩ := Kd.at_int (Kd.R_reads' HO_7.out).2.2 (ji25) p125 q125
                                          obtain rfl : (⟨go18, 0, none⟩ : Addr) = ad125 := (by injection e125)
                                          (first | simp only [add_plain] at hx125_0 | simp only [add_at] at hx125_0 | simp only [Addr.add, Nat.zero_add] at hx125_0 | skip)
                                          replace p125 := eq_true p125
                                          replace q125 := eq_true q125
                                          refine start_ (n := 19) (S := fun w' => w'.cell? ⟨go18, (x10_3).toNat, none⟩ = some (.int .i64 (rd x7_3 x10_3)) ∧ w'.cell? ⟨go18, ((ji25)).toNat, none⟩ = some (.int .i64 (rd x7_3 (ji25)))) (ds := [18]) #[false, false, false, false, false, false, false, false, false, false, false, false, false, false, false, false, false, false, false] (by kernel_rfl) rfl rfl ⟨hx124_0, hx125_0⟩ (fun hHeld => ?_); refine with_tabW fuzzysearch_LevenshteinDistance.tab18 fuzzysearch_LevenshteinDistance.bits18 (fun HT_ HW_ => ?_)
                                          generalize w41.drew = w42 at HO_5 HO_6 HO_7 HB hx124_0 hx125_0 hHeld ⊢
                                          refine pure_ (i := 0) (N := some 61) (v := ?_) (a' := ?_) #[true, false, false, false, false, false, false, false, false, false, false, false, false, false, false, false, false, false, false] rfl rfl (any_of HT_.out (by kernel_rfl)) (fun _ _ _ h => h) (Or.inl ⟨by rfl, ?_⟩) ?_ ?_
                                          rotate_left
                                          · intro w'
                                            go_simp
                                            with_reducible rfl
                                          rotate_left
                                          · simp only [Act.put, List.setIfInBounds_toArray, List.set_cons_zero, List.set_cons_succ, i64_w, i32_w]
                                            rfl
                                          refine pure_ (i := 1) (N := some 62) (v := ?_) (a' := ?_) #[true, true, false, false, false, false, false, false, false, false, false, false, false, false, false, false, false, false, false] rfl rfl (any_of HT_.out (by kernel_rfl)) (fun _ _ _ h => h) (Or.inl ⟨by rfl, ?_⟩) ?_ ?_
                                          rotate_left
                                          · intro w'
                                            go_simp
                                            with_reducible rfl
                                          rotate_left
                                          · simp only [Act.put, List.setIfInBounds_toArray, List.set_cons_zero, List.set_cons_succ, i64_w, i32_w]
                                            rfl
                                          refine pure_ (i := 2) (N := some 63) (v := ?_) (a' := ?_) #[true, true, true, false, false, false, false, false, false, false, false, false, false, false, false, false, false, false, false] rfl rfl (any_of HT_.out (by kernel_rfl)) (fun _ _ _ h => h) (Or.inl ⟨by rfl, ?_⟩) ?_ ?_
                                          rotate_left
                                          · intro w'
                                            go_simp
                                            with_reducible rfl
                                          rotate_left
                                          · simp only [Act.put, List.setIfInBounds_toArray, List.set_cons_zero, List.set_cons_succ, i64_w, i32_w]
                                            rfl
                                          refine pure_ (i := 3) (N := some 64) (v := ?_) (a' := ?_) #[true, true, true, true, false, false, false, false, false, false, false, false, false, false, false, false, false, false, false] rfl rfl (any_of HT_.out (by kernel_rfl)) (fun _ _ _ h => h) (Or.inl ⟨by rfl, ?_⟩) ?_ ?_
                                          rotate_left
                                          · intro w'
                                            go_simp
                                            with_reducible rfl
                                          rotate_left
                                          · simp only [Act.put, List.setIfInBounds_toArray, List.set_cons_zero, List.set_cons_succ, i64_w, i32_w]
                                            rfl
                                          refine pure_ (i := 4) (N := some 65) (v := ?_) (a' := ?_) #[true, true, true, true, true, false, false, false, false, false, false, false, false, false, false, false, false, false, false] rfl rfl (any_of HT_.out (by kernel_rfl)) (fun _ _ _ h => h) (Or.inl ⟨by rfl, ?_⟩) ?_ ?_
                                          rotate_left
                                          · intro w'
                                            go_simp
                                            with_reducible rfl
                                          rotate_left
                                          · simp only [Act.put, List.setIfInBounds_toArray, List.set_cons_zero, List.set_cons_succ, i64_w, i32_w]
                                            rfl
                                          refine pure_ (i := 7) (N := some 68) (v := ?_) (a' := ?_) #[true, true, true, true, true, false, false, true, false, false, false, false, false, false, false, false, false, false, false] rfl rfl (any_of HT_.out (by kernel_rfl)) (fun _ _ _ h => h) (Or.inl ⟨by rfl, ?_⟩) ?_ ?_
                                          rotate_left
                                          · intro w'
                                            go_simp
                                            with_reducible rfl
                                          rotate_left
                                          · simp only [Act.put, List.setIfInBounds_toArray, List.set_cons_zero, List.set_cons_succ, i64_w, i32_w]
                                            rfl
                                          refine pure_ (i := 8) (N := some 69) (v := ?_) (a' := ?_) #[true, true, true, true, true, false, false, true, true, false, false, false, false, false, false, false, false, false, false] rfl rfl (any_of HT_.out (by kernel_rfl)) (fun _ _ _ h => h) (Or.inl ⟨by rfl, ?_⟩) ?_ ?_
                                          rotate_left
                                          · intro w'
                                            go_simp
                                            with_reducible rfl
                                          rotate_left
                                          · simp only [Act.put, List.setIfInBounds_toArray, List.set_cons_zero, List.set_cons_succ, i64_w, i32_w]
                                            rfl
                                          refine pure_ (i := 9) (N := some 70) (v := ?_) (a' := ?_) #[true, true, true, true, true, false, false, true, true, true, false, false, false, false, false, false, false, false, false] rfl rfl (any_of HT_.out (by kernel_rfl)) (fun _ _ _ h => h) (Or.inl ⟨by rfl, ?_⟩) ?_ ?_
                                          rotate_left
                                          · intro w'
                                            go_simp
                                            with_reducible rfl
                                          rotate_left
                                          · simp only [Act.put, List.setIfInBounds_toArray, List.set_cons_zero, List.set_cons_succ, i64_w, i32_w]
                                            rfl
                                          refine pure_ (i := 10) (N := some 71) (v := ?_) (a' := ?_) #[true, true, true, true, true, false, false, true, true, true, true, false, false, false, false, false, false, false, false] rfl rfl (any_of HT_.out (by kernel_rfl)) (fun _ _ _ h => h) (Or.inl ⟨by rfl, ?_⟩) ?_ ?_
                                          rotate_left
                                          · intro w'
                                            go_simp
                                            with_reducible rfl
                                          rotate_left
                                          · simp only [Act.put, List.setIfInBounds_toArray, List.set_cons_zero, List.set_cons_succ, i64_w, i32_w]
                                            rfl
                                          refine pure_ (i := 13) (N := some 74) (v := ?_) (a' := ?_) #[true, true, true, true, true, false, false, true, true, true, true, false, false, true, false, false, false, false, false] rfl rfl (any_of HT_.out (by kernel_rfl)) (fun _ _ _ h => h) (Or.inl ⟨by rfl, ?_⟩) ?_ ?_
                                          rotate_left
                                          · intro w'
                                            go_simp
                                            with_reducible rfl
                                          rotate_left
                                          · simp only [Act.put, List.setIfInBounds_toArray, List.set_cons_zero, List.set_cons_succ, i64_w, i32_w]
                                            rfl
                                          refine pure_ (i := 14) (N := some 75) (v := ?_) (a' := ?_) #[true, true, true, true, true, false, false, true, true, true, true, false, false, true, true, false, false, false, false] rfl rfl (any_of HT_.out (by kernel_rfl)) (fun _ _ _ h => h) (Or.inl ⟨by rfl, ?_⟩) ?_ ?_
                                          rotate_left
                                          · intro w'
                                            go_simp
                                            with_reducible rfl
                                          rotate_left
                                          · simp only [Act.put, List.setIfInBounds_toArray, List.set_cons_zero, List.set_cons_succ, i64_w, i32_w]
                                            rfl
                                          refine pure_ (i := 15) (N := some 76) (v := ?_) (a' := ?_) #[true, true, true, true, true, false, false, true, true, true, true, false, false, true, true, true, false, false, false] rfl rfl (any_of HT_.out (by kernel_rfl)) (fun _ _ _ h => h) (Or.inl ⟨by rfl, ?_⟩) ?_ ?_
                                          rotate_left
                                          · intro w'
                                            go_simp
                                            with_reducible rfl
                                          rotate_left
                                          · simp only [Act.put, List.setIfInBounds_toArray, List.set_cons_zero, List.set_cons_succ, i64_w, i32_w]
                                            rfl
                                          refine take_ (i := 5) (N := some 66) (v := ?_) (a' := ?_) #[true, true, true, true, true, true, false, true, true, true, true, false, false, true, true, true, false, false, false] rfl rfl (take_ofW HT_.out HW_.out (by kernel_rfl)) (fun _ _ _ h => h) (Or.inl ⟨by rfl, ?_⟩) hHeld ?_ ?_
                                          rotate_left
                                          · rintro w' ⟨s0, s1⟩
                                            go_simp
                                            with_reducible rfl
                                          rotate_left
                                          · simp only [Act.put, List.setIfInBounds_toArray, List.set_cons_zero, List.set_cons_succ, i64_w, i32_w]
                                            rfl
                                          refine pure_ (i := 6) (N := some 67) (v := ?_) (a' := ?_) #[true, true, true, true, true, true, true, true, true, true, true, false, false, true, true, true, false, false, false] rfl rfl (any_of HT_.out (by kernel_rfl)) (fun _ _ _ h => h) (Or.inl ⟨by rfl, ?_⟩) ?_ ?_
                                          rotate_left
                                          · intro w'
                                            go_simp
                                            with_reducible rfl
                                          rotate_left
                                          · simp only [Act.put, List.setIfInBounds_toArray, List.set_cons_zero, List.set_cons_succ, i64_w, i32_w]
                                            rfl
                                          refine take_ (i := 11) (N := some 72) (v := ?_) (a' := ?_) #[true, true, true, true, true, true, true, true, true, true, true, true, false, true, true, true, false, false, false] rfl rfl (take_ofW HT_.out HW_.out (by kernel_rfl)) (fun _ _ _ h => h) (Or.inl ⟨by rfl, ?_⟩) hHeld ?_ ?_
                                          rotate_left
                                          · rintro w' ⟨s0, s1⟩
                                            go_simp
                                            with_reducible rfl
                                          rotate_left
                                          · simp only [Act.put, List.setIfInBounds_toArray, List.set_cons_zero, List.set_cons_succ, i64_w, i32_w]
                                            rfl
                                          refine pure_ (i := 12) (N := some 73) (v := ?_) (a' := ?_) #[true, true, true, true, true, true, true, true, true, true, true, true, true, true, true, true, false, false, false] rfl rfl (any_of HT_.out (by kernel_rfl)) (fun _ _ _ h => h) (Or.inl ⟨by rfl, ?_⟩) ?_ ?_
                                          rotate_left
                                          · intro w'
                                            go_simp
                                            with_reducible rfl
                                          rotate_left
                                          · simp only [Act.put, List.setIfInBounds_toArray, List.set_cons_zero, List.set_cons_succ, i64_w, i32_w]
                                            rfl
                                          refine one_ (i := 16) (N := some 77) #[true, true, true, true, true, true, true, true, true, true, true, true, true, true, true, true, true, false, false] rfl rfl (one_of HT_.out (by kernel_rfl)) (by decide) (fun K hK => ?_)
                                          refine goes_ Tryd.func42 (by kernel_rfl) rfl #[.int .i64 (wrap64 ((rd x7_3 x10_3) + 1)), .int .i64 (wrap64 ((rd x7_3 (ji25)) + 1)), .int .i64 (wrap64 (x11_3 + 1))] (by rfl) rfl rfl (by (try simp only [List.map_toArray, List.map_cons, List.map_nil]); first | done | (simp only [hji25]; rfl) | rfl | (simp only [List.length_drop, List.length_take]; rfl)) ?_
                                          with_reducible refine (fuzzysearch_min.calls (wrap64 ((rd x7_3 x10_3) + 1)) (wrap64 ((rd x7_3 (ji25)) + 1)) (wrap64 (x11_3 + 1)) t126 _ A39.out).mono ?_
                                          rintro e w' ⟨rfl, ⟨nd, rfl⟩⟩
                                          refine ⟨_, rfl, ?_⟩
                                          have p40 : 0 ≤ (x10_3 : Int) := of_decide_eq_true (by first | (with_reducible assumption) | assumption)
                                          have q40 : (x10_3 : Int) < ((x7_3.length : Int) : Int) := of_decide_eq_true (by first | (with_reducible assumption) | assumption)
                                          obtain ⟨hx40_0, hf40_0⟩ := Kd.R_celln 0 HO_7.out (x10_3 : Int) p40 q40
                                          replace p40 := eq_true p40
                                          replace q40 := eq_true q40
                                          obtain ⟨_, hgz_⟩ := Kd.R_typed HO_7.out go18 rfl
                                          have GG18 := Aside0.mk hgz_
                                          clear hgz_
                                          have HP43 := Kd.R_putn HO_7.out (x10_3 : Int) t126
                                          rw [← Ny127.out] at HP43
                                          have HQ43 := Aside0.mk HP43
                                          clear HP43
                                          refine hK.out _ _ ⟨hHeld.1, hHeld.2⟩ (fun hHeld => ?_)
                                          clear hK K
                                          refine norm_ (a' := ?_) ?_ ?_
                                          rotate_left
                                          · show Act.put _ (some 77) _ = _
                                            simp only [Act.put, List.setIfInBounds_toArray, List.set_cons_zero, List.set_cons_succ, i64_w, i32_w]
                                            rfl
                                          refine pure_ (i := 17) (N := some 78) (v := ?_) (a' := ?_) #[true, true, true, true, true, true, true, true, true, true, true, true, true, true, true, true, true, true, false] rfl rfl (any_of HT_.out (by kernel_rfl)) (fun _ _ _ h => h) (Or.inl ⟨by rfl, ?_⟩) ?_ ?_
                                          rotate_left
                                          · intro w'
                                            go_simp
                                            with_reducible rfl
                                          rotate_left
                                          · simp only [Act.put, List.setIfInBounds_toArray, List.set_cons_zero, List.set_cons_succ, i64_w, i32_w]
                                            rfl
                                          refine last_ (i := 18) (N := none) #[true, true, true, true, true, true, true, true, true, true, true, true, true, true, true, true, true, true, true] rfl rfl (one_of HT_.out (by kernel_rfl)) (by decide) (fun K hK => ?_)
                                          refine skip_ (w1 := ?_) (by rfl) rfl ?_ ?_
                                          rotate_left
                                          · go_simp
                                            rfl
                                          refine hK.out _ _ ?_
                                          clear hK K
                                          refine done_ (done_of HT_.out (by kernel_rfl)) ?_
                                          try go_wp2
                                          (try simp only [← hl7_3])
                                          first | go_roundg k3 | (simp only [← hji28, ← hji25]; go_roundg k3)
                                          case measure => have := HK1.out; have := HK2.out; have := HK3.out; omega
                                          case rel => exact ⟨(y127), (wrap64 (x10_3 + 1)), (rd x7_3 x10_3), (by first | rfl | (simp; done) | (simp [*]; done)), (by first | rfl | (simp; done) | (simp [*]; done)), H', ⟨by have := HK1.out; have := HK2.out; have := HK3.out; omega⟩, ⟨by (try simp only [hl7_3]); (with_reducible repeat (first | apply Kd.R_alloc | apply Kd.R_drewN | apply Kd.R_drew)); exact Kd.R_mono (Kd.R_far (p := ⟨go18, (x10_3 : Int).toNat, none⟩) (Kd.R_types HO_5.out GG18.out (by decide)) (fun _ hk => hk.2) (.int .i64 t126)) (fun _ hk => hk.1)⟩, ⟨by (try simp only [hl7_3]); (with_reducible repeat (first | apply Kd.R_alloc | apply Kd.R_drewN | apply Kd.R_drew)); exact Kd.R_mono (Kd.R_far (p := ⟨go18, (x10_3 : Int).toNat, none⟩) (Kd.R_types HO_6.out GG18.out (by decide)) (fun _ hk => hk.2) (.int .i64 t126)) (fun _ hk => hk.1)⟩, ⟨by (try simp only [hl7_3]); (with_reducible repeat (first | apply Kd.R_alloc | apply Kd.R_drewN | apply Kd.R_drew)); exact HQ43.out⟩, ⟨by repeat (first | (with_reducible first | exact HB.out | apply below_alloc | apply pw_below_drewN | apply below_drew1 | refine below_set ?_ GB18.out) | exact HB.out)⟩⟩
                                        · rw [if_neg c38] at H
                                          exact absurd H (by simp)
                                    · rw [if_neg c30] at H
                                      exact absurd H (by simp)
                                  · rw [if_neg c29] at H
                                    exact absurd H (by simp)
                                · rw [if_neg c27] at H
                                  exact absurd H (by simp)
                              · rw [if_neg c26] at H
                                exact absurd H (by simp)
                            · rw [if_neg c24] at H
                              exact absurd H (by simp)
                          · rw [if_neg c23] at H
                            exact absurd H (by simp)
                        · rw [if_neg c22] at H
                          have c22b0 : decide (x10_3 ≤ (y103.length : Int)) = false := decide_eq_false c22
                          clear c22
                          have H' := Aside0.mk H
                          clear H
                          go_wp2
                          (try simp only [← hl7_3])
                          go_roundg k3
                          case measure => have := HK1.out; have := HK2.out; have := HK3.out; omega
                          case rel => exact ⟨(x7_3), (wrap64 (x9_2 + 1)), (by first | rfl | (simp; done) | (simp [*]; done)), H', ⟨by have := HK1.out; have := HK2.out; have := HK3.out; omega⟩, ⟨by (try simp only [hl7_3]); (with_reducible repeat (first | apply Kd.R_alloc | apply Kd.R_drewN | apply Kd.R_drew)); exact HO_5.out⟩, ⟨by (try simp only [hl7_3]); (with_reducible repeat (first | apply Kd.R_alloc | apply Kd.R_drewN | apply Kd.R_drew)); exact HO_6.out⟩, ⟨by (try simp only [hl7_3]); (with_reducible repeat (first | apply Kd.R_alloc | apply Kd.R_drewN | apply Kd.R_drew)); exact HO_7.out⟩, ⟨by repeat (first | (with_reducible first | exact HB.out | apply below_alloc | apply pw_below_drewN | apply below_drew1) | exact HB.out)⟩⟩
                  · rw [if_neg c17] at H
                    exact absurd H (by simp)
                · rw [if_neg c16] at H
                  have c16b0 : decide (x9_2 ≤ (y106.length : Int)) = false := decide_eq_false c16
                  clear c16
                  by_cases c44 : 0 ≤ (y103.length : Int)
                  · rw [if_pos c44] at H
                    have c44b0 : decide (0 ≤ (y103.length : Int)) = true := decide_eq_true c44
                    have c44b1 : decide (0 ≤ y103.length) = true := decide_eq_true (by omega)
                    clear c44
                    by_cases c45 : (y103.length : Int) < (x7_2.length : Int)
                    · rw [if_pos c45] at H
                      have c45b0 : decide ((y103.length : Int) < (x7_2.length : Int)) = true := decide_eq_true c45
                      have c45b1 : decide (y103.length < x7_2.length) = true := decide_eq_true (Int.ofNat_lt.mp c45)
                      clear c45
                      obtain rfl := Option.some.inj H
                      obtain ⟨Ao46, co46, eo46⟩ := Kd.R_slice HO_6.out
                      subst eo46
                      obtain ⟨Ao47, co47, eo47⟩ := Kd.R_slice HO_7.out
                      subst eo47
                      have p115 : 0 ≤ ((y103.length : Int) : Int) := of_decide_eq_true (by first | (with_reducible assumption) | assumption)
                      have q115 : (y103.length : Int) < (x7_2.length : Int) := of_decide_eq_true (by first | (with_reducible assumption) | assumption)
                      obtain ⟨ad115, e115, hx115_0⟩ := Kd.at_int (Kd.R_reads' HO_7.out).2.2 (y103.length : Int) p115 q115
                      cases e115
                      (try simp only [Go.IntWalk.toNatUp] at hx115_0)
                      replace p115 := eq_true p115
                      replace q115 := eq_true q115
                      go_wp2
                      go_ret
                      exact ⟨by first | rfl | (simp [errW_none, errW_some] <;> rfl) | (simp [*, errW_none, errW_some] <;> rfl), by repeat (first | (with_reducible first | exact HB.out | apply below_alloc | apply pw_below_drewN | apply below_drew1) | exact HB.out)⟩
                    · rw [if_neg c45] at H
                      exact absurd H (by simp)
                  · rw [if_neg c44] at H
                    exact absurd H (by simp)
    · rw [if_neg c4] at H
      exact absurd H (by simp)
  · rw [if_neg c3] at H
    exact absurd H (by simp)

end Go.Proofs.YtfkemfkleceeiaaDoor.P
