-- written by a program of this session (wip/tools), out of the translation
import Derived.Test.YtfkemfkleceeiaaDoorP0
import Derived.Test.YtfkemfkleceeiaaDoorExtFold
namespace Go.Proofs.YtfkemfkleceeiaaDoor.P
open Go.RowKit Go.Proofs.YtfkemfkleceeiaaDoorW.PrintWords Go.Proofs.YtfkemfkleceeiaaDoorW.PrintLast Go.Proofs.YtfkemfkleceeiaaDoorW.PrintMore
attribute [local go_sem] max2_int min2_int max_two min_two max_three min_three max_four min_four   -- for this text's walks alone
set_option linter.unusedVariables false
set_option linter.unusedSimpArgs false

/-! ### spec_Distance: function 13 -/
mutual
def spec_Distance.l0 : Nat → List Int → List Int → List (List Int) → Int → Option (Int)
  | 0, _, _, _, _ => none
  | k + 1, x5, x6, x7, x8 => if x8 ≤ (x5.length : Int) then (spec_Distance.l1 k x5 x6 x7 x8 (([] : List Int)) 0) else (if 0 ≤ (x5.length : Int) then (if (x5.length : Int) < (x7.length : Int) then (if 0 ≤ (x6.length : Int) then (if (x6.length : Int) < ((rd_L5 x7 (x5.length : Int)).length : Int) then (some (rd (rd_L5 x7 (x5.length : Int)) (x6.length : Int))) else (none)) else (none)) else (none)) else (none))
def spec_Distance.l1 : Nat → List Int → List Int → List (List Int) → Int → List Int → Int → Option (Int)
  | 0, _, _, _, _, _, _ => none
  | k + 1, x5, x6, x7, x8, x9, x10 => if x10 ≤ (x6.length : Int) then (if x8 = 0 then (if x9.length < 17592186044416 then (spec_Distance.l1 k x5 x6 x7 x8 (x9 ++ [x10]) (wrap64 (x10 + 1))) else (none)) else (if x10 = 0 then (if x9.length < 17592186044416 then (spec_Distance.l1 k x5 x6 x7 x8 (x9 ++ [x8]) (wrap64 (x10 + 1))) else (none)) else (if 0 ≤ (wrap64 (x8 - 1)) then (if (wrap64 (x8 - 1)) < (x7.length : Int) then (if 0 ≤ (wrap64 (x10 - 1)) then (if (wrap64 (x10 - 1)) < ((rd_L5 x7 (wrap64 (x8 - 1))).length : Int) then (if (wrap64 (x8 - 1)) < (x5.length : Int) then (if (wrap64 (x10 - 1)) < (x6.length : Int) then (if (rd x5 (wrap64 (x8 - 1))) = (rd x6 (wrap64 (x10 - 1))) then (if 0 ≤ x10 then (if x10 < ((rd_L5 x7 (wrap64 (x8 - 1))).length : Int) then (if (wrap64 (x10 - 1)) < (x9.length : Int) then (if x9.length < 17592186044416 then (spec_Distance.l1 k x5 x6 x7 x8 (x9 ++ [mn (mn (rd (rd_L5 x7 (wrap64 (x8 - 1))) (wrap64 (x10 - 1))) (wrap64 ((rd (rd_L5 x7 (wrap64 (x8 - 1))) x10) + 1))) (wrap64 ((rd x9 (wrap64 (x10 - 1))) + 1))]) (wrap64 (x10 + 1))) else (none)) else (none)) else (none)) else (none)) else (if 0 ≤ x10 then (if x10 < ((rd_L5 x7 (wrap64 (x8 - 1))).length : Int) then (if (wrap64 (x10 - 1)) < (x9.length : Int) then (if x9.length < 17592186044416 then (spec_Distance.l1 k x5 x6 x7 x8 (x9 ++ [mn (mn (wrap64 ((rd (rd_L5 x7 (wrap64 (x8 - 1))) (wrap64 (x10 - 1))) + 1)) (wrap64 ((rd (rd_L5 x7 (wrap64 (x8 - 1))) x10) + 1))) (wrap64 ((rd x9 (wrap64 (x10 - 1))) + 1))]) (wrap64 (x10 + 1))) else (none)) else (none)) else (none)) else (none))) else (none)) else (none)) else (none)) else (none)) else (none)) else (none)))) else (if x7.length < 5864062014805 then (spec_Distance.l0 k x5 x6 (x7 ++ [x9]) (wrap64 (x8 + 1))) else (none))
end
def spec_Distance.f (k : Nat) (a0 : ByteArray) (a1 : ByteArray) : Option (Int) := (spec_runesOf.f a0 false).bind fun t129 => ((spec_runesOf.f a1 false).bind fun t132 => (spec_Distance.l0 k t129 t132 (([] : List (List Int))) 0))
theorem spec_Distance.mono_l : ∀ k, (∀ y0 y1 y2 y3, LeO (spec_Distance.l0 k y0 y1 y2 y3) (spec_Distance.l0 (k + 1) y0 y1 y2 y3)) ∧ (∀ y0 y1 y2 y3 y4 y5, LeO (spec_Distance.l1 k y0 y1 y2 y3 y4 y5) (spec_Distance.l1 (k + 1) y0 y1 y2 y3 y4 y5))
  | 0 => ⟨fun _ _ _ _ r h => by simp [spec_Distance.l0] at h, fun _ _ _ _ _ _ r h => by simp [spec_Distance.l1] at h⟩
  | k + 1 => by
    obtain ⟨ih0, ih1⟩ := spec_Distance.mono_l k
    refine ⟨?_, ?_⟩
    · intro y0 y1 y2 y3
      unfold spec_Distance.l0
      repeat' first
      | (with_reducible exact ih0 _ _ _ _)
      | (with_reducible exact ih1 _ _ _ _ _ _)
      | (with_reducible exact LeO.refl _)
      | (with_reducible exact LeO.none _)
      | (with_reducible refine LeO.ite ?_ ?_)
      | (with_reducible refine LeO.bind ?_ (fun _ => ?_))
      | exact ih0 _ _ _ _
      | exact ih1 _ _ _ _ _ _
      | exact LeO.none _
      | refine LeO.ite ?_ ?_
      | refine LeO.bind ?_ (fun _ => ?_)
    · intro y0 y1 y2 y3 y4 y5
      unfold spec_Distance.l1
      repeat' first
      | (with_reducible exact ih0 _ _ _ _)
      | (with_reducible exact ih1 _ _ _ _ _ _)
      | (with_reducible exact LeO.refl _)
      | (with_reducible exact LeO.none _)
      | (with_reducible refine LeO.ite ?_ ?_)
      | (with_reducible refine LeO.bind ?_ (fun _ => ?_))
      | exact ih0 _ _ _ _
      | exact ih1 _ _ _ _ _ _
      | exact LeO.none _
      | refine LeO.ite ?_ ?_
      | refine LeO.bind ?_ (fun _ => ?_)
theorem spec_Distance.mono : ∀ a0 a1 k, LeO (spec_Distance.f k a0 a1) (spec_Distance.f (k + 1) a0 a1) := by
  intro a0 a1 k
  obtain ⟨ih0, ih1⟩ := spec_Distance.mono_l k
  unfold spec_Distance.f
  repeat' first
      | (with_reducible exact ih0 _ _ _ _)
      | (with_reducible exact ih1 _ _ _ _ _ _)
      | (with_reducible exact LeO.refl _)
      | (with_reducible exact LeO.none _)
      | (with_reducible refine LeO.ite ?_ ?_)
      | (with_reducible refine LeO.bind ?_ (fun _ => ?_))
      | exact ih0 _ _ _ _
      | exact ih1 _ _ _ _ _ _
      | exact LeO.none _
      | refine LeO.ite ?_ ?_
      | refine LeO.bind ?_ (fun _ => ?_)
def spec_Distance.T11 : Bool × List (List Nat × List Nat) := (true, [([], []), ([], []), ([1], [1]), ([0, 2], [0, 2]), ([3], [3]), ([], []), ([], []), ([6], [6]), ([5, 7], [5, 7]), ([8], [8]), ([4, 9], [4, 9])])
def spec_Distance.B11 : List Nat := [0, 0, 2, 7, 15, 0, 0, 64, 224, 480, 1023]
theorem spec_Distance.tab11 : rtab .any (opsOf Tryd.f13 11) = spec_Distance.T11 := by kernel_rfl
theorem spec_Distance.bits11 : waitsOk spec_Distance.T11.2 spec_Distance.B11 = true := by kernel_rfl
def spec_Distance.T13 : Bool × List (List Nat × List Nat) := (true, [([], []), ([], []), ([], []), ([], []), ([3], [3]), ([2, 4], [2, 4]), ([5], [5]), ([], []), ([6, 7], [6, 7]), ([8], [8]), ([9], [9]), ([], []), ([], []), ([12], [12]), ([11, 13], [11, 13]), ([14], [14]), ([15], [15]), ([1, 10, 16], [1, 10, 16]), ([17], [17]), ([0, 18], [0, 18]), ([19, 19, 0, 1, 2, 3, 4, 5, 6, 7, 8, 9, 10, 11, 12, 13, 14, 15, 16, 17, 18, 19], [0, 11, 19])])
def spec_Distance.B13 : List Nat := [0, 0, 0, 0, 8, 28, 60, 0, 252, 508, 1020, 0, 0, 4096, 14336, 30720, 63488, 131070, 262142, 524287, 1048575]
theorem spec_Distance.tab13 : rtab .any (opsOf Tryd.f13 13) = spec_Distance.T13 := by kernel_rfl
theorem spec_Distance.bits13 : waitsOk spec_Distance.T13.2 spec_Distance.B13 = true := by kernel_rfl
set_option maxHeartbeats 8000000 in
set_option maxRecDepth 100000 in
theorem spec_Distance.calls (k : Nat) (a0 : ByteArray) (a1 : ByteArray) (r : Int) (w : World) (hA_ : Amb w) (h : spec_Distance.f k a0 a1 = some r) :
    Calls Tryd.prog 13 #[.string a0, .string a1] w fun e w' => e = .returned (.int .i64 r) ∧ Below w.heap.size w w' := by
  have HAMB := Aside0.mk hA_
  clear hA_
  have HB := Aside0.mk (Below.refl w.heap.size w)
  have H : ((spec_runesOf.f a0 false).bind fun t129 => ((spec_runesOf.f a1 false).bind fun t132 => (spec_Distance.l0 k t129 t132 (([] : List (List Int))) 0))) = some r := h
  clear h
  replace H := Option.bind_eq_some_iff.mp H
  obtain ⟨t129, A30, H⟩ := H
  replace H : ((spec_runesOf.f a1 false).bind fun t132 => (spec_Distance.l0 k t129 t132 (([] : List (List Int))) 0)) = some r := H
  have A3 := Aside0.mk A30
  clear A30
  replace H := Option.bind_eq_some_iff.mp H
  obtain ⟨t132, A40, H⟩ := H
  replace H : (spec_Distance.l0 k t129 t132 (([] : List (List Int))) 0) = some r := H
  have A4 := Aside0.mk A40
  clear A40
  obtain ⟨y135, hy135⟩ : ∃ y_ : List (List Int), y_ = (([] : List (List Int))) := ⟨_, rfl⟩
  replace H : (spec_Distance.l0 k t129 t132 y135 0) = some r := by first | (rw [hy135]; with_reducible exact H) | (have H2_ := (Option.bind_some _ _).symm.trans H; rw [hy135]; with_reducible exact H2_) | (have H2_ := (Option.bind_some _ _).symm.trans H; with_reducible exact H2_) | with_reducible exact H | (rw [hy135]; exact H) | exact H
  have Ny135 := Aside0.mk hy135
  clear hy135
  have H' := Aside0.mk H
  clear H
  go_enter Tryd.func13, Tryd.ntmps13
  go_wp2_with (first | ((with_reducible refine gate_callee (f := 29) rfl ?_); refine goesL_ (some 13) rfl rfl Tryd.func29 (by kernel_rfl) rfl #[.string a0, .bool false] rfl (by (try simp only [List.map_toArray, List.map_cons, List.map_nil]); first | done | rfl | (simp only [List.length_drop, List.length_take]; rfl)) ?_; (with_reducible refine (spec_runesOf.calls a0 false t129 _ (by first | (with_reducible exact HAMB.out) | exact Amb.below HAMB.out (by repeat (first | (with_reducible first | exact HB.out | apply below_alloc | apply pw_below_drewN | apply below_drew1) | exact HB.out)) | exact Amb.below HAMB.out (by repeat (first | (with_reducible first | exact Below.refl _ _ | apply pw_below_drewN | apply below_drew1 | apply below_alloc)))) A3.out).mono ?_); rintro e w5 ⟨v130, rfl, ho0, hb⟩; refine ⟨_, rfl, ?_⟩; have n0_ := Aside0.mk (Kd.R_lower ho0 (below_size (by repeat (first | (with_reducible first | exact HB.out | apply below_alloc | apply pw_below_drewN | apply below_drew1) | exact HB.out)))); have n1_ := Aside0.mk (below_step (by repeat (first | (with_reducible first | exact HB.out | apply below_alloc | apply pw_below_drewN | apply below_drew1) | exact HB.out)) hb); clear HB; have HO131 := n0_; have HB := n1_; clear n0_ n1_; (try clear hb); (try clear hb2); (try clear hk); (try clear hi); (try clear ho0)) | ((with_reducible refine gate_callee (f := 29) rfl ?_); refine goesL_ (some 15) rfl rfl Tryd.func29 (by kernel_rfl) rfl #[.string a1, .bool false] rfl (by (try simp only [List.map_toArray, List.map_cons, List.map_nil]); first | done | rfl | (simp only [List.length_drop, List.length_take]; rfl)) ?_; (with_reducible refine (spec_runesOf.calls a1 false t132 _ (by first | (with_reducible exact HAMB.out) | exact Amb.below HAMB.out (by repeat (first | (with_reducible first | exact HB.out | apply below_alloc | apply pw_below_drewN | apply below_drew1) | exact HB.out)) | exact Amb.below HAMB.out (by repeat (first | (with_reducible first | exact Below.refl _ _ | apply pw_below_drewN | apply below_drew1 | apply below_alloc)))) A4.out).mono ?_); rintro e w6 ⟨v133, rfl, ho0, hb⟩; refine ⟨_, rfl, ?_⟩; have n0_ := Aside0.mk (Kd.R_elder' (by (with_reducible repeat (first | apply Kd.R_alloc | apply Kd.R_drewN | apply Kd.R_drew)); exact HO131.out) (Kd.R_base ho0) hb); have n1_ := Aside0.mk (Kd.R_lower (Kd.R_new' ho0 (Kd.R_lt (by (with_reducible repeat (first | apply Kd.R_alloc | apply Kd.R_drewN | apply Kd.R_drew)); exact HO131.out))) (below_size (by repeat (first | (with_reducible first | exact HB.out | apply below_alloc | apply pw_below_drewN | apply below_drew1) | exact HB.out)))); have n2_ := Aside0.mk (below_step (by repeat (first | (with_reducible first | exact HB.out | apply below_alloc | apply pw_below_drewN | apply below_drew1) | exact HB.out)) hb); clear HO131; clear HB; have HO131 := n0_; have HO134 := n1_; have HB := n2_; clear n0_ n1_ n2_; (try clear hb); (try clear hb2); (try clear hk); (try clear hi); (try clear ho0)) | ((with_reducible refine gate_dst (N := 16) rfl ?_); refine Kd.S_lit (Kd.slice 3 (Kd.int .i64)) _ 45 ?hg (N := 16) ?hd (xs := ([] : List (List Int))) (inner := []) (ok := fun _ => True) (okp := fun _ => True) ?hr ?hp (fun _ hk => hk) trivial (Below.refl _ _) (Nat.le_refl _) (by simp) ?_; (case hd => rfl); (case hg => rfl); (case hr => first | (go_simp; done) | (go_simp; rfl)); (case hp => exact (Reps.none _ _)); intro v136 w7 ho8 hb hg_ hnew_; clear hg_ hnew_; (first | rw [← Ny135.out] at ho8 | (simp only [Int.reduceToNat] at ho8; rw [← Ny135.out] at ho8)); have n0_ := Aside0.mk (Kd.R_below (by (with_reducible repeat (first | apply Kd.R_alloc | apply Kd.R_drewN | apply Kd.R_drew)); exact HO131.out) hb); have n1_ := Aside0.mk (Kd.R_below (by (with_reducible repeat (first | apply Kd.R_alloc | apply Kd.R_drewN | apply Kd.R_drew)); exact HO134.out) hb); have n2_ := Aside0.mk (Kd.S_lower ho8 (below_size (by repeat (first | (with_reducible first | exact HB.out | apply below_alloc | apply pw_below_drewN | apply below_drew1) | exact HB.out)))); have n3_ := Aside0.mk (below_step (by repeat (first | (with_reducible first | exact HB.out | apply below_alloc | apply pw_below_drewN | apply below_drew1) | exact HB.out)) hb); clear HO131; clear HO134; clear HB; have HO131 := n0_; have HO134 := n1_; have HO137 := n2_; have HB := n3_; clear n0_ n1_ n2_ n3_; clear hb ho8))
  go_loopg [7, 8] k (fun kq v7 v8 w' => ∃ (x7_1 : List (List Int)) (x8_1 : Int), v8 = .int .i64 x8_1 ∧ Aside0 (spec_Distance.l0 kq t129 t132 x7_1 x8_1 = some r) ∧ Aside0 (kq ≤ k) ∧ Aside0 (Kd.R (Kd.int .i32) 21 w' w.heap.size (fun k_ => some k_ ≠ (v133 : Value).ownBlock) v130 t129) ∧ Aside0 (Kd.R (Kd.int .i32) 21 w' w.heap.size (fun k_ => some k_ ≠ (v130 : Value).ownBlock) v133 t132) ∧ Aside0 (Kd.S (Kd.slice 3 (Kd.int .i64)) 45 w' w.heap.size (fun _ => True) v7 x7_1) ∧ Aside0 (Below w.heap.size w w'))
  case atStart => exact ⟨(y135), (0), (by first | rfl | (simp; done) | (simp [*]; done)), H', ⟨Nat.le_refl _⟩, ⟨by (with_reducible repeat (first | apply Kd.R_alloc | apply Kd.R_drewN | apply Kd.R_drew)); exact Kd.R_mono HO131.out (fun _ hk => hk.2)⟩, ⟨by (with_reducible repeat (first | apply Kd.R_alloc | apply Kd.R_drewN | apply Kd.R_drew)); exact Kd.R_mono HO134.out (fun _ hk => hk.2)⟩, ⟨by (with_reducible repeat (first | apply Kd.S_alloc | apply Kd.S_drewN | apply Kd.S_drew)); exact HO137.out⟩, ⟨by repeat (first | (with_reducible first | exact HB.out | apply below_alloc | apply pw_below_drewN | apply below_drew1) | exact HB.out)⟩⟩
  case round =>
    clear H'
    try clear c1
    try clear c2
    try clear p2
    obtain ⟨x7_1, x8_1, rfl, HA, HK1, HO_5, HO_6, HO_7, HB⟩ := hrel
    cases gk with
    | zero => exact absurd HA.out (by simp [spec_Distance.l0])
    | succ k1 =>
      have H := HA.out
      clear HA
      simp only [spec_Distance.l0] at H
      by_cases c9 : x8_1 ≤ (t129.length : Int)
      · rw [if_pos c9] at H
        have c9b0 : decide (x8_1 ≤ (t129.length : Int)) = true := decide_eq_true c9
        clear c9
        obtain ⟨y140, hy140⟩ : ∃ y_ : List Int, y_ = (([] : List Int)) := ⟨_, rfl⟩
        replace H : (spec_Distance.l1 k1 t129 t132 x7_1 x8_1 y140 0) = some r := by first | (rw [hy140]; with_reducible exact H) | (have H2_ := (Option.bind_some _ _).symm.trans H; rw [hy140]; with_reducible exact H2_) | (have H2_ := (Option.bind_some _ _).symm.trans H; with_reducible exact H2_) | with_reducible exact H | (rw [hy140]; exact H) | exact H
        have Ny140 := Aside0.mk hy140
        clear hy140
        have H' := Aside0.mk H
        clear H
        obtain ⟨Ao10, co10, eo10⟩ := Kd.R_slice HO_5.out
        subst eo10
        go_wp2_with (first | ((with_reducible refine gate_dst (N := 23) rfl ?_); refine Kd.R_lit (Kd.int .i64) _ 3 ?hg (N := 23) ?hd (xs := ([] : List Int)) (inner := []) (ok := fun _ => True) (okp := fun _ => True) ?hr ?hp (fun _ hk => hk) trivial (Below.refl _ _) (Nat.le_refl _) (by simp) ?_; (case hd => rfl); (case hg => rfl); (case hr => first | (go_simp; done) | (go_simp; rfl)); (case hp => exact (Reps.none _ _)); intro v141 w11 ho12 hb hg_ hnew_; clear hg_ hnew_; (first | rw [← Ny140.out] at ho12 | (simp only [Int.reduceToNat] at ho12; rw [← Ny140.out] at ho12)); have n0_ := Aside0.mk (Kd.R_below (by (with_reducible repeat (first | apply Kd.R_alloc | apply Kd.R_drewN | apply Kd.R_drew)); exact HO_5.out) hb); have n1_ := Aside0.mk (Kd.R_below (by (with_reducible repeat (first | apply Kd.R_alloc | apply Kd.R_drewN | apply Kd.R_drew)); exact HO_6.out) hb); have n2_ := Aside0.mk (Kd.S_elder' (by (with_reducible repeat (first | apply Kd.S_alloc | apply Kd.S_drewN | apply Kd.S_drew)); exact HO_7.out) (Kd.R_base ho12) hb); have n3_ := Aside0.mk (Kd.R_lower ho12 (below_size (by repeat (first | (with_reducible first | exact HB.out | apply below_alloc | apply pw_below_drewN | apply below_drew1) | exact HB.out)))); have n4_ := Aside0.mk (below_step (by repeat (first | (with_reducible first | exact HB.out | apply below_alloc | apply pw_below_drewN | apply below_drew1) | exact HB.out)) hb); clear HO_5; clear HO_6; clear HO_7; clear HB; have HO_5 := n0_; have HO_6 := n1_; have HO_7 := n2_; have HO142 := n3_; have HB := n4_; clear n0_ n1_ n2_ n3_ n4_; clear hb ho12))
        go_loopg [9, 10] k1 (fun kq v9 v10 w' => ∃ (x9_2 : List Int) (x10_2 : Int), v10 = .int .i64 x10_2 ∧ Aside0 (spec_Distance.l1 kq t129 t132 x7_1 x8_1 x9_2 x10_2 = some r) ∧ Aside0 (kq ≤ k1) ∧ Aside0 (Kd.R (Kd.int .i32) 21 w' w.heap.size (fun k_ => some k_ ≠ (v133 : Value).ownBlock) (.slice Ao10 t129.length co10) t129) ∧ Aside0 (Kd.R (Kd.int .i32) 21 w' w.heap.size (fun k_ => some k_ ≠ ((.slice Ao10 t129.length co10) : Value).ownBlock) v133 t132) ∧ Aside0 (Kd.S (Kd.slice 3 (Kd.int .i64)) 45 w' w.heap.size (fun k_ => some k_ ≠ (v9 : Value).ownBlock) u7 x7_1) ∧ Aside0 (Kd.R (Kd.int .i64) 3 w' w.heap.size (fun _ => True) v9 x9_2) ∧ Aside0 (Below w.heap.size w w'))
        case atStart => exact ⟨(y140), (0), (by first | rfl | (simp; done) | (simp [*]; done)), H', ⟨Nat.le_refl _⟩, ⟨by (with_reducible repeat (first | apply Kd.R_alloc | apply Kd.R_drewN | apply Kd.R_drew)); exact HO_5.out⟩, ⟨by (with_reducible repeat (first | apply Kd.R_alloc | apply Kd.R_drewN | apply Kd.R_drew)); exact HO_6.out⟩, ⟨by (with_reducible repeat (first | apply Kd.S_alloc | apply Kd.S_drewN | apply Kd.S_drew)); exact Kd.S_mono HO_7.out (fun _ hk => hk.2)⟩, ⟨by (with_reducible repeat (first | apply Kd.R_alloc | apply Kd.R_drewN | apply Kd.R_drew)); exact HO142.out⟩, ⟨by repeat (first | (with_reducible first | exact HB.out | apply below_alloc | apply pw_below_drewN | apply below_drew1) | exact HB.out)⟩⟩
        case round =>
          clear H'
          try clear c1
          try clear c2
          try clear p2
          try clear c9
          try clear c9b0
          try clear p2
          obtain ⟨x9_2, x10_2, rfl, HA, HK2, HO_5, HO_6, HO_7, HO_9, HB⟩ := hrel
          cases gk with
          | zero => exact absurd HA.out (by simp [spec_Distance.l1])
          | succ k2 =>
            have H := HA.out
            clear HA
            simp only [spec_Distance.l1] at H
            by_cases c13 : x10_2 ≤ (t132.length : Int)
            · rw [if_pos c13] at H
              have c13b0 : decide (x10_2 ≤ (t132.length : Int)) = true := decide_eq_true c13
              clear c13
              by_cases c14 : x8_1 = 0
              · rw [if_pos c14] at H
                have c14b0 : (x8_1 == 0) = true := beq_iff_eq.mpr c14
                have c14b1 : (x8_1 != 0) = false := bne_eq_false_iff_eq.mpr c14
                clear c14
                by_cases c15 : x9_2.length < 17592186044416
                · rw [if_pos c15] at H
                  have LMc15 := Aside0.mk c15
                  clear c15
                  obtain ⟨y146, hy146⟩ : ∃ y_ : List Int, y_ = (x9_2 ++ [x10_2]) := ⟨_, rfl⟩
                  replace H : (spec_Distance.l1 k2 t129 t132 x7_1 x8_1 y146 (wrap64 (x10_2 + 1))) = some r := by first | (rw [hy146]; with_reducible exact H) | (have H2_ := (Option.bind_some _ _).symm.trans H; rw [hy146]; with_reducible exact H2_) | (have H2_ := (Option.bind_some _ _).symm.trans H; with_reducible exact H2_) | with_reducible exact H | (rw [hy146]; exact H) | exact H
                  have Ny146 := Aside0.mk hy146
                  clear hy146
                  have H' := Aside0.mk H
                  clear H
                  obtain ⟨Ao16, co16, eo16⟩ := Kd.R_slice HO_6.out
                  subst eo16
                  go_wp2_with (first | ((with_reducible refine gate_builtin (b := .append) (xs := #[.tmp 75, .tmp 77]) rfl ?_); at_builtin; refine Kd.R_append (Kd.int .i64) (w0 := w) w.heap.size rfl (.tmp 75) (.tmp 77) 45 3 (.int .i64 0) 8 rfl Tryd.underlying45 info3 rfl (by decide) (by omega) u9 x9_2 x10_2 [.int .i64 x10_2] (fun _ => True) (fun _ => False) rfl rfl ?aP (fun _ hk => hk.elim) ?aF ?aO ?aB ?aS ?aL ?_; (case aP => exact rfl); (case aB => exact (by repeat (first | (with_reducible first | exact HB.out | apply below_alloc | apply pw_below_drewN | apply below_drew1) | exact HB.out))); (case aF => exact (fun _ _ => trivial)); (case aO => exact (by (with_reducible repeat (first | apply Kd.R_alloc | apply Kd.R_drewN | apply Kd.R_drew)); exact HO_9.out)); (case aS => exact (below_size (by repeat (first | (with_reducible first | exact HB.out | apply below_alloc | apply pw_below_drewN | apply below_drew1) | exact HB.out)))); (case aL => have := LMc15.out; omega); intro v147 w17 ho hb hg hat; rw [← Ny146.out] at ho; have n0_ := Aside0.mk (Kd.R_over' (by (with_reducible repeat (first | apply Kd.R_alloc | apply Kd.R_drewN | apply Kd.R_drew)); exact HO_5.out) (Kd.R_typed (by (with_reducible repeat (first | apply Kd.R_alloc | apply Kd.R_drewN | apply Kd.R_drew)); exact HO_9.out)) (by decide) hg); have n1_ := Aside0.mk (Kd.R_over' (by (with_reducible repeat (first | apply Kd.R_alloc | apply Kd.R_drewN | apply Kd.R_drew)); exact HO_6.out) (Kd.R_typed (by (with_reducible repeat (first | apply Kd.R_alloc | apply Kd.R_drewN | apply Kd.R_drew)); exact HO_9.out)) (by decide) hg); have n2_ := Aside0.mk (Kd.S_after (ok := (fun _ => True)) (by (with_reducible repeat (first | apply Kd.S_alloc | apply Kd.S_drewN | apply Kd.S_drew)); exact Kd.S_mono HO_7.out (fun _ hk => ⟨trivial, hk⟩)) hg hat); have n3_ := Aside0.mk (hb); have n4_ := Aside0.mk (ho); clear HO_5; clear HO_6; clear HO_7; clear HB; clear HO_9; have HO_5 := n0_; have HO_6 := n1_; have HO_7 := n2_; have HB := n3_; have HO148 := n4_; clear n0_ n1_ n2_ n3_ n4_; clear ho hb hg hat))
                  go_roundg k2
                  case measure => have := HK1.out; have := HK2.out; omega
                  case rel => exact ⟨(y146), (wrap64 (x10_2 + 1)), (by first | rfl | (simp; done) | (simp [*]; done)), H', ⟨by have := HK1.out; have := HK2.out; omega⟩, ⟨by (with_reducible repeat (first | apply Kd.R_alloc | apply Kd.R_drewN | apply Kd.R_drew)); exact HO_5.out⟩, ⟨by (with_reducible repeat (first | apply Kd.R_alloc | apply Kd.R_drewN | apply Kd.R_drew)); exact HO_6.out⟩, ⟨by (with_reducible repeat (first | apply Kd.S_alloc | apply Kd.S_drewN | apply Kd.S_drew)); exact Kd.S_mono HO_7.out (fun _ hk => hk.2)⟩, ⟨by (with_reducible repeat (first | apply Kd.R_alloc | apply Kd.R_drewN | apply Kd.R_drew)); exact HO148.out⟩, ⟨by repeat (first | (with_reducible first | exact HB.out | apply below_alloc | apply pw_below_drewN | apply below_drew1) | exact HB.out)⟩⟩
                · rw [if_neg c15] at H
                  exact absurd H (by simp)
              · rw [if_neg c14] at H
                have c14b0 : (x8_1 == 0) = false := beq_eq_false_iff_ne.mpr c14
                have c14b1 : (x8_1 != 0) = true := bne_iff_ne.mpr c14
                by_cases c18 : x10_2 = 0
                · rw [if_pos c18] at H
                  have c18b0 : (x10_2 == 0) = true := beq_iff_eq.mpr c18
                  have c18b1 : (x10_2 != 0) = false := bne_eq_false_iff_eq.mpr c18
                  clear c18
                  by_cases c19 : x9_2.length < 17592186044416
                  · rw [if_pos c19] at H
                    have LMc19 := Aside0.mk c19
                    clear c19
                    obtain ⟨y149, hy149⟩ : ∃ y_ : List Int, y_ = (x9_2 ++ [x8_1]) := ⟨_, rfl⟩
                    replace H : (spec_Distance.l1 k2 t129 t132 x7_1 x8_1 y149 (wrap64 (x10_2 + 1))) = some r := by first | (rw [hy149]; with_reducible exact H) | (have H2_ := (Option.bind_some _ _).symm.trans H; rw [hy149]; with_reducible exact H2_) | (have H2_ := (Option.bind_some _ _).symm.trans H; with_reducible exact H2_) | with_reducible exact H | (rw [hy149]; exact H) | exact H
                    have Ny149 := Aside0.mk hy149
                    clear hy149
                    have H' := Aside0.mk H
                    clear H
                    obtain ⟨Ao20, co20, eo20⟩ := Kd.R_slice HO_6.out
                    subst eo20
                    go_wp2_with (first | ((with_reducible refine gate_builtin (b := .append) (xs := #[.tmp 82, .tmp 84]) rfl ?_); at_builtin; refine Kd.R_append (Kd.int .i64) (w0 := w) w.heap.size rfl (.tmp 82) (.tmp 84) 45 3 (.int .i64 0) 8 rfl Tryd.underlying45 info3 rfl (by decide) (by omega) u9 x9_2 x8_1 [.int .i64 x8_1] (fun _ => True) (fun _ => False) rfl rfl ?aP (fun _ hk => hk.elim) ?aF ?aO ?aB ?aS ?aL ?_; (case aP => exact rfl); (case aB => exact (by repeat (first | (with_reducible first | exact HB.out | apply below_alloc | apply pw_below_drewN | apply below_drew1) | exact HB.out))); (case aF => exact (fun _ _ => trivial)); (case aO => exact (by (with_reducible repeat (first | apply Kd.R_alloc | apply Kd.R_drewN | apply Kd.R_drew)); exact HO_9.out)); (case aS => exact (below_size (by repeat (first | (with_reducible first | exact HB.out | apply below_alloc | apply pw_below_drewN | apply below_drew1) | exact HB.out)))); (case aL => have := LMc19.out; omega); intro v150 w21 ho hb hg hat; rw [← Ny149.out] at ho; have n0_ := Aside0.mk (Kd.R_over' (by (with_reducible repeat (first | apply Kd.R_alloc | apply Kd.R_drewN | apply Kd.R_drew)); exact HO_5.out) (Kd.R_typed (by (with_reducible repeat (first | apply Kd.R_alloc | apply Kd.R_drewN | apply Kd.R_drew)); exact HO_9.out)) (by decide) hg); have n1_ := Aside0.mk (Kd.R_over' (by (with_reducible repeat (first | apply Kd.R_alloc | apply Kd.R_drewN | apply Kd.R_drew)); exact HO_6.out) (Kd.R_typed (by (with_reducible repeat (first | apply Kd.R_alloc | apply Kd.R_drewN | apply Kd.R_drew)); exact HO_9.out)) (by decide) hg); have n2_ := Aside0.mk (Kd.S_after (ok := (fun _ => True)) (by (with_reducible repeat (first | apply Kd.S_alloc | apply Kd.S_drewN | apply Kd.S_drew)); exact Kd.S_mono HO_7.out (fun _ hk => ⟨trivial, hk⟩)) hg hat); have n3_ := Aside0.mk (hb); have n4_ := Aside0.mk (ho); clear HO_5; clear HO_6; clear HO_7; clear HB; clear HO_9; have HO_5 := n0_; have HO_6 := n1_; have HO_7 := n2_; have HB := n3_; have HO151 := n4_; clear n0_ n1_ n2_ n3_ n4_; clear ho hb hg hat))
                    go_roundg k2
                    case measure => have := HK1.out; have := HK2.out; omega
                    case rel => exact ⟨(y149), (wrap64 (x10_2 + 1)), (by first | rfl | (simp; done) | (simp [*]; done)), H', ⟨by have := HK1.out; have := HK2.out; omega⟩, ⟨by (with_reducible repeat (first | apply Kd.R_alloc | apply Kd.R_drewN | apply Kd.R_drew)); exact HO_5.out⟩, ⟨by (with_reducible repeat (first | apply Kd.R_alloc | apply Kd.R_drewN | apply Kd.R_drew)); exact HO_6.out⟩, ⟨by (with_reducible repeat (first | apply Kd.S_alloc | apply Kd.S_drewN | apply Kd.S_drew)); exact Kd.S_mono HO_7.out (fun _ hk => hk.2)⟩, ⟨by (with_reducible repeat (first | apply Kd.R_alloc | apply Kd.R_drewN | apply Kd.R_drew)); exact HO151.out⟩, ⟨by repeat (first | (with_reducible first | exact HB.out | apply below_alloc | apply pw_below_drewN | apply below_drew1) | exact HB.out)⟩⟩
                  · rw [if_neg c19] at H
                    exact absurd H (by simp)
                · rw [if_neg c18] at H
                  have c18b0 : (x10_2 == 0) = false := beq_eq_false_iff_ne.mpr c18
                  have c18b1 : (x10_2 != 0) = true := bne_iff_ne.mpr c18
                  obtain ⟨ji22, hji22⟩ : ∃ j_ : Int, (wrap64 (x8_1 - 1)) = j_ := ⟨_, rfl⟩
                  replace H : (if 0 ≤ (ji22) then (if (ji22) < (x7_1.length : Int) then (if 0 ≤ (wrap64 (x10_2 - 1)) then (if (wrap64 (x10_2 - 1)) < ((rd_L5 x7_1 (ji22)).length : Int) then (if (ji22) < (t129.length : Int) then (if (wrap64 (x10_2 - 1)) < (t132.length : Int) then (if (rd t129 (ji22)) = (rd t132 (wrap64 (x10_2 - 1))) then (if 0 ≤ x10_2 then (if x10_2 < ((rd_L5 x7_1 (ji22)).length : Int) then (if (wrap64 (x10_2 - 1)) < (x9_2.length : Int) then (if x9_2.length < 17592186044416 then (spec_Distance.l1 k2 t129 t132 x7_1 x8_1 (x9_2 ++ [mn (mn (rd (rd_L5 x7_1 (ji22)) (wrap64 (x10_2 - 1))) (wrap64 ((rd (rd_L5 x7_1 (ji22)) x10_2) + 1))) (wrap64 ((rd x9_2 (wrap64 (x10_2 - 1))) + 1))]) (wrap64 (x10_2 + 1))) else (none)) else (none)) else (none)) else (none)) else (if 0 ≤ x10_2 then (if x10_2 < ((rd_L5 x7_1 (ji22)).length : Int) then (if (wrap64 (x10_2 - 1)) < (x9_2.length : Int) then (if x9_2.length < 17592186044416 then (spec_Distance.l1 k2 t129 t132 x7_1 x8_1 (x9_2 ++ [mn (mn (wrap64 ((rd (rd_L5 x7_1 (ji22)) (wrap64 (x10_2 - 1))) + 1)) (wrap64 ((rd (rd_L5 x7_1 (ji22)) x10_2) + 1))) (wrap64 ((rd x9_2 (wrap64 (x10_2 - 1))) + 1))]) (wrap64 (x10_2 + 1))) else (none)) else (none)) else (none)) else (none))) else (none)) else (none)) else (none)) else (none)) else (none)) else (none)) = some r := by first | (rw [hji22] at H; exact H) | (simp only [hji22] at H ⊢; exact H)
                  have hji22w : (IntKind.i64.wrap (x8_1 - 1)) = ji22 := (i64_w _).trans hji22
                  by_cases c23 : 0 ≤ (ji22)
                  · rw [if_pos c23] at H
                    have c23b0 : decide (0 ≤ (ji22)) = true := decide_eq_true c23
                    clear c23
                    by_cases c24 : (ji22) < (x7_1.length : Int)
                    · rw [if_pos c24] at H
                      have c24b0 : decide ((ji22) < (x7_1.length : Int)) = true := decide_eq_true c24
                      clear c24
                      obtain ⟨ji25, hji25⟩ : ∃ j_ : Int, (wrap64 (x10_2 - 1)) = j_ := ⟨_, rfl⟩
                      replace H : (if 0 ≤ (ji25) then (if (ji25) < ((rd_L5 x7_1 (ji22)).length : Int) then (if (ji22) < (t129.length : Int) then (if (ji25) < (t132.length : Int) then (if (rd t129 (ji22)) = (rd t132 (ji25)) then (if 0 ≤ x10_2 then (if x10_2 < ((rd_L5 x7_1 (ji22)).length : Int) then (if (ji25) < (x9_2.length : Int) then (if x9_2.length < 17592186044416 then (spec_Distance.l1 k2 t129 t132 x7_1 x8_1 (x9_2 ++ [mn (mn (rd (rd_L5 x7_1 (ji22)) (ji25)) (wrap64 ((rd (rd_L5 x7_1 (ji22)) x10_2) + 1))) (wrap64 ((rd x9_2 (ji25)) + 1))]) (wrap64 (x10_2 + 1))) else (none)) else (none)) else (none)) else (none)) else (if 0 ≤ x10_2 then (if x10_2 < ((rd_L5 x7_1 (ji22)).length : Int) then (if (ji25) < (x9_2.length : Int) then (if x9_2.length < 17592186044416 then (spec_Distance.l1 k2 t129 t132 x7_1 x8_1 (x9_2 ++ [mn (mn (wrap64 ((rd (rd_L5 x7_1 (ji22)) (ji25)) + 1)) (wrap64 ((rd (rd_L5 x7_1 (ji22)) x10_2) + 1))) (wrap64 ((rd x9_2 (ji25)) + 1))]) (wrap64 (x10_2 + 1))) else (none)) else (none)) else (none)) else (none))) else (none)) else (none)) else (none)) else (none)) = some r := by first | (rw [hji25] at H; exact H) | (simp only [hji25] at H ⊢; exact H)
                      have hji25w : (IntKind.i64.wrap (x10_2 - 1)) = ji25 := (i64_w _).trans hji25
                      by_cases c26 : 0 ≤ (ji25)
                      · rw [if_pos c26] at H
                        have c26b0 : decide (0 ≤ (ji25)) = true := decide_eq_true c26
                        clear c26
                        by_cases c27 : (ji25) < ((rd_L5 x7_1 (ji22)).length : Int)
                        · rw [if_pos c27] at H
                          have c27b0 : decide ((ji25) < ((rd_L5 x7_1 (ji22)).length : Int)) = true := decide_eq_true c27
                          clear c27
                          by_cases c28 : (ji22) < (t129.length : Int)
                          · rw [if_pos c28] at H
                            have c28b0 : decide ((ji22) < (t129.length : Int)) = true := decide_eq_true c28
                            clear c28
                            by_cases c29 : (ji25) < (t132.length : Int)
                            · rw [if_pos c29] at H
                              have c29b0 : decide ((ji25) < (t132.length : Int)) = true := decide_eq_true c29
                              clear c29
                              by_cases c30 : (rd t129 (ji22)) = (rd t132 (ji25))
                              · rw [if_pos c30] at H
                                have c30b0 : ((rd t129 (ji22)) == (rd t132 (ji25))) = true := beq_iff_eq.mpr c30
                                have c30b1 : ((rd t129 (ji22)) != (rd t132 (ji25))) = false := bne_eq_false_iff_eq.mpr c30
                                clear c30
                                by_cases c31 : 0 ≤ x10_2
                                · rw [if_pos c31] at H
                                  have c31b0 : decide (0 ≤ x10_2) = true := decide_eq_true c31
                                  clear c31
                                  by_cases c32 : x10_2 < ((rd_L5 x7_1 (ji22)).length : Int)
                                  · rw [if_pos c32] at H
                                    have c32b0 : decide (x10_2 < ((rd_L5 x7_1 (ji22)).length : Int)) = true := decide_eq_true c32
                                    clear c32
                                    by_cases c33 : (ji25) < (x9_2.length : Int)
                                    · rw [if_pos c33] at H
                                      have c33b0 : decide ((ji25) < (x9_2.length : Int)) = true := decide_eq_true c33
                                      clear c33
                                      obtain ⟨ji34, hji34⟩ : ∃ j_ : Int, (mn (rd (rd_L5 x7_1 (ji22)) (ji25)) (wrap64 ((rd (rd_L5 x7_1 (ji22)) x10_2) + 1))) = j_ := ⟨_, rfl⟩
                                      replace H : (if x9_2.length < 17592186044416 then (spec_Distance.l1 k2 t129 t132 x7_1 x8_1 (x9_2 ++ [mn (ji34) (wrap64 ((rd x9_2 (ji25)) + 1))]) (wrap64 (x10_2 + 1))) else (none)) = some r := by first | (rw [hji34] at H; exact H) | (simp only [hji34] at H ⊢; exact H)
                                      have hji34_ : (if (wrap64 ((rd (rd_L5 x7_1 (ji22)) x10_2) + 1)) < (rd (rd_L5 x7_1 (ji22)) (ji25)) then (wrap64 ((rd (rd_L5 x7_1 (ji22)) x10_2) + 1)) else (rd (rd_L5 x7_1 (ji22)) (ji25))) = ji34 := hji34
                                      obtain ⟨ji35, hji35⟩ : ∃ j_ : Int, (mn (ji34) (wrap64 ((rd x9_2 (ji25)) + 1))) = j_ := ⟨_, rfl⟩
                                      replace H : (if x9_2.length < 17592186044416 then (spec_Distance.l1 k2 t129 t132 x7_1 x8_1 (x9_2 ++ [ji35]) (wrap64 (x10_2 + 1))) else (none)) = some r := by first | (rw [hji35] at H; exact H) | (simp only [hji35] at H ⊢; exact H)
                                      have hji35_ : (if (wrap64 ((rd x9_2 (ji25)) + 1)) < (ji34) then (wrap64 ((rd x9_2 (ji25)) + 1)) else (ji34)) = ji35 := hji35
                                      by_cases c36 : x9_2.length < 17592186044416
                                      · rw [if_pos c36] at H
                                        have LMc36 := Aside0.mk c36
                                        clear c36
                                        obtain ⟨y159, hy159⟩ : ∃ y_ : List Int, y_ = (x9_2 ++ [ji35]) := ⟨_, rfl⟩
                                        replace H : (spec_Distance.l1 k2 t129 t132 x7_1 x8_1 y159 (wrap64 (x10_2 + 1))) = some r := by first | (rw [hy159]; with_reducible exact H) | (have H2_ := (Option.bind_some _ _).symm.trans H; rw [hy159]; with_reducible exact H2_) | (have H2_ := (Option.bind_some _ _).symm.trans H; with_reducible exact H2_) | with_reducible exact H | (rw [hy159]; exact H) | exact H
                                        have Ny159 := Aside0.mk hy159
                                        clear hy159
                                        have H' := Aside0.mk H
                                        clear H
                                        obtain ⟨Ao37, co37, eo37⟩ := Kd.R_slice HO_6.out
                                        subst eo37
                                        obtain ⟨Ao38, co38, eo38⟩ := Kd.S_slice HO_7.out
                                        subst eo38
                                        have p152 : 0 ≤ ((ji22) : Int) := of_decide_eq_true (by first | (with_reducible assumption) | assumption)
                                        have q152 : (ji22) < (x7_1.length : Int) := of_decide_eq_true (by first | (with_reducible assumption) | assumption)
                                        obtain ⟨ad152, A152_0, c152_0, e152, hx152_0, hl152_0, hi152_0⟩ := at_L5 (Kd.S_reads' HO_7.out).2.2 (ji22) p152 q152
                                        cases e152
                                        obtain ⟨ce152, hce152, hMe152, hcc152⟩ := Kd.S_get HO_7.out [] (ji22) p152 (by first | exact q152 | exact of_decide_eq_true (by first | (with_reducible assumption) | assumption) | (have e_ := (Kd.S_reads' HO_7.out).1; omega))
                                        obtain ⟨ve152_0, rfl, ge152_0⟩ := hMe152
                                        have hv152_0 := hcc152 0 _ rfl
                                        rw [Nat.add_zero, show ((Kd.slice 3 (Kd.int .i64))).sz = 1 from rfl, Nat.mul_one] at hv152_0
                                        replace hv152_0 := Option.some.inj (hv152_0.symm.trans hx152_0)
                                        rw [hv152_0] at ge152_0
                                        have HL152_0 := Aside0.mk (show Kd.R (Kd.int .i64) 3 _ _ _ _ (rd_L5 x7_1 (ji22)) from ge152_0)
                                        clear hv152_0 ge152_0
                                        clear hcc152 hce152
                                        have HR152_0 := Aside0.mk hi152_0
                                        have HC152_0 := Aside0.mk hl152_0
                                        clear hi152_0 hl152_0
                                        replace p152 := eq_true p152
                                        replace q152 := eq_true q152
                                        have p153 : 0 ≤ ((ji25) : Int) := of_decide_eq_true (by first | (with_reducible assumption) | assumption)
                                        have q153 : (ji25) < ((rd_L5 x7_1 (ji22)).length : Int) := of_decide_eq_true (by first | (with_reducible assumption) | assumption)
                                        obtain ⟨ad153, e153, hx153_0⟩ := Kd.at_int (by repeat (first | (with_reducible exact HR152_0.out) | (with_reducible refine Kd.C_alloc ?_ _) | (with_reducible refine Kd.C_drewN ?_ _) | (with_reducible refine Kd.C_drew ?_) | exact HR152_0.out)) (ji25) p153 q153
                                        cases e153
                                        replace p153 := eq_true p153
                                        replace q153 := eq_true q153
                                        try go_wp2
                                        have n0_ := Aside0.mk (Kd.R_drew HO_5.out)
                                        have n1_ := Aside0.mk (Kd.R_drew HO_6.out)
                                        have n2_ := Aside0.mk (Kd.S_drew HO_7.out)
                                        have n3_ := Aside0.mk (Kd.R_drew HO_9.out)
                                        have n4_ := Aside0.mk (Kd.R_drew HL152_0.out)
                                        have n5_ := Aside0.mk (Kd.C_drew HR152_0.out)
                                        have n6_ := Aside0.mk (below_drew1 HB.out)
                                        clear HO_5
                                        clear HO_6
                                        clear HO_7
                                        clear HO_9
                                        clear HL152_0
                                        clear HR152_0
                                        clear HB
                                        have HO_5 := n0_
                                        have HO_6 := n1_
                                        have HO_7 := n2_
                                        have HO_9 := n3_
                                        have HL152_0 := n4_
                                        have HR152_0 := n5_
                                        have HB := n6_
                                        clear n0_ n1_ n2_ n3_ n4_ n5_ n6_
                                        have p154 : 0 ≤ ((ji22) : Int) := of_decide_eq_true (by first | (with_reducible assumption) | assumption)
                                        have q154 : (ji22) < (t129.length : Int) := of_decide_eq_true (by first | (with_reducible assumption) | assumption)
                                        obtain ⟨ad154, e154, hx154_0⟩ := Kd.at_int (Kd.R_reads' HO_5.out).2.2 (ji22) p154 q154
                                        cases e154
                                        replace p154 := eq_true p154
                                        replace q154 := eq_true q154
                                        have p155 : 0 ≤ ((ji25) : Int) := of_decide_eq_true (by first | (with_reducible assumption) | assumption)
                                        have q155 : (ji25) < (t132.length : Int) := of_decide_eq_true (by first | (with_reducible assumption) | assumption)
                                        obtain ⟨ad155, e155, hx155_0⟩ := Kd.at_int (Kd.R_reads' HO_6.out).2.2 (ji25) p155 q155
                                        cases e155
                                        replace p155 := eq_true p155
                                        replace q155 := eq_true q155
                                        refine start_ (n := 11) (S := fun w' => w'.cell? (ad154.add ((ji22)).toNat) = some (.int .i32 (rd t129 (ji22))) ∧ w'.cell? (ad155.add ((ji25)).toNat) = some (.int .i32 (rd t132 (ji25)))) (ds := []) #[false, false, false, false, false, false, false, false, false, false, false] (by kernel_rfl) rfl rfl ⟨hx154_0, hx155_0⟩ (fun hHeld => ?_); refine with_tabW spec_Distance.tab11 spec_Distance.bits11 (fun HT_ HW_ => ?_)
                                        generalize wr.drew = w39 at HO_5 HO_6 HO_7 HO_9 HL152_0 HR152_0 HB hx154_0 hx155_0 hHeld ⊢
                                        refine pure_ (i := 0) (N := some 39) (v := ?_) (a' := ?_) #[true, false, false, false, false, false, false, false, false, false, false] rfl rfl (any_of HT_.out (by kernel_rfl)) (fun _ _ _ h => h) (Or.inl ⟨by rfl, ?_⟩) ?_ ?_
                                        rotate_left
                                        · intro w'
                                          go_simp
                                          with_reducible rfl
                                        rotate_left
                                        · simp only [Act.put, List.setIfInBounds_toArray, List.set_cons_zero, List.set_cons_succ, i64_w, i32_w]
                                          rfl
                                        refine pure_ (i := 1) (N := some 40) (v := ?_) (a' := ?_) #[true, true, false, false, false, false, false, false, false, false, false] rfl rfl (any_of HT_.out (by kernel_rfl)) (fun _ _ _ h => h) (Or.inl ⟨by rfl, ?_⟩) ?_ ?_
                                        rotate_left
                                        · intro w'
                                          go_simp
                                          with_reducible rfl
                                        rotate_left
                                        · simp only [Act.put, List.setIfInBounds_toArray, List.set_cons_zero, List.set_cons_succ, i64_w, i32_w]
                                          rfl
                                        refine pure_ (i := 2) (N := some 41) (v := ?_) (a' := ?_) #[true, true, true, false, false, false, false, false, false, false, false] rfl rfl (any_of HT_.out (by kernel_rfl)) (fun _ _ _ h => h) (Or.inl ⟨by rfl, ?_⟩) ?_ ?_
                                        rotate_left
                                        · intro w'
                                          go_simp
                                          with_reducible rfl
                                        rotate_left
                                        · simp only [Act.put, List.setIfInBounds_toArray, List.set_cons_zero, List.set_cons_succ, i64_w, i32_w]
                                          rfl
                                        refine pure_ (i := 3) (N := some 42) (v := ?_) (a' := ?_) #[true, true, true, true, false, false, false, false, false, false, false] rfl rfl (any_of HT_.out (by kernel_rfl)) (fun _ _ _ h => h) (Or.inl ⟨by rfl, ?_⟩) ?_ ?_
                                        rotate_left
                                        · intro w'
                                          go_simp
                                          with_reducible rfl
                                        rotate_left
                                        · simp only [Act.put, List.setIfInBounds_toArray, List.set_cons_zero, List.set_cons_succ, i64_w, i32_w]
                                          rfl
                                        refine pure_ (i := 5) (N := some 44) (v := ?_) (a' := ?_) #[true, true, true, true, false, true, false, false, false, false, false] rfl rfl (any_of HT_.out (by kernel_rfl)) (fun _ _ _ h => h) (Or.inl ⟨by rfl, ?_⟩) ?_ ?_
                                        rotate_left
                                        · intro w'
                                          go_simp
                                          with_reducible rfl
                                        rotate_left
                                        · simp only [Act.put, List.setIfInBounds_toArray, List.set_cons_zero, List.set_cons_succ, i64_w, i32_w]
                                          rfl
                                        refine pure_ (i := 6) (N := some 45) (v := ?_) (a' := ?_) #[true, true, true, true, false, true, true, false, false, false, false] rfl rfl (any_of HT_.out (by kernel_rfl)) (fun _ _ _ h => h) (Or.inl ⟨by rfl, ?_⟩) ?_ ?_
                                        rotate_left
                                        · intro w'
                                          go_simp
                                          with_reducible rfl
                                        rotate_left
                                        · simp only [Act.put, List.setIfInBounds_toArray, List.set_cons_zero, List.set_cons_succ, i64_w, i32_w]
                                          rfl
                                        refine pure_ (i := 7) (N := some 46) (v := ?_) (a' := ?_) #[true, true, true, true, false, true, true, true, false, false, false] rfl rfl (any_of HT_.out (by kernel_rfl)) (fun _ _ _ h => h) (Or.inl ⟨by rfl, ?_⟩) ?_ ?_
                                        rotate_left
                                        · intro w'
                                          go_simp
                                          with_reducible rfl
                                        rotate_left
                                        · simp only [Act.put, List.setIfInBounds_toArray, List.set_cons_zero, List.set_cons_succ, i64_w, i32_w]
                                          rfl
                                        refine pure_ (i := 8) (N := some 47) (v := ?_) (a' := ?_) #[true, true, true, true, false, true, true, true, true, false, false] rfl rfl (any_of HT_.out (by kernel_rfl)) (fun _ _ _ h => h) (Or.inl ⟨by rfl, ?_⟩) ?_ ?_
                                        rotate_left
                                        · intro w'
                                          go_simp
                                          with_reducible rfl
                                        rotate_left
                                        · simp only [Act.put, List.setIfInBounds_toArray, List.set_cons_zero, List.set_cons_succ, i64_w, i32_w]
                                          rfl
                                        refine take_ (i := 4) (N := some 43) (v := ?_) (a' := ?_) #[true, true, true, true, true, true, true, true, true, false, false] rfl rfl (take_ofW HT_.out HW_.out (by kernel_rfl)) (fun _ _ _ h => h) (Or.inl ⟨by rfl, ?_⟩) hHeld ?_ ?_
                                        rotate_left
                                        · rintro w' ⟨s0, s1⟩
                                          go_simp
                                          with_reducible rfl
                                        rotate_left
                                        · simp only [Act.put, List.setIfInBounds_toArray, List.set_cons_zero, List.set_cons_succ, i64_w, i32_w]
                                          rfl
                                        refine take_ (i := 9) (N := some 48) (v := ?_) (a' := ?_) #[true, true, true, true, true, true, true, true, true, true, false] rfl rfl (take_ofW HT_.out HW_.out (by kernel_rfl)) (fun _ _ _ h => h) (Or.inl ⟨by rfl, ?_⟩) hHeld ?_ ?_
                                        rotate_left
                                        · rintro w' ⟨s0, s1⟩
                                          go_simp
                                          with_reducible rfl
                                        rotate_left
                                        · simp only [Act.put, List.setIfInBounds_toArray, List.set_cons_zero, List.set_cons_succ, i64_w, i32_w]
                                          rfl
                                        refine pure_ (i := 10) (N := some 49) (v := ?_) (a' := ?_) #[true, true, true, true, true, true, true, true, true, true, true] rfl rfl (any_of HT_.out (by kernel_rfl)) (fun _ _ _ h => h) (Or.inl ⟨by rfl, ?_⟩) ?_ ?_
                                        rotate_left
                                        · intro w'
                                          go_simp
                                          with_reducible rfl
                                        rotate_left
                                        · simp only [Act.put, List.setIfInBounds_toArray, List.set_cons_zero, List.set_cons_succ, i64_w, i32_w]
                                          rfl
                                        refine done_ (done_of HT_.out (by kernel_rfl)) ?_
                                        try go_wp2
                                        have n0_ := Aside0.mk (Kd.R_drew HO_5.out)
                                        have n1_ := Aside0.mk (Kd.R_drew HO_6.out)
                                        have n2_ := Aside0.mk (Kd.S_drew HO_7.out)
                                        have n3_ := Aside0.mk (Kd.R_drew HO_9.out)
                                        have n4_ := Aside0.mk (Kd.R_drew HL152_0.out)
                                        have n5_ := Aside0.mk (Kd.C_drew HR152_0.out)
                                        have n6_ := Aside0.mk (below_drew1 HB.out)
                                        clear HO_5
                                        clear HO_6
                                        clear HO_7
                                        clear HO_9
                                        clear HL152_0
                                        clear HR152_0
                                        clear HB
                                        have HO_5 := n0_
                                        have HO_6 := n1_
                                        have HO_7 := n2_
                                        have HO_9 := n3_
                                        have HL152_0 := n4_
                                        have HR152_0 := n5_
                                        have HB := n6_
                                        clear n0_ n1_ n2_ n3_ n4_ n5_ n6_
                                        have p156 : 0 ≤ ((ji22) : Int) := of_decide_eq_true (by first | (with_reducible assumption) | assumption)
                                        have q156 : (ji22) < (x7_1.length : Int) := of_decide_eq_true (by first | (with_reducible assumption) | assumption)
                                        obtain ⟨ad156, A156_0, c156_0, e156, hx156_0, hl156_0, hi156_0⟩ := at_L5 (Kd.S_reads' HO_7.out).2.2 (ji22) p156 q156
                                        obtain rfl : ad152 = ad156 := (by injection e156)
                                        obtain ⟨ce156, hce156, hMe156, hcc156⟩ := Kd.S_get HO_7.out [] (ji22) p156 (by first | exact q156 | exact of_decide_eq_true (by first | (with_reducible assumption) | assumption) | (have e_ := (Kd.S_reads' HO_7.out).1; omega))
                                        obtain ⟨ve156_0, rfl, ge156_0⟩ := hMe156
                                        have hv156_0 := hcc156 0 _ rfl
                                        rw [Nat.add_zero, show ((Kd.slice 3 (Kd.int .i64))).sz = 1 from rfl, Nat.mul_one] at hv156_0
                                        replace hv156_0 := Option.some.inj (hv156_0.symm.trans hx156_0)
                                        rw [hv156_0] at ge156_0
                                        have HL156_0 := Aside0.mk (show Kd.R (Kd.int .i64) 3 _ _ _ _ (rd_L5 x7_1 (ji22)) from ge156_0)
                                        clear hv156_0 ge156_0
                                        clear hcc156 hce156
                                        have HR156_0 := Aside0.mk hi156_0
                                        have HC156_0 := Aside0.mk hl156_0
                                        clear hi156_0 hl156_0
                                        replace p156 := eq_true p156
                                        replace q156 := eq_true q156
                                        have p157 : 0 ≤ (x10_2 : Int) := of_decide_eq_true (by first | (with_reducible assumption) | assumption)
                                        have q157 : x10_2 < ((rd_L5 x7_1 (ji22)).length : Int) := of_decide_eq_true (by first | (with_reducible assumption) | assumption)
                                        obtain ⟨ad157, e157, hx157_0⟩ := Kd.at_int (by repeat (first | (with_reducible exact HR156_0.out) | (with_reducible refine Kd.C_alloc ?_ _) | (with_reducible refine Kd.C_drewN ?_ _) | (with_reducible refine Kd.C_drew ?_) | exact HR156_0.out)) x10_2 p157 q157
                                        cases e157
                                        replace p157 := eq_true p157
                                        replace q157 := eq_true q157
                                        obtain ⟨Ao41, co41, eo41⟩ := Kd.R_slice HO_9.out
                                        (first | subst eo41 | (injection eo41 with f1_ f2_ f3_; have f4_ := f1_.symm; have f5_ := f3_.symm; clear f1_ f2_ f3_; subst f4_; subst f5_))
                                        have p158 : 0 ≤ ((ji25) : Int) := of_decide_eq_true (by first | (with_reducible assumption) | assumption)
                                        have q158 : (ji25) < (x9_2.length : Int) := of_decide_eq_true (by first | (with_reducible assumption) | assumption)
                                        obtain ⟨ad158, e158, hx158_0⟩ := Kd.at_int (Kd.R_reads' HO_9.out).2.2 (ji25) p158 q158
                                        cases e158
                                        replace p158 := eq_true p158
                                        replace q158 := eq_true q158
                                        refine start_ (n := 21) (S := fun w' => w'.cell? (ad152.add ((ji22)).toNat) = some (.slice (some ad157) (rd_L5 x7_1 (ji22)).length c156_0) ∧ w'.cell? (ad157.add (x10_2).toNat) = some (.int .i64 (rd (rd_L5 x7_1 (ji22)) x10_2)) ∧ w'.cell? (ad158.add ((ji25)).toNat) = some (.int .i64 (rd x9_2 (ji25)))) (ds := [18, 19]) #[false, false, false, false, false, false, false, false, false, false, false, false, false, false, false, false, false, false, false, false, false] (by kernel_rfl) rfl rfl ⟨hx156_0, hx157_0, hx158_0⟩ (fun hHeld => ?_); refine with_tabW spec_Distance.tab13 spec_Distance.bits13 (fun HT_ HW_ => ?_)
                                        generalize w39.drew = w40 at HO_5 HO_6 HO_7 HO_9 HL152_0 HR152_0 HB HL156_0 HR156_0 hx156_0 hx157_0 hx158_0 hHeld ⊢
                                        refine pure_ (i := 0) (N := some 52) (v := ?_) (a' := ?_) #[true, false, false, false, false, false, false, false, false, false, false, false, false, false, false, false, false, false, false, false, false] rfl rfl (any_of HT_.out (by kernel_rfl)) (fun _ _ _ h => h) (Or.inl ⟨by rfl, ?_⟩) ?_ ?_
                                        rotate_left
                                        · intro w'
                                          go_simp
                                          with_reducible rfl
                                        rotate_left
                                        · simp only [Act.put, List.setIfInBounds_toArray, List.set_cons_zero, List.set_cons_succ, i64_w, i32_w]
                                          rfl
                                        refine pure_ (i := 1) (N := some 53) (v := ?_) (a' := ?_) #[true, true, false, false, false, false, false, false, false, false, false, false, false, false, false, false, false, false, false, false, false] rfl rfl (any_of HT_.out (by kernel_rfl)) (fun _ _ _ h => h) (Or.inl ⟨by rfl, ?_⟩) ?_ ?_
                                        rotate_left
                                        · intro w'
                                          go_simp
                                          with_reducible rfl
                                        rotate_left
                                        · simp only [Act.put, List.setIfInBounds_toArray, List.set_cons_zero, List.set_cons_succ, i64_w, i32_w]
                                          rfl
                                        refine pure_ (i := 2) (N := some 54) (v := ?_) (a' := ?_) #[true, true, true, false, false, false, false, false, false, false, false, false, false, false, false, false, false, false, false, false, false] rfl rfl (any_of HT_.out (by kernel_rfl)) (fun _ _ _ h => h) (Or.inl ⟨by rfl, ?_⟩) ?_ ?_
                                        rotate_left
                                        · intro w'
                                          go_simp
                                          with_reducible rfl
                                        rotate_left
                                        · simp only [Act.put, List.setIfInBounds_toArray, List.set_cons_zero, List.set_cons_succ, i64_w, i32_w]
                                          rfl
                                        refine pure_ (i := 3) (N := some 55) (v := ?_) (a' := ?_) #[true, true, true, true, false, false, false, false, false, false, false, false, false, false, false, false, false, false, false, false, false] rfl rfl (any_of HT_.out (by kernel_rfl)) (fun _ _ _ h => h) (Or.inl ⟨by rfl, ?_⟩) ?_ ?_
                                        rotate_left
                                        · intro w'
                                          go_simp
                                          with_reducible rfl
                                        rotate_left
                                        · simp only [Act.put, List.setIfInBounds_toArray, List.set_cons_zero, List.set_cons_succ, i64_w, i32_w]
                                          rfl
                                        refine pure_ (i := 4) (N := some 56) (v := ?_) (a' := ?_) #[true, true, true, true, true, false, false, false, false, false, false, false, false, false, false, false, false, false, false, false, false] rfl rfl (any_of HT_.out (by kernel_rfl)) (fun _ _ _ h => h) (Or.inl ⟨by rfl, ?_⟩) ?_ ?_
                                        rotate_left
                                        · intro w'
                                          go_simp
                                          with_reducible rfl
                                        rotate_left
                                        · simp only [Act.put, List.setIfInBounds_toArray, List.set_cons_zero, List.set_cons_succ, i64_w, i32_w]
                                          rfl
                                        refine pure_ (i := 5) (N := some 57) (v := ?_) (a' := ?_) #[true, true, true, true, true, true, false, false, false, false, false, false, false, false, false, false, false, false, false, false, false] rfl rfl (any_of HT_.out (by kernel_rfl)) (fun _ _ _ h => h) (Or.inl ⟨by rfl, ?_⟩) ?_ ?_
                                        rotate_left
                                        · intro w'
                                          go_simp
                                          with_reducible rfl
                                        rotate_left
                                        · simp only [Act.put, List.setIfInBounds_toArray, List.set_cons_zero, List.set_cons_succ, i64_w, i32_w]
                                          rfl
                                        refine pure_ (i := 7) (N := some 59) (v := ?_) (a' := ?_) #[true, true, true, true, true, true, false, true, false, false, false, false, false, false, false, false, false, false, false, false, false] rfl rfl (any_of HT_.out (by kernel_rfl)) (fun _ _ _ h => h) (Or.inl ⟨by rfl, ?_⟩) ?_ ?_
                                        rotate_left
                                        · intro w'
                                          go_simp
                                          with_reducible rfl
                                        rotate_left
                                        · simp only [Act.put, List.setIfInBounds_toArray, List.set_cons_zero, List.set_cons_succ, i64_w, i32_w]
                                          rfl
                                        refine pure_ (i := 11) (N := some 63) (v := ?_) (a' := ?_) #[true, true, true, true, true, true, false, true, false, false, false, true, false, false, false, false, false, false, false, false, false] rfl rfl (any_of HT_.out (by kernel_rfl)) (fun _ _ _ h => h) (Or.inl ⟨by rfl, ?_⟩) ?_ ?_
                                        rotate_left
                                        · intro w'
                                          go_simp
                                          with_reducible rfl
                                        rotate_left
                                        · simp only [Act.put, List.setIfInBounds_toArray, List.set_cons_zero, List.set_cons_succ, i64_w, i32_w]
                                          rfl
                                        refine pure_ (i := 12) (N := some 64) (v := ?_) (a' := ?_) #[true, true, true, true, true, true, false, true, false, false, false, true, true, false, false, false, false, false, false, false, false] rfl rfl (any_of HT_.out (by kernel_rfl)) (fun _ _ _ h => h) (Or.inl ⟨by rfl, ?_⟩) ?_ ?_
                                        rotate_left
                                        · intro w'
                                          go_simp
                                          with_reducible rfl
                                        rotate_left
                                        · simp only [Act.put, List.setIfInBounds_toArray, List.set_cons_zero, List.set_cons_succ, i64_w, i32_w]
                                          rfl
                                        refine pure_ (i := 13) (N := some 65) (v := ?_) (a' := ?_) #[true, true, true, true, true, true, false, true, false, false, false, true, true, true, false, false, false, false, false, false, false] rfl rfl (any_of HT_.out (by kernel_rfl)) (fun _ _ _ h => h) (Or.inl ⟨by rfl, ?_⟩) ?_ ?_
                                        rotate_left
                                        · intro w'
                                          go_simp
                                          with_reducible rfl
                                        rotate_left
                                        · simp only [Act.put, List.setIfInBounds_toArray, List.set_cons_zero, List.set_cons_succ, i64_w, i32_w]
                                          rfl
                                        refine pure_ (i := 14) (N := some 66) (v := ?_) (a' := ?_) #[true, true, true, true, true, true, false, true, false, false, false, true, true, true, true, false, false, false, false, false, false] rfl rfl (any_of HT_.out (by kernel_rfl)) (fun _ _ _ h => h) (Or.inl ⟨by rfl, ?_⟩) ?_ ?_
                                        rotate_left
                                        · intro w'
                                          go_simp
                                          with_reducible rfl
                                        rotate_left
                                        · simp only [Act.put, List.setIfInBounds_toArray, List.set_cons_zero, List.set_cons_succ, i64_w, i32_w]
                                          rfl
                                        refine take_ (i := 6) (N := some 58) (v := ?_) (a' := ?_) #[true, true, true, true, true, true, true, true, false, false, false, true, true, true, true, false, false, false, false, false, false] rfl rfl (take_ofW HT_.out HW_.out (by kernel_rfl)) (fun _ _ _ h => h) (Or.inl ⟨by rfl, ?_⟩) hHeld ?_ ?_
                                        rotate_left
                                        · rintro w' ⟨s0, s1, s2⟩
                                          go_simp
                                          with_reducible rfl
                                        rotate_left
                                        · simp only [Act.put, List.setIfInBounds_toArray, List.set_cons_zero, List.set_cons_succ, i64_w, i32_w]
                                          rfl
                                        refine pure_ (i := 8) (N := some 60) (v := ?_) (a' := ?_) #[true, true, true, true, true, true, true, true, true, false, false, true, true, true, true, false, false, false, false, false, false] rfl rfl (any_of HT_.out (by kernel_rfl)) (fun _ _ _ h => h) (Or.inl ⟨by rfl, ?_⟩) ?_ ?_
                                        rotate_left
                                        · intro w'
                                          go_simp
                                          with_reducible rfl
                                        rotate_left
                                        · simp only [Act.put, List.setIfInBounds_toArray, List.set_cons_zero, List.set_cons_succ, i64_w, i32_w]
                                          rfl
                                        refine take_ (i := 9) (N := some 61) (v := ?_) (a' := ?_) #[true, true, true, true, true, true, true, true, true, true, false, true, true, true, true, false, false, false, false, false, false] rfl rfl (take_ofW HT_.out HW_.out (by kernel_rfl)) (fun _ _ _ h => h) (Or.inl ⟨by rfl, ?_⟩) hHeld ?_ ?_
                                        rotate_left
                                        · rintro w' ⟨s0, s1, s2⟩
                                          go_simp
                                          with_reducible rfl
                                        rotate_left
                                        · simp only [Act.put, List.setIfInBounds_toArray, List.set_cons_zero, List.set_cons_succ, i64_w, i32_w]
                                          rfl
                                        refine pure_ (i := 10) (N := some 62) (v := ?_) (a' := ?_) #[true, true, true, true, true, true, true, true, true, true, true, true, true, true, true, false, false, false, false, false, false] rfl rfl (any_of HT_.out (by kernel_rfl)) (fun _ _ _ h => h) (Or.inl ⟨by rfl, ?_⟩) ?_ ?_
                                        rotate_left
                                        · intro w'
                                          go_simp
                                          with_reducible rfl
                                        rotate_left
                                        · simp only [Act.put, List.setIfInBounds_toArray, List.set_cons_zero, List.set_cons_succ, i64_w, i32_w]
                                          rfl
                                        refine take_ (i := 15) (N := some 67) (v := ?_) (a' := ?_) #[true, true, true, true, true, true, true, true, true, true, true, true, true, true, true, true, false, false, false, false, false] rfl rfl (take_ofW HT_.out HW_.out (by kernel_rfl)) (fun _ _ _ h => h) (Or.inl ⟨by rfl, ?_⟩) hHeld ?_ ?_
                                        rotate_left
                                        · rintro w' ⟨s0, s1, s2⟩
                                          go_simp
                                          with_reducible rfl
                                        rotate_left
                                        · simp only [Act.put, List.setIfInBounds_toArray, List.set_cons_zero, List.set_cons_succ, i64_w, i32_w]
                                          rfl
                                        refine pure_ (i := 16) (N := some 68) (v := ?_) (a' := ?_) #[true, true, true, true, true, true, true, true, true, true, true, true, true, true, true, true, true, false, false, false, false] rfl rfl (any_of HT_.out (by kernel_rfl)) (fun _ _ _ h => h) (Or.inl ⟨by rfl, ?_⟩) ?_ ?_
                                        rotate_left
                                        · intro w'
                                          go_simp
                                          with_reducible rfl
                                        rotate_left
                                        · simp only [Act.put, List.setIfInBounds_toArray, List.set_cons_zero, List.set_cons_succ, i64_w, i32_w]
                                          rfl
                                        refine pure_ (i := 17) (N := some 69) (v := ?_) (a' := ?_) #[true, true, true, true, true, true, true, true, true, true, true, true, true, true, true, true, true, true, false, false, false] rfl rfl (any_of HT_.out (by kernel_rfl)) (fun _ _ _ h => h) (Or.inl ⟨by rfl, ?_⟩) ?_ ?_
                                        rotate_left
                                        · intro w'
                                          go_simp
                                          with_reducible rfl
                                        rotate_left
                                        · simp only [Act.put, List.setIfInBounds_toArray, List.set_cons_zero, List.set_cons_succ, i64_w, i32_w]
                                          rfl
                                        refine last_ (i := 18) (N := some 70) #[true, true, true, true, true, true, true, true, true, true, true, true, true, true, true, true, true, true, true, false, false] rfl rfl (one_of HT_.out (by kernel_rfl)) (by decide) (fun K hK => ?_)
                                        refine value_ (w1 := ?_) (v := ?_) (by rfl) rfl ?_ ?_
                                        rotate_left 2
                                        · go_simp
                                          constructor
                                          · rfl
                                          · rfl
                                        refine hK.out _ _ ?_
                                        clear hK K
                                        refine norm_ (a' := ?_) ?_ ?_
                                        rotate_left
                                        · show Act.put _ (some 70) _ = _
                                          simp only [Act.put, List.setIfInBounds_toArray, List.set_cons_zero, List.set_cons_succ, i64_w, i32_w]
                                          rfl
                                        refine last_ (i := 19) (N := some 71) #[true, true, true, true, true, true, true, true, true, true, true, true, true, true, true, true, true, true, true, true, false] rfl rfl (one_of HT_.out (by kernel_rfl)) (by decide) (fun K hK => ?_)
                                        refine Kd.R_append_step (Kd.int .i64) (w0 := w) w.heap.size (by rfl) (.tmp 52) (.tmp 70) 45 3 (.int .i64 0) 8 rfl Tryd.underlying45 info3 rfl (by decide) (by omega) (.slice (some ad158) x9_2.length co41) x9_2 ji35 [.int .i64 ji35] (fun _ => True) (fun _ => False) rfl rfl ?aP (fun _ hk => hk.elim) ?aF ?aO ?aB ?aS ?aL ?_
                                        (case aP => exact rfl)
                                        (case aB => exact (by repeat (first | (with_reducible first | exact HB.out | apply below_alloc | apply pw_below_drewN | apply below_drew1) | exact HB.out)))
                                        (case aF => exact (fun _ _ => trivial))
                                        (case aO => exact (by (with_reducible repeat (first | apply Kd.R_alloc | apply Kd.R_drewN | apply Kd.R_drew)); exact HO_9.out))
                                        (case aS => exact (below_size (by repeat (first | (with_reducible first | exact HB.out | apply below_alloc | apply pw_below_drewN | apply below_drew1) | exact HB.out))))
                                        (case aL => have := LMc36.out; omega)
                                        intro v160 w42 ho hb hg hat
                                        rw [← Ny159.out] at ho
                                        have n0_ := Aside0.mk (Kd.R_over' (by (with_reducible repeat (first | apply Kd.R_alloc | apply Kd.R_drewN | apply Kd.R_drew)); exact HO_5.out) (Kd.R_typed (by (with_reducible repeat (first | apply Kd.R_alloc | apply Kd.R_drewN | apply Kd.R_drew)); exact HO_9.out)) (by decide) hg)
                                        have n1_ := Aside0.mk (Kd.R_over' (by (with_reducible repeat (first | apply Kd.R_alloc | apply Kd.R_drewN | apply Kd.R_drew)); exact HO_6.out) (Kd.R_typed (by (with_reducible repeat (first | apply Kd.R_alloc | apply Kd.R_drewN | apply Kd.R_drew)); exact HO_9.out)) (by decide) hg)
                                        have n2_ := Aside0.mk (Kd.S_after (ok := (fun _ => True)) (by (with_reducible repeat (first | apply Kd.S_alloc | apply Kd.S_drewN | apply Kd.S_drew)); exact Kd.S_mono HO_7.out (fun _ hk => ⟨trivial, hk⟩)) hg hat)
                                        have n3_ := Aside0.mk (Kd.R_after (ok := (fun k_ => some k_ ≠ (.slice (some ad152) x7_1.length co38 : Value).ownBlock)) (by (with_reducible repeat (first | apply Kd.R_alloc | apply Kd.R_drewN | apply Kd.R_drew)); exact Kd.R_mono HL152_0.out (fun _ hk => ⟨hk.2, hk.1⟩)) hg hat)
                                        have n4_ := Aside0.mk (Kd.R_after (ok := (fun k_ => some k_ ≠ (.slice (some ad152) x7_1.length co38 : Value).ownBlock)) (by (with_reducible repeat (first | apply Kd.R_alloc | apply Kd.R_drewN | apply Kd.R_drew)); exact Kd.R_mono HL156_0.out (fun _ hk => ⟨hk.2, hk.1⟩)) hg hat)
                                        have n5_ := Aside0.mk (hb)
                                        have n6_ := Aside0.mk (ho)
                                        clear HO_5
                                        clear HO_6
                                        clear HO_7
                                        clear HL152_0
                                        clear HL156_0
                                        clear HB
                                        clear HO_9
                                        have HO_5 := n0_
                                        have HO_6 := n1_
                                        have HO_7 := n2_
                                        have HL152_0 := n3_
                                        have HL156_0 := n4_
                                        have HB := n5_
                                        have HO161 := n6_
                                        clear n0_ n1_ n2_ n3_ n4_ n5_ n6_
                                        clear ho hb hg hat
                                        refine hK.out _ _ ?_
                                        clear hK K
                                        refine norm_ (a' := ?_) ?_ ?_
                                        rotate_left
                                        · show Act.put _ (some 71) _ = _
                                          simp only [Act.put, List.setIfInBounds_toArray, List.set_cons_zero, List.set_cons_succ, i64_w, i32_w]
                                          rfl
                                        refine pure_ (i := 20) (N := some 9) (v := ?_) (a' := ?_) #[true, true, true, true, true, true, true, true, true, true, true, true, true, true, true, true, true, true, true, true, true] rfl rfl (any_of HT_.out (by kernel_rfl)) (fun _ _ _ h => h) (Or.inl ⟨by rfl, ?_⟩) ?_ ?_
                                        rotate_left
                                        · intro w'
                                          go_simp
                                          with_reducible rfl
                                        rotate_left
                                        · simp only [Act.put, List.setIfInBounds_toArray, List.set_cons_zero, List.set_cons_succ, i64_w, i32_w]
                                          rfl
                                        refine done_ (done_of HT_.out (by kernel_rfl)) ?_
                                        try go_wp2
                                        first | go_roundg k2 | (simp only [← hji35, ← hji34, ← hji25, ← hji22]; go_roundg k2)
                                        case measure => have := HK1.out; have := HK2.out; omega
                                        case rel => exact ⟨(y159), (wrap64 (x10_2 + 1)), (by first | rfl | (simp; done) | (simp [*]; done)), H', ⟨by have := HK1.out; have := HK2.out; omega⟩, ⟨by (with_reducible repeat (first | apply Kd.R_alloc | apply Kd.R_drewN | apply Kd.R_drew)); exact HO_5.out⟩, ⟨by (with_reducible repeat (first | apply Kd.R_alloc | apply Kd.R_drewN | apply Kd.R_drew)); exact HO_6.out⟩, ⟨by (with_reducible repeat (first | apply Kd.S_alloc | apply Kd.S_drewN | apply Kd.S_drew)); exact Kd.S_mono HO_7.out (fun _ hk => hk.2)⟩, ⟨by (with_reducible repeat (first | apply Kd.R_alloc | apply Kd.R_drewN | apply Kd.R_drew)); exact HO161.out⟩, ⟨by repeat (first | (with_reducible first | exact HB.out | apply below_alloc | apply pw_below_drewN | apply below_drew1) | exact HB.out)⟩⟩
                                      · rw [if_neg c36] at H
                                        exact absurd H (by simp)
                                    · rw [if_neg c33] at H
                                      exact absurd H (by simp)
                                  · rw [if_neg c32] at H
                                    exact absurd H (by simp)
                                · rw [if_neg c31] at H
                                  exact absurd H (by simp)
                              · rw [if_neg c30] at H
                                have c30b0 : ((rd t129 (ji22)) == (rd t132 (ji25))) = false := beq_eq_false_iff_ne.mpr c30
                                have c30b1 : ((rd t129 (ji22)) != (rd t132 (ji25))) = true := bne_iff_ne.mpr c30
                                by_cases c43 : 0 ≤ x10_2
                                · rw [if_pos c43] at H
                                  have c43b0 : decide (0 ≤ x10_2) = true := decide_eq_true c43
                                  clear c43
                                  by_cases c44 : x10_2 < ((rd_L5 x7_1 (ji22)).length : Int)
                                  · rw [if_pos c44] at H
                                    have c44b0 : decide (x10_2 < ((rd_L5 x7_1 (ji22)).length : Int)) = true := decide_eq_true c44
                                    clear c44
                                    by_cases c45 : (ji25) < (x9_2.length : Int)
                                    · rw [if_pos c45] at H
                                      have c45b0 : decide ((ji25) < (x9_2.length : Int)) = true := decide_eq_true c45
                                      clear c45
                                      obtain ⟨ji46, hji46⟩ : ∃ j_ : Int, (mn (wrap64 ((rd (rd_L5 x7_1 (ji22)) (ji25)) + 1)) (wrap64 ((rd (rd_L5 x7_1 (ji22)) x10_2) + 1))) = j_ := ⟨_, rfl⟩
                                      replace H : (if x9_2.length < 17592186044416 then (spec_Distance.l1 k2 t129 t132 x7_1 x8_1 (x9_2 ++ [mn (ji46) (wrap64 ((rd x9_2 (ji25)) + 1))]) (wrap64 (x10_2 + 1))) else (none)) = some r := by first | (rw [hji46] at H; exact H) | (simp only [hji46] at H ⊢; exact H)
                                      have hji46_ : (if (wrap64 ((rd (rd_L5 x7_1 (ji22)) x10_2) + 1)) < (wrap64 ((rd (rd_L5 x7_1 (ji22)) (ji25)) + 1)) then (wrap64 ((rd (rd_L5 x7_1 (ji22)) x10_2) + 1)) else (wrap64 ((rd (rd_L5 x7_1 (ji22)) (ji25)) + 1))) = ji46 := hji46
                                      obtain ⟨ji47, hji47⟩ : ∃ j_ : Int, (mn (ji46) (wrap64 ((rd x9_2 (ji25)) + 1))) = j_ := ⟨_, rfl⟩
                                      replace H : (if x9_2.length < 17592186044416 then (spec_Distance.l1 k2 t129 t132 x7_1 x8_1 (x9_2 ++ [ji47]) (wrap64 (x10_2 + 1))) else (none)) = some r := by first | (rw [hji47] at H; exact H) | (simp only [hji47] at H ⊢; exact H)
                                      have hji47_ : (if (wrap64 ((rd x9_2 (ji25)) + 1)) < (ji46) then (wrap64 ((rd x9_2 (ji25)) + 1)) else (ji46)) = ji47 := hji47
                                      by_cases c48 : x9_2.length < 17592186044416
                                      · rw [if_pos c48] at H
                                        have LMc48 := Aside0.mk c48
                                        clear c48
                                        obtain ⟨y165, hy165⟩ : ∃ y_ : List Int, y_ = (x9_2 ++ [ji47]) := ⟨_, rfl⟩
                                        replace H : (spec_Distance.l1 k2 t129 t132 x7_1 x8_1 y165 (wrap64 (x10_2 + 1))) = some r := by first | (rw [hy165]; with_reducible exact H) | (have H2_ := (Option.bind_some _ _).symm.trans H; rw [hy165]; with_reducible exact H2_) | (have H2_ := (Option.bind_some _ _).symm.trans H; with_reducible exact H2_) | with_reducible exact H | (rw [hy165]; exact H) | exact H
                                        have Ny165 := Aside0.mk hy165
                                        clear hy165
                                        have H' := Aside0.mk H
                                        clear H
                                        obtain ⟨Ao49, co49, eo49⟩ := Kd.R_slice HO_6.out
                                        subst eo49
                                        obtain ⟨Ao50, co50, eo50⟩ := Kd.S_slice HO_7.out
                                        subst eo50
                                        have p152 : 0 ≤ ((ji22) : Int) := of_decide_eq_true (by first | (with_reducible assumption) | assumption)
                                        have q152 : (ji22) < (x7_1.length : Int) := of_decide_eq_true (by first | (with_reducible assumption) | assumption)
                                        obtain ⟨ad152, A152_0, c152_0, e152, hx152_0, hl152_0, hi152_0⟩ := at_L5 (Kd.S_reads' HO_7.out).2.2 (ji22) p152 q152
                                        cases e152
                                        obtain ⟨ce152, hce152, hMe152, hcc152⟩ := Kd.S_get HO_7.out [] (ji22) p152 (by first | exact q152 | exact of_decide_eq_true (by first | (with_reducible assumption) | assumption) | (have e_ := (Kd.S_reads' HO_7.out).1; omega))
                                        obtain ⟨ve152_0, rfl, ge152_0⟩ := hMe152
                                        have hv152_0 := hcc152 0 _ rfl
                                        rw [Nat.add_zero, show ((Kd.slice 3 (Kd.int .i64))).sz = 1 from rfl, Nat.mul_one] at hv152_0
                                        replace hv152_0 := Option.some.inj (hv152_0.symm.trans hx152_0)
                                        rw [hv152_0] at ge152_0
                                        have HL152_0 := Aside0.mk (show Kd.R (Kd.int .i64) 3 _ _ _ _ (rd_L5 x7_1 (ji22)) from ge152_0)
                                        clear hv152_0 ge152_0
                                        clear hcc152 hce152
                                        have HR152_0 := Aside0.mk hi152_0
                                        have HC152_0 := Aside0.mk hl152_0
                                        clear hi152_0 hl152_0
                                        replace p152 := eq_true p152
                                        replace q152 := eq_true q152
                                        have p153 : 0 ≤ ((ji25) : Int) := of_decide_eq_true (by first | (with_reducible assumption) | assumption)
                                        have q153 : (ji25) < ((rd_L5 x7_1 (ji22)).length : Int) := of_decide_eq_true (by first | (with_reducible assumption) | assumption)
                                        obtain ⟨ad153, e153, hx153_0⟩ := Kd.at_int (by repeat (first | (with_reducible exact HR152_0.out) | (with_reducible refine Kd.C_alloc ?_ _) | (with_reducible refine Kd.C_drewN ?_ _) | (with_reducible refine Kd.C_drew ?_) | exact HR152_0.out)) (ji25) p153 q153
                                        cases e153
                                        replace p153 := eq_true p153
                                        replace q153 := eq_true q153
                                        try go_wp2
                                        have n0_ := Aside0.mk (Kd.R_drew HO_5.out)
                                        have n1_ := Aside0.mk (Kd.R_drew HO_6.out)
                                        have n2_ := Aside0.mk (Kd.S_drew HO_7.out)
                                        have n3_ := Aside0.mk (Kd.R_drew HO_9.out)
                                        have n4_ := Aside0.mk (Kd.R_drew HL152_0.out)
                                        have n5_ := Aside0.mk (Kd.C_drew HR152_0.out)
                                        have n6_ := Aside0.mk (below_drew1 HB.out)
                                        clear HO_5
                                        clear HO_6
                                        clear HO_7
                                        clear HO_9
                                        clear HL152_0
                                        clear HR152_0
                                        clear HB
                                        have HO_5 := n0_
                                        have HO_6 := n1_
                                        have HO_7 := n2_
                                        have HO_9 := n3_
                                        have HL152_0 := n4_
                                        have HR152_0 := n5_
                                        have HB := n6_
                                        clear n0_ n1_ n2_ n3_ n4_ n5_ n6_
                                        have p154 : 0 ≤ ((ji22) : Int) := of_decide_eq_true (by first | (with_reducible assumption) | assumption)
                                        have q154 : (ji22) < (t129.length : Int) := of_decide_eq_true (by first | (with_reducible assumption) | assumption)
                                        obtain ⟨ad154, e154, hx154_0⟩ := Kd.at_int (Kd.R_reads' HO_5.out).2.2 (ji22) p154 q154
                                        cases e154
                                        replace p154 := eq_true p154
                                        replace q154 := eq_true q154
                                        have p155 : 0 ≤ ((ji25) : Int) := of_decide_eq_true (by first | (with_reducible assumption) | assumption)
                                        have q155 : (ji25) < (t132.length : Int) := of_decide_eq_true (by first | (with_reducible assumption) | assumption)
                                        obtain ⟨ad155, e155, hx155_0⟩ := Kd.at_int (Kd.R_reads' HO_6.out).2.2 (ji25) p155 q155
                                        cases e155
                                        replace p155 := eq_true p155
                                        replace q155 := eq_true q155
                                        refine start_ (n := 11) (S := fun w' => w'.cell? (ad154.add ((ji22)).toNat) = some (.int .i32 (rd t129 (ji22))) ∧ w'.cell? (ad155.add ((ji25)).toNat) = some (.int .i32 (rd t132 (ji25)))) (ds := []) #[false, false, false, false, false, false, false, false, false, false, false] (by kernel_rfl) rfl rfl ⟨hx154_0, hx155_0⟩ (fun hHeld => ?_); refine with_tabW spec_Distance.tab11 spec_Distance.bits11 (fun HT_ HW_ => ?_)
                                        generalize wr.drew = w51 at HO_5 HO_6 HO_7 HO_9 HL152_0 HR152_0 HB hx154_0 hx155_0 hHeld ⊢
                                        refine pure_ (i := 0) (N := some 39) (v := ?_) (a' := ?_) #[true, false, false, false, false, false, false, false, false, false, false] rfl rfl (any_of HT_.out (by kernel_rfl)) (fun _ _ _ h => h) (Or.inl ⟨by rfl, ?_⟩) ?_ ?_
                                        rotate_left
                                        · intro w'
                                          go_simp
                                          with_reducible rfl
                                        rotate_left
                                        · simp only [Act.put, List.setIfInBounds_toArray, List.set_cons_zero, List.set_cons_succ, i64_w, i32_w]
                                          rfl
                                        refine pure_ (i := 1) (N := some 40) (v := ?_) (a' := ?_) #[true, true, false, false, false, false, false, false, false, false, false] rfl rfl (any_of HT_.out (by kernel_rfl)) (fun _ _ _ h => h) (Or.inl ⟨by rfl, ?_⟩) ?_ ?_
                                        rotate_left
                                        · intro w'
                                          go_simp
                                          with_reducible rfl
                                        rotate_left
                                        · simp only [Act.put, List.setIfInBounds_toArray, List.set_cons_zero, List.set_cons_succ, i64_w, i32_w]
                                          rfl
                                        refine pure_ (i := 2) (N := some 41) (v := ?_) (a' := ?_) #[true, true, true, false, false, false, false, false, false, false, false] rfl rfl (any_of HT_.out (by kernel_rfl)) (fun _ _ _ h => h) (Or.inl ⟨by rfl, ?_⟩) ?_ ?_
                                        rotate_left
                                        · intro w'
                                          go_simp
                                          with_reducible rfl
                                        rotate_left
                                        · simp only [Act.put, List.setIfInBounds_toArray, List.set_cons_zero, List.set_cons_succ, i64_w, i32_w]
                                          rfl
                                        refine pure_ (i := 3) (N := some 42) (v := ?_) (a' := ?_) #[true, true, true, true, false, false, false, false, false, false, false] rfl rfl (any_of HT_.out (by kernel_rfl)) (fun _ _ _ h => h) (Or.inl ⟨by rfl, ?_⟩) ?_ ?_
                                        rotate_left
                                        · intro w'
                                          go_simp
                                          with_reducible rfl
                                        rotate_left
                                        · simp only [Act.put, List.setIfInBounds_toArray, List.set_cons_zero, List.set_cons_succ, i64_w, i32_w]
                                          rfl
                                        refine pure_ (i := 5) (N := some 44) (v := ?_) (a' := ?_) #[true, true, true, true, false, true, false, false, false, false, false] rfl rfl (any_of HT_.out (by kernel_rfl)) (fun _ _ _ h => h) (Or.inl ⟨by rfl, ?_⟩) ?_ ?_
                                        rotate_left
                                        · intro w'
                                          go_simp
                                          with_reducible rfl
                                        rotate_left
                                        · simp only [Act.put, List.setIfInBounds_toArray, List.set_cons_zero, List.set_cons_succ, i64_w, i32_w]
                                          rfl
                                        refine pure_ (i := 6) (N := some 45) (v := ?_) (a' := ?_) #[true, true, true, true, false, true, true, false, false, false, false] rfl rfl (any_of HT_.out (by kernel_rfl)) (fun _ _ _ h => h) (Or.inl ⟨by rfl, ?_⟩) ?_ ?_
                                        rotate_left
                                        · intro w'
                                          go_simp
                                          with_reducible rfl
                                        rotate_left
                                        · simp only [Act.put, List.setIfInBounds_toArray, List.set_cons_zero, List.set_cons_succ, i64_w, i32_w]
                                          rfl
                                        refine pure_ (i := 7) (N := some 46) (v := ?_) (a' := ?_) #[true, true, true, true, false, true, true, true, false, false, false] rfl rfl (any_of HT_.out (by kernel_rfl)) (fun _ _ _ h => h) (Or.inl ⟨by rfl, ?_⟩) ?_ ?_
                                        rotate_left
                                        · intro w'
                                          go_simp
                                          with_reducible rfl
                                        rotate_left
                                        · simp only [Act.put, List.setIfInBounds_toArray, List.set_cons_zero, List.set_cons_succ, i64_w, i32_w]
                                          rfl
                                        refine pure_ (i := 8) (N := some 47) (v := ?_) (a' := ?_) #[true, true, true, true, false, true, true, true, true, false, false] rfl rfl (any_of HT_.out (by kernel_rfl)) (fun _ _ _ h => h) (Or.inl ⟨by rfl, ?_⟩) ?_ ?_
                                        rotate_left
                                        · intro w'
                                          go_simp
                                          with_reducible rfl
                                        rotate_left
                                        · simp only [Act.put, List.setIfInBounds_toArray, List.set_cons_zero, List.set_cons_succ, i64_w, i32_w]
                                          rfl
                                        refine take_ (i := 4) (N := some 43) (v := ?_) (a' := ?_) #[true, true, true, true, true, true, true, true, true, false, false] rfl rfl (take_ofW HT_.out HW_.out (by kernel_rfl)) (fun _ _ _ h => h) (Or.inl ⟨by rfl, ?_⟩) hHeld ?_ ?_
                                        rotate_left
                                        · rintro w' ⟨s0, s1⟩
                                          go_simp
                                          with_reducible rfl
                                        rotate_left
                                        · simp only [Act.put, List.setIfInBounds_toArray, List.set_cons_zero, List.set_cons_succ, i64_w, i32_w]
                                          rfl
                                        refine take_ (i := 9) (N := some 48) (v := ?_) (a' := ?_) #[true, true, true, true, true, true, true, true, true, true, false] rfl rfl (take_ofW HT_.out HW_.out (by kernel_rfl)) (fun _ _ _ h => h) (Or.inl ⟨by rfl, ?_⟩) hHeld ?_ ?_
                                        rotate_left
                                        · rintro w' ⟨s0, s1⟩
                                          go_simp
                                          with_reducible rfl
                                        rotate_left
                                        · simp only [Act.put, List.setIfInBounds_toArray, List.set_cons_zero, List.set_cons_succ, i64_w, i32_w]
                                          rfl
                                        refine pure_ (i := 10) (N := some 49) (v := ?_) (a' := ?_) #[true, true, true, true, true, true, true, true, true, true, true] rfl rfl (any_of HT_.out (by kernel_rfl)) (fun _ _ _ h => h) (Or.inl ⟨by rfl, ?_⟩) ?_ ?_
                                        rotate_left
                                        · intro w'
                                          go_simp
                                          with_reducible rfl
                                        rotate_left
                                        · simp only [Act.put, List.setIfInBounds_toArray, List.set_cons_zero, List.set_cons_succ, i64_w, i32_w]
                                          rfl
                                        refine done_ (done_of HT_.out (by kernel_rfl)) ?_
                                        try go_wp2
                                        have n0_ := Aside0.mk (Kd.R_drew HO_5.out)
                                        have n1_ := Aside0.mk (Kd.R_drew HO_6.out)
                                        have n2_ := Aside0.mk (Kd.S_drew HO_7.out)
                                        have n3_ := Aside0.mk (Kd.R_drew HO_9.out)
                                        have n4_ := Aside0.mk (Kd.R_drew HL152_0.out)
                                        have n5_ := Aside0.mk (Kd.C_drew HR152_0.out)
                                        have n6_ := Aside0.mk (below_drew1 HB.out)
                                        clear HO_5
                                        clear HO_6
                                        clear HO_7
                                        clear HO_9
                                        clear HL152_0
                                        clear HR152_0
                                        clear HB
                                        have HO_5 := n0_
                                        have HO_6 := n1_
                                        have HO_7 := n2_
                                        have HO_9 := n3_
                                        have HL152_0 := n4_
                                        have HR152_0 := n5_
                                        have HB := n6_
                                        clear n0_ n1_ n2_ n3_ n4_ n5_ n6_
                                        have p162 : 0 ≤ ((ji22) : Int) := of_decide_eq_true (by first | (with_reducible assumption) | assumption)
                                        have q162 : (ji22) < (x7_1.length : Int) := of_decide_eq_true (by first | (with_reducible assumption) | assumption)
                                        obtain ⟨ad162, A162_0, c162_0, e162, hx162_0, hl162_0, hi162_0⟩ := at_L5 (Kd.S_reads' HO_7.out).2.2 (ji22) p162 q162
                                        obtain rfl : ad152 = ad162 := (by injection e162)
                                        obtain ⟨ce162, hce162, hMe162, hcc162⟩ := Kd.S_get HO_7.out [] (ji22) p162 (by first | exact q162 | exact of_decide_eq_true (by first | (with_reducible assumption) | assumption) | (have e_ := (Kd.S_reads' HO_7.out).1; omega))
                                        obtain ⟨ve162_0, rfl, ge162_0⟩ := hMe162
                                        have hv162_0 := hcc162 0 _ rfl
                                        rw [Nat.add_zero, show ((Kd.slice 3 (Kd.int .i64))).sz = 1 from rfl, Nat.mul_one] at hv162_0
                                        replace hv162_0 := Option.some.inj (hv162_0.symm.trans hx162_0)
                                        rw [hv162_0] at ge162_0
                                        have HL162_0 := Aside0.mk (show Kd.R (Kd.int .i64) 3 _ _ _ _ (rd_L5 x7_1 (ji22)) from ge162_0)
                                        clear hv162_0 ge162_0
                                        clear hcc162 hce162
                                        have HR162_0 := Aside0.mk hi162_0
                                        have HC162_0 := Aside0.mk hl162_0
                                        clear hi162_0 hl162_0
                                        replace p162 := eq_true p162
                                        replace q162 := eq_true q162
                                        have p163 : 0 ≤ (x10_2 : Int) := of_decide_eq_true (by first | (with_reducible assumption) | assumption)
                                        have q163 : x10_2 < ((rd_L5 x7_1 (ji22)).length : Int) := of_decide_eq_true (by first | (with_reducible assumption) | assumption)
                                        obtain ⟨ad163, e163, hx163_0⟩ := Kd.at_int (by repeat (first | (with_reducible exact HR162_0.out) | (with_reducible refine Kd.C_alloc ?_ _) | (with_reducible refine Kd.C_drewN ?_ _) | (with_reducible refine Kd.C_drew ?_) | exact HR162_0.out)) x10_2 p163 q163
                                        cases e163
                                        replace p163 := eq_true p163
                                        replace q163 := eq_true q163
                                        obtain ⟨Ao53, co53, eo53⟩ := Kd.R_slice HO_9.out
                                        (first | subst eo53 | (injection eo53 with f1_ f2_ f3_; have f4_ := f1_.symm; have f5_ := f3_.symm; clear f1_ f2_ f3_; subst f4_; subst f5_))
                                        have p164 : 0 ≤ ((ji25) : Int) := of_decide_eq_true (by first | (with_reducible assumption) | assumption)
                                        have q164 : (ji25) < (x9_2.length : Int) := of_decide_eq_true (by first | (with_reducible assumption) | assumption)
                                        obtain ⟨ad164, e164, hx164_0⟩ := Kd.at_int (Kd.R_reads' HO_9.out).2.2 (ji25) p164 q164
                                        cases e164
                                        replace p164 := eq_true p164
                                        replace q164 := eq_true q164
                                        refine start_ (n := 21) (S := fun w' => w'.cell? (ad152.add ((ji22)).toNat) = some (.slice (some ad163) (rd_L5 x7_1 (ji22)).length c162_0) ∧ w'.cell? (ad163.add (x10_2).toNat) = some (.int .i64 (rd (rd_L5 x7_1 (ji22)) x10_2)) ∧ w'.cell? (ad164.add ((ji25)).toNat) = some (.int .i64 (rd x9_2 (ji25)))) (ds := [18, 19]) #[false, false, false, false, false, false, false, false, false, false, false, false, false, false, false, false, false, false, false, false, false] (by kernel_rfl) rfl rfl ⟨hx162_0, hx163_0, hx164_0⟩ (fun hHeld => ?_); refine with_tabW spec_Distance.tab13 spec_Distance.bits13 (fun HT_ HW_ => ?_)
                                        generalize w51.drew = w52 at HO_5 HO_6 HO_7 HO_9 HL152_0 HR152_0 HB HL162_0 HR162_0 hx162_0 hx163_0 hx164_0 hHeld ⊢
                                        refine pure_ (i := 0) (N := some 52) (v := ?_) (a' := ?_) #[true, false, false, false, false, false, false, false, false, false, false, false, false, false, false, false, false, false, false, false, false] rfl rfl (any_of HT_.out (by kernel_rfl)) (fun _ _ _ h => h) (Or.inl ⟨by rfl, ?_⟩) ?_ ?_
                                        rotate_left
                                        · intro w'
                                          go_simp
                                          with_reducible rfl
                                        rotate_left
                                        · simp only [Act.put, List.setIfInBounds_toArray, List.set_cons_zero, List.set_cons_succ, i64_w, i32_w]
                                          rfl
                                        refine pure_ (i := 1) (N := some 53) (v := ?_) (a' := ?_) #[true, true, false, false, false, false, false, false, false, false, false, false, false, false, false, false, false, false, false, false, false] rfl rfl (any_of HT_.out (by kernel_rfl)) (fun _ _ _ h => h) (Or.inl ⟨by rfl, ?_⟩) ?_ ?_
                                        rotate_left
                                        · intro w'
                                          go_simp
                                          with_reducible rfl
                                        rotate_left
                                        · simp only [Act.put, List.setIfInBounds_toArray, List.set_cons_zero, List.set_cons_succ, i64_w, i32_w]
                                          rfl
                                        refine pure_ (i := 2) (N := some 54) (v := ?_) (a' := ?_) #[true, true, true, false, false, false, false, false, false, false, false, false, false, false, false, false, false, false, false, false, false] rfl rfl (any_of HT_.out (by kernel_rfl)) (fun _ _ _ h => h) (Or.inl ⟨by rfl, ?_⟩) ?_ ?_
                                        rotate_left
                                        · intro w'
                                          go_simp
                                          with_reducible rfl
                                        rotate_left
                                        · simp only [Act.put, List.setIfInBounds_toArray, List.set_cons_zero, List.set_cons_succ, i64_w, i32_w]
                                          rfl
                                        refine pure_ (i := 3) (N := some 55) (v := ?_) (a' := ?_) #[true, true, true, true, false, false, false, false, false, false, false, false, false, false, false, false, false, false, false, false, false] rfl rfl (any_of HT_.out (by kernel_rfl)) (fun _ _ _ h => h) (Or.inl ⟨by rfl, ?_⟩) ?_ ?_
                                        rotate_left
                                        · intro w'
                                          go_simp
                                          with_reducible rfl
                                        rotate_left
                                        · simp only [Act.put, List.setIfInBounds_toArray, List.set_cons_zero, List.set_cons_succ, i64_w, i32_w]
                                          rfl
                                        refine pure_ (i := 4) (N := some 56) (v := ?_) (a' := ?_) #[true, true, true, true, true, false, false, false, false, false, false, false, false, false, false, false, false, false, false, false, false] rfl rfl (any_of HT_.out (by kernel_rfl)) (fun _ _ _ h => h) (Or.inl ⟨by rfl, ?_⟩) ?_ ?_
                                        rotate_left
                                        · intro w'
                                          go_simp
                                          with_reducible rfl
                                        rotate_left
                                        · simp only [Act.put, List.setIfInBounds_toArray, List.set_cons_zero, List.set_cons_succ, i64_w, i32_w]
                                          rfl
                                        refine pure_ (i := 5) (N := some 57) (v := ?_) (a' := ?_) #[true, true, true, true, true, true, false, false, false, false, false, false, false, false, false, false, false, false, false, false, false] rfl rfl (any_of HT_.out (by kernel_rfl)) (fun _ _ _ h => h) (Or.inl ⟨by rfl, ?_⟩) ?_ ?_
                                        rotate_left
                                        · intro w'
                                          go_simp
                                          with_reducible rfl
                                        rotate_left
                                        · simp only [Act.put, List.setIfInBounds_toArray, List.set_cons_zero, List.set_cons_succ, i64_w, i32_w]
                                          rfl
                                        refine pure_ (i := 7) (N := some 59) (v := ?_) (a' := ?_) #[true, true, true, true, true, true, false, true, false, false, false, false, false, false, false, false, false, false, false, false, false] rfl rfl (any_of HT_.out (by kernel_rfl)) (fun _ _ _ h => h) (Or.inl ⟨by rfl, ?_⟩) ?_ ?_
                                        rotate_left
                                        · intro w'
                                          go_simp
                                          with_reducible rfl
                                        rotate_left
                                        · simp only [Act.put, List.setIfInBounds_toArray, List.set_cons_zero, List.set_cons_succ, i64_w, i32_w]
                                          rfl
                                        refine pure_ (i := 11) (N := some 63) (v := ?_) (a' := ?_) #[true, true, true, true, true, true, false, true, false, false, false, true, false, false, false, false, false, false, false, false, false] rfl rfl (any_of HT_.out (by kernel_rfl)) (fun _ _ _ h => h) (Or.inl ⟨by rfl, ?_⟩) ?_ ?_
                                        rotate_left
                                        · intro w'
                                          go_simp
                                          with_reducible rfl
                                        rotate_left
                                        · simp only [Act.put, List.setIfInBounds_toArray, List.set_cons_zero, List.set_cons_succ, i64_w, i32_w]
                                          rfl
                                        refine pure_ (i := 12) (N := some 64) (v := ?_) (a' := ?_) #[true, true, true, true, true, true, false, true, false, false, false, true, true, false, false, false, false, false, false, false, false] rfl rfl (any_of HT_.out (by kernel_rfl)) (fun _ _ _ h => h) (Or.inl ⟨by rfl, ?_⟩) ?_ ?_
                                        rotate_left
                                        · intro w'
                                          go_simp
                                          with_reducible rfl
                                        rotate_left
                                        · simp only [Act.put, List.setIfInBounds_toArray, List.set_cons_zero, List.set_cons_succ, i64_w, i32_w]
                                          rfl
                                        refine pure_ (i := 13) (N := some 65) (v := ?_) (a' := ?_) #[true, true, true, true, true, true, false, true, false, false, false, true, true, true, false, false, false, false, false, false, false] rfl rfl (any_of HT_.out (by kernel_rfl)) (fun _ _ _ h => h) (Or.inl ⟨by rfl, ?_⟩) ?_ ?_
                                        rotate_left
                                        · intro w'
                                          go_simp
                                          with_reducible rfl
                                        rotate_left
                                        · simp only [Act.put, List.setIfInBounds_toArray, List.set_cons_zero, List.set_cons_succ, i64_w, i32_w]
                                          rfl
                                        refine pure_ (i := 14) (N := some 66) (v := ?_) (a' := ?_) #[true, true, true, true, true, true, false, true, false, false, false, true, true, true, true, false, false, false, false, false, false] rfl rfl (any_of HT_.out (by kernel_rfl)) (fun _ _ _ h => h) (Or.inl ⟨by rfl, ?_⟩) ?_ ?_
                                        rotate_left
                                        · intro w'
                                          go_simp
                                          with_reducible rfl
                                        rotate_left
                                        · simp only [Act.put, List.setIfInBounds_toArray, List.set_cons_zero, List.set_cons_succ, i64_w, i32_w]
                                          rfl
                                        refine take_ (i := 6) (N := some 58) (v := ?_) (a' := ?_) #[true, true, true, true, true, true, true, true, false, false, false, true, true, true, true, false, false, false, false, false, false] rfl rfl (take_ofW HT_.out HW_.out (by kernel_rfl)) (fun _ _ _ h => h) (Or.inl ⟨by rfl, ?_⟩) hHeld ?_ ?_
                                        rotate_left
                                        · rintro w' ⟨s0, s1, s2⟩
                                          go_simp
                                          with_reducible rfl
                                        rotate_left
                                        · simp only [Act.put, List.setIfInBounds_toArray, List.set_cons_zero, List.set_cons_succ, i64_w, i32_w]
                                          rfl
                                        refine pure_ (i := 8) (N := some 60) (v := ?_) (a' := ?_) #[true, true, true, true, true, true, true, true, true, false, false, true, true, true, true, false, false, false, false, false, false] rfl rfl (any_of HT_.out (by kernel_rfl)) (fun _ _ _ h => h) (Or.inl ⟨by rfl, ?_⟩) ?_ ?_
                                        rotate_left
                                        · intro w'
                                          go_simp
                                          with_reducible rfl
                                        rotate_left
                                        · simp only [Act.put, List.setIfInBounds_toArray, List.set_cons_zero, List.set_cons_succ, i64_w, i32_w]
                                          rfl
                                        refine take_ (i := 9) (N := some 61) (v := ?_) (a' := ?_) #[true, true, true, true, true, true, true, true, true, true, false, true, true, true, true, false, false, false, false, false, false] rfl rfl (take_ofW HT_.out HW_.out (by kernel_rfl)) (fun _ _ _ h => h) (Or.inl ⟨by rfl, ?_⟩) hHeld ?_ ?_
                                        rotate_left
                                        · rintro w' ⟨s0, s1, s2⟩
                                          go_simp
                                          with_reducible rfl
                                        rotate_left
                                        · simp only [Act.put, List.setIfInBounds_toArray, List.set_cons_zero, List.set_cons_succ, i64_w, i32_w]
                                          rfl
                                        refine pure_ (i := 10) (N := some 62) (v := ?_) (a' := ?_) #[true, true, true, true, true, true, true, true, true, true, true, true, true, true, true, false, false, false, false, false, false] rfl rfl (any_of HT_.out (by kernel_rfl)) (fun _ _ _ h => h) (Or.inl ⟨by rfl, ?_⟩) ?_ ?_
                                        rotate_left
                                        · intro w'
                                          go_simp
                                          with_reducible rfl
                                        rotate_left
                                        · simp only [Act.put, List.setIfInBounds_toArray, List.set_cons_zero, List.set_cons_succ, i64_w, i32_w]
                                          rfl
                                        refine take_ (i := 15) (N := some 67) (v := ?_) (a' := ?_) #[true, true, true, true, true, true, true, true, true, true, true, true, true, true, true, true, false, false, false, false, false] rfl rfl (take_ofW HT_.out HW_.out (by kernel_rfl)) (fun _ _ _ h => h) (Or.inl ⟨by rfl, ?_⟩) hHeld ?_ ?_
                                        rotate_left
                                        · rintro w' ⟨s0, s1, s2⟩
                                          go_simp
                                          with_reducible rfl
                                        rotate_left
                                        · simp only [Act.put, List.setIfInBounds_toArray, List.set_cons_zero, List.set_cons_succ, i64_w, i32_w]
                                          rfl
                                        refine pure_ (i := 16) (N := some 68) (v := ?_) (a' := ?_) #[true, true, true, true, true, true, true, true, true, true, true, true, true, true, true, true, true, false, false, false, false] rfl rfl (any_of HT_.out (by kernel_rfl)) (fun _ _ _ h => h) (Or.inl ⟨by rfl, ?_⟩) ?_ ?_
                                        rotate_left
                                        · intro w'
                                          go_simp
                                          with_reducible rfl
                                        rotate_left
                                        · simp only [Act.put, List.setIfInBounds_toArray, List.set_cons_zero, List.set_cons_succ, i64_w, i32_w]
                                          rfl
                                        refine pure_ (i := 17) (N := some 69) (v := ?_) (a' := ?_) #[true, true, true, true, true, true, true, true, true, true, true, true, true, true, true, true, true, true, false, false, false] rfl rfl (any_of HT_.out (by kernel_rfl)) (fun _ _ _ h => h) (Or.inl ⟨by rfl, ?_⟩) ?_ ?_
                                        rotate_left
                                        · intro w'
                                          go_simp
                                          with_reducible rfl
                                        rotate_left
                                        · simp only [Act.put, List.setIfInBounds_toArray, List.set_cons_zero, List.set_cons_succ, i64_w, i32_w]
                                          rfl
                                        refine last_ (i := 18) (N := some 70) #[true, true, true, true, true, true, true, true, true, true, true, true, true, true, true, true, true, true, true, false, false] rfl rfl (one_of HT_.out (by kernel_rfl)) (by decide) (fun K hK => ?_)
                                        refine value_ (w1 := ?_) (v := ?_) (by rfl) rfl ?_ ?_
                                        rotate_left 2
                                        · go_simp
                                          constructor
                                          · rfl
                                          · rfl
                                        refine hK.out _ _ ?_
                                        clear hK K
                                        refine norm_ (a' := ?_) ?_ ?_
                                        rotate_left
                                        · show Act.put _ (some 70) _ = _
                                          simp only [Act.put, List.setIfInBounds_toArray, List.set_cons_zero, List.set_cons_succ, i64_w, i32_w]
                                          rfl
                                        refine last_ (i := 19) (N := some 71) #[true, true, true, true, true, true, true, true, true, true, true, true, true, true, true, true, true, true, true, true, false] rfl rfl (one_of HT_.out (by kernel_rfl)) (by decide) (fun K hK => ?_)
                                        refine Kd.R_append_step (Kd.int .i64) (w0 := w) w.heap.size (by rfl) (.tmp 52) (.tmp 70) 45 3 (.int .i64 0) 8 rfl Tryd.underlying45 info3 rfl (by decide) (by omega) (.slice (some ad164) x9_2.length co53) x9_2 ji47 [.int .i64 ji47] (fun _ => True) (fun _ => False) rfl rfl ?aP (fun _ hk => hk.elim) ?aF ?aO ?aB ?aS ?aL ?_
                                        (case aP => exact rfl)
                                        (case aB => exact (by repeat (first | (with_reducible first | exact HB.out | apply below_alloc | apply pw_below_drewN | apply below_drew1) | exact HB.out)))
                                        (case aF => exact (fun _ _ => trivial))
                                        (case aO => exact (by (with_reducible repeat (first | apply Kd.R_alloc | apply Kd.R_drewN | apply Kd.R_drew)); exact HO_9.out))
                                        (case aS => exact (below_size (by repeat (first | (with_reducible first | exact HB.out | apply below_alloc | apply pw_below_drewN | apply below_drew1) | exact HB.out))))
                                        (case aL => have := LMc48.out; omega)
                                        intro v166 w54 ho hb hg hat
                                        rw [← Ny165.out] at ho
                                        have n0_ := Aside0.mk (Kd.R_over' (by (with_reducible repeat (first | apply Kd.R_alloc | apply Kd.R_drewN | apply Kd.R_drew)); exact HO_5.out) (Kd.R_typed (by (with_reducible repeat (first | apply Kd.R_alloc | apply Kd.R_drewN | apply Kd.R_drew)); exact HO_9.out)) (by decide) hg)
                                        have n1_ := Aside0.mk (Kd.R_over' (by (with_reducible repeat (first | apply Kd.R_alloc | apply Kd.R_drewN | apply Kd.R_drew)); exact HO_6.out) (Kd.R_typed (by (with_reducible repeat (first | apply Kd.R_alloc | apply Kd.R_drewN | apply Kd.R_drew)); exact HO_9.out)) (by decide) hg)
                                        have n2_ := Aside0.mk (Kd.S_after (ok := (fun _ => True)) (by (with_reducible repeat (first | apply Kd.S_alloc | apply Kd.S_drewN | apply Kd.S_drew)); exact Kd.S_mono HO_7.out (fun _ hk => ⟨trivial, hk⟩)) hg hat)
                                        have n3_ := Aside0.mk (Kd.R_after (ok := (fun k_ => some k_ ≠ (.slice (some ad152) x7_1.length co50 : Value).ownBlock)) (by (with_reducible repeat (first | apply Kd.R_alloc | apply Kd.R_drewN | apply Kd.R_drew)); exact Kd.R_mono HL152_0.out (fun _ hk => ⟨hk.2, hk.1⟩)) hg hat)
                                        have n4_ := Aside0.mk (Kd.R_after (ok := (fun k_ => some k_ ≠ (.slice (some ad152) x7_1.length co50 : Value).ownBlock)) (by (with_reducible repeat (first | apply Kd.R_alloc | apply Kd.R_drewN | apply Kd.R_drew)); exact Kd.R_mono HL162_0.out (fun _ hk => ⟨hk.2, hk.1⟩)) hg hat)
                                        have n5_ := Aside0.mk (hb)
                                        have n6_ := Aside0.mk (ho)
                                        clear HO_5
                                        clear HO_6
                                        clear HO_7
                                        clear HL152_0
                                        clear HL162_0
                                        clear HB
                                        clear HO_9
                                        have HO_5 := n0_
                                        have HO_6 := n1_
                                        have HO_7 := n2_
                                        have HL152_0 := n3_
                                        have HL162_0 := n4_
                                        have HB := n5_
                                        have HO167 := n6_
                                        clear n0_ n1_ n2_ n3_ n4_ n5_ n6_
                                        clear ho hb hg hat
                                        refine hK.out _ _ ?_
                                        clear hK K
                                        refine norm_ (a' := ?_) ?_ ?_
                                        rotate_left
                                        · show Act.put _ (some 71) _ = _
                                          simp only [Act.put, List.setIfInBounds_toArray, List.set_cons_zero, List.set_cons_succ, i64_w, i32_w]
                                          rfl
                                        refine pure_ (i := 20) (N := some 9) (v := ?_) (a' := ?_) #[true, true, true, true, true, true, true, true, true, true, true, true, true, true, true, true, true, true, true, true, true] rfl rfl (any_of HT_.out (by kernel_rfl)) (fun _ _ _ h => h) (Or.inl ⟨by rfl, ?_⟩) ?_ ?_
                                        rotate_left
                                        · intro w'
                                          go_simp
                                          with_reducible rfl
                                        rotate_left
                                        · simp only [Act.put, List.setIfInBounds_toArray, List.set_cons_zero, List.set_cons_succ, i64_w, i32_w]
                                          rfl
                                        refine done_ (done_of HT_.out (by kernel_rfl)) ?_
                                        try go_wp2
                                        first | go_roundg k2 | (simp only [← hji47, ← hji46, ← hji25, ← hji22]; go_roundg k2)
                                        case measure => have := HK1.out; have := HK2.out; omega
                                        case rel => exact ⟨(y165), (wrap64 (x10_2 + 1)), (by first | rfl | (simp; done) | (simp [*]; done)), H', ⟨by have := HK1.out; have := HK2.out; omega⟩, ⟨by (with_reducible repeat (first | apply Kd.R_alloc | apply Kd.R_drewN | apply Kd.R_drew)); exact HO_5.out⟩, ⟨by (with_reducible repeat (first | apply Kd.R_alloc | apply Kd.R_drewN | apply Kd.R_drew)); exact HO_6.out⟩, ⟨by (with_reducible repeat (first | apply Kd.S_alloc | apply Kd.S_drewN | apply Kd.S_drew)); exact Kd.S_mono HO_7.out (fun _ hk => hk.2)⟩, ⟨by (with_reducible repeat (first | apply Kd.R_alloc | apply Kd.R_drewN | apply Kd.R_drew)); exact HO167.out⟩, ⟨by repeat (first | (with_reducible first | exact HB.out | apply below_alloc | apply pw_below_drewN | apply below_drew1) | exact HB.out)⟩⟩
                                      · rw [if_neg c48] at H
                                        exact absurd H (by simp)
                                    · rw [if_neg c45] at H
                                      exact absurd H (by simp)
                                  · rw [if_neg c44] at H
                                    exact absurd H (by simp)
                                · rw [if_neg c43] at H
                                  exact absurd H (by simp)
                            · rw [if_neg c29] at H
                              exact absurd H (by simp)
                          · rw [if_neg c28] at H
                            exact absurd H (by simp)
                        · rw [if_neg c27] at H
                          exact absurd H (by simp)
                      · rw [if_neg c26] at H
                        exact absurd H (by simp)
                    · rw [if_neg c24] at H
                      exact absurd H (by simp)
                  · rw [if_neg c23] at H
                    exact absurd H (by simp)
            · rw [if_neg c13] at H
              have c13b0 : decide (x10_2 ≤ (t132.length : Int)) = false := decide_eq_false c13
              clear c13
              by_cases c55 : x7_1.length < 5864062014805
              · rw [if_pos c55] at H
                have LMc55 := Aside0.mk c55
                clear c55
                obtain ⟨y143, hy143⟩ : ∃ y_ : List (List Int), y_ = (x7_1 ++ [x9_2]) := ⟨_, rfl⟩
                replace H : (spec_Distance.l0 k2 t129 t132 y143 (wrap64 (x8_1 + 1))) = some r := by first | (rw [hy143]; with_reducible exact H) | (have H2_ := (Option.bind_some _ _).symm.trans H; rw [hy143]; with_reducible exact H2_) | (have H2_ := (Option.bind_some _ _).symm.trans H; with_reducible exact H2_) | with_reducible exact H | (rw [hy143]; exact H) | exact H
                have Ny143 := Aside0.mk hy143
                clear hy143
                have H' := Aside0.mk H
                clear H
                obtain ⟨Ao56, co56, eo56⟩ := Kd.R_slice HO_6.out
                subst eo56
                obtain ⟨Ao58, co58, eo58⟩ := Kd.R_slice HO_9.out
                subst eo58
                go_wp2_with (first | ((with_reducible refine gate_builtin (b := .append) (xs := #[.tmp 86, .tmp 88]) rfl ?_); at_builtin; refine Kd.S_append (Kd.slice 3 (Kd.int .i64)) (w0 := w) w.heap.size rfl (.tmp 86) (.tmp 88) 44 45 (.slice none 0 0) 24 rfl Tryd.underlying44 info45 rfl (by decide) (by omega) u7 x7_1 x9_2 [.slice Ao58 x9_2.length co58] (fun _ => True) (fun k_ => some k_ = (.slice Ao58 x9_2.length co58 : Value).ownBlock) rfl rfl ?aP (fun k_ hk_ => ((Kd.R_mono (ok' := fun k_ => ((fun _ => True)) k_ ∧ some k_ ≠ (u7 : Value).ownBlock) (Kd.R_apart' (HO_9.out) (Kd.S_typed HO_7.out) (by decide)) (fun k_ hk => ⟨trivial, hk.2⟩))).1 k_ hk_.symm) ?aF ?aO ?aB ?aS ?aL ?_; (case aP => exact Kd.M_row (Kd.R_mono (Kd.R_tight rfl (Kd.R_mono (ok' := fun k_ => ((fun _ => True)) k_ ∧ some k_ ≠ (u7 : Value).ownBlock) (Kd.R_apart' (HO_9.out) (Kd.S_typed HO_7.out) (by decide)) (fun k_ hk => ⟨trivial, hk.2⟩))) (fun _ h_ => h_))); (case aB => exact (by repeat (first | (with_reducible first | exact HB.out | apply below_alloc | apply pw_below_drewN | apply below_drew1) | exact HB.out))); (case aF => exact (fun _ _ => trivial)); (case aO => exact (by (with_reducible repeat (first | apply Kd.S_alloc | apply Kd.S_drewN | apply Kd.S_drew)); exact Kd.S_mono HO_7.out (fun k_ hk => ⟨trivial, fun e_ => hk e_⟩))); (case aS => exact (below_size (by repeat (first | (with_reducible first | exact HB.out | apply below_alloc | apply pw_below_drewN | apply below_drew1) | exact HB.out)))); (case aL => have := LMc55.out; omega); intro v144 w57 ho hb hg hat; rw [← Ny143.out] at ho; have n0_ := Aside0.mk (Kd.R_over' (by (with_reducible repeat (first | apply Kd.R_alloc | apply Kd.R_drewN | apply Kd.R_drew)); exact HO_5.out) (Kd.S_typed (by (with_reducible repeat (first | apply Kd.S_alloc | apply Kd.S_drewN | apply Kd.S_drew)); exact HO_7.out)) (by decide) hg); have n1_ := Aside0.mk (Kd.R_over' (by (with_reducible repeat (first | apply Kd.R_alloc | apply Kd.R_drewN | apply Kd.R_drew)); exact HO_6.out) (Kd.S_typed (by (with_reducible repeat (first | apply Kd.S_alloc | apply Kd.S_drewN | apply Kd.S_drew)); exact HO_7.out)) (by decide) hg); have n2_ := Aside0.mk (hb); have n3_ := Aside0.mk (ho); clear HO_5; clear HO_6; clear HB; clear HO_7; clear HO_9; have HO_5 := n0_; have HO_6 := n1_; have HB := n2_; have HO145 := n3_; clear n0_ n1_ n2_ n3_; clear ho hb hg hat))
                go_roundg k2
                case measure => have := HK1.out; have := HK2.out; omega
                case rel => exact ⟨(y143), (wrap64 (x8_1 + 1)), (by first | rfl | (simp; done) | (simp [*]; done)), H', ⟨by have := HK1.out; have := HK2.out; omega⟩, ⟨by (with_reducible repeat (first | apply Kd.R_alloc | apply Kd.R_drewN | apply Kd.R_drew)); exact HO_5.out⟩, ⟨by (with_reducible repeat (first | apply Kd.R_alloc | apply Kd.R_drewN | apply Kd.R_drew)); exact HO_6.out⟩, ⟨by (with_reducible repeat (first | apply Kd.S_alloc | apply Kd.S_drewN | apply Kd.S_drew)); exact HO145.out⟩, ⟨by repeat (first | (with_reducible first | exact HB.out | apply below_alloc | apply pw_below_drewN | apply below_drew1) | exact HB.out)⟩⟩
              · rw [if_neg c55] at H
                exact absurd H (by simp)
      · rw [if_neg c9] at H
        have c9b0 : decide (x8_1 ≤ (t129.length : Int)) = false := decide_eq_false c9
        clear c9
        by_cases c59 : 0 ≤ (t129.length : Int)
        · rw [if_pos c59] at H
          have c59b0 : decide (0 ≤ (t129.length : Int)) = true := decide_eq_true c59
          have c59b1 : decide (0 ≤ t129.length) = true := decide_eq_true (by omega)
          clear c59
          by_cases c60 : (t129.length : Int) < (x7_1.length : Int)
          · rw [if_pos c60] at H
            have c60b0 : decide ((t129.length : Int) < (x7_1.length : Int)) = true := decide_eq_true c60
            have c60b1 : decide (t129.length < x7_1.length) = true := decide_eq_true (Int.ofNat_lt.mp c60)
            clear c60
            by_cases c61 : 0 ≤ (t132.length : Int)
            · rw [if_pos c61] at H
              have c61b0 : decide (0 ≤ (t132.length : Int)) = true := decide_eq_true c61
              have c61b1 : decide (0 ≤ t132.length) = true := decide_eq_true (by omega)
              clear c61
              by_cases c62 : (t132.length : Int) < ((rd_L5 x7_1 (t129.length : Int)).length : Int)
              · rw [if_pos c62] at H
                have c62b0 : decide ((t132.length : Int) < ((rd_L5 x7_1 (t129.length : Int)).length : Int)) = true := decide_eq_true c62
                have c62b1 : decide (t132.length < (rd_L5 x7_1 (t129.length : Int)).length) = true := decide_eq_true (Int.ofNat_lt.mp c62)
                clear c62
                obtain rfl := Option.some.inj H
                obtain ⟨Ao63, co63, eo63⟩ := Kd.R_slice HO_5.out
                subst eo63
                obtain ⟨Ao64, co64, eo64⟩ := Kd.S_slice HO_7.out
                subst eo64
                have p138 : 0 ≤ ((t129.length : Int) : Int) := of_decide_eq_true (by first | (with_reducible assumption) | assumption)
                have q138 : (t129.length : Int) < (x7_1.length : Int) := of_decide_eq_true (by first | (with_reducible assumption) | assumption)
                obtain ⟨ad138, A138_0, c138_0, e138, hx138_0, hl138_0, hi138_0⟩ := at_L5 (Kd.S_reads' HO_7.out).2.2 (t129.length : Int) p138 q138
                cases e138
                obtain ⟨ce138, hce138, hMe138, hcc138⟩ := Kd.S_get HO_7.out [] (t129.length : Int) p138 (by first | exact q138 | exact of_decide_eq_true (by first | (with_reducible assumption) | assumption) | (have e_ := (Kd.S_reads' HO_7.out).1; omega))
                obtain ⟨ve138_0, rfl, ge138_0⟩ := hMe138
                have hv138_0 := hcc138 0 _ rfl
                rw [Nat.add_zero, show ((Kd.slice 3 (Kd.int .i64))).sz = 1 from rfl, Nat.mul_one] at hv138_0
                replace hv138_0 := Option.some.inj (hv138_0.symm.trans hx138_0)
                rw [hv138_0] at ge138_0
                have HL138_0 := Aside0.mk (show Kd.R (Kd.int .i64) 3 _ _ _ _ (rd_L5 x7_1 (t129.length : Int)) from ge138_0)
                clear hv138_0 ge138_0
                clear hcc138 hce138
                have HR138_0 := Aside0.mk hi138_0
                have HC138_0 := Aside0.mk hl138_0
                clear hi138_0 hl138_0
                (try simp only [Go.IntWalk.toNatUp] at hx138_0)
                replace p138 := eq_true p138
                replace q138 := eq_true q138
                obtain ⟨Ao65, co65, eo65⟩ := Kd.R_slice HO_6.out
                subst eo65
                have p139 : 0 ≤ ((t132.length : Int) : Int) := of_decide_eq_true (by first | (with_reducible assumption) | assumption)
                have q139 : (t132.length : Int) < ((rd_L5 x7_1 (t129.length : Int)).length : Int) := of_decide_eq_true (by first | (with_reducible assumption) | assumption)
                obtain ⟨ad139, e139, hx139_0⟩ := Kd.at_int (by repeat (first | (with_reducible exact HR138_0.out) | (with_reducible refine Kd.C_alloc ?_ _) | (with_reducible refine Kd.C_drewN ?_ _) | (with_reducible refine Kd.C_drew ?_) | exact HR138_0.out)) (t132.length : Int) p139 q139
                cases e139
                (try simp only [Go.IntWalk.toNatUp] at hx139_0)
                replace p139 := eq_true p139
                replace q139 := eq_true q139
                go_wp2
                go_ret
                exact ⟨by first | rfl | (simp [errW_none, errW_some] <;> rfl) | (simp [*, errW_none, errW_some] <;> rfl), by repeat (first | (with_reducible first | exact HB.out | apply below_alloc | apply pw_below_drewN | apply below_drew1) | exact HB.out)⟩
              · rw [if_neg c62] at H
                exact absurd H (by simp)
            · rw [if_neg c61] at H
              exact absurd H (by simp)
          · rw [if_neg c60] at H
            exact absurd H (by simp)
        · rw [if_neg c59] at H
          exact absurd H (by simp)

end Go.Proofs.YtfkemfkleceeiaaDoor.P
