-- written by a program of this session (wip/tools), out of the translation
import Derived.Test.YtgeimklpcfepaaaDoorP0
import Derived.Test.YtgeimklpcfepaaaDoorP6
import Derived.Test.YtgeimklpcfepaaaDoorExtLetters
namespace Go.Proofs.YtgeimklpcfepaaaDoor.P
open Go.RowKit Go.Proofs.YtgeimklpcfepaaaDoorW.PrintWords Go.Proofs.YtgeimklpcfepaaaDoorW.PrintLast Go.Proofs.YtgeimklpcfepaaaDoorW.PrintMore
attribute [local go_sem] max2_int min2_int max_two min_two max_three min_three max_four min_four   -- for this text's walks alone
set_option linter.unusedVariables false
set_option linter.unusedSimpArgs false

/-! ### spec_Scored: function 23 -/
mutual
def spec_Scored.l0 : Nat → ByteArray → List (S45) → List (S45) → List Int → Int → Int → Int → Int → Int → Option (List Int × Int × Bool)
 | 0, _, _, _, _, _, _, _, _, _ => none
 | k + 1, x1, x7, x8, x9, x10, x11, x12, x13, x14 => if x14 < (x8.length : Int) then (if 0 ≤ x14 then ((spec_first.f k x7 x12 ((rd_T45 x8 x14).f0)).bind fun t168 => (if t168 = (x7.length : Int) then (some (([] : List Int), 0, false)) else (if (wrap64 (x14 + 1)) < (x8.length : Int) then (if 0 ≤ (wrap64 (x14 + 1)) then (spec_Scored.j1 k x1 x7 x8 x9 x10 x11 x13 x14 t168 ((rd_T45 x8 (wrap64 (x14 + 1))).f0)) else (none)) else (spec_Scored.j1 k x1 x7 x8 x9 x10 x11 x13 x14 t168 0)))) else (none)) else (some (x9, wrap64 ((wrap64 (x10 + (x9.length : Int))) - (x1.size : Int)), true))
def spec_Scored.j1 : Nat → ByteArray → List (S45) → List (S45) → List Int → Int → Int → Int → Int → Int → Int → Option (List Int × Int × Bool)
 | 0, _, _, _, _, _, _, _, _, _, _ => none
 | k + 1, x1, x7, x8, x9, x10, x11, x13, x14, x15, x16 => (spec_stop.f k x7 x15 x16 (decide ((wrap64 (x14 + 1)) < (x8.length : Int)))).bind fun t170 => (spec_Scored.l1 k x1 x7 x8 x9 x10 x11 x13 x14 t170 (-1) 0 x15)
def spec_Scored.l1 : Nat → ByteArray → List (S45) → List (S45) → List Int → Int → Int → Int → Int → Int → Int → Int → Int → Option (List Int × Int × Bool)
 | 0, _, _, _, _, _, _, _, _, _, _, _, _ => none
 | k + 1, x1, x7, x8, x9, x10, x11, x13, x14, x17, x18, x19, x20 => if x20 ≤ x17 then (if 0 ≤ x20 then (if x20 < (x7.length : Int) then (if 0 ≤ x14 then (if x14 < (x8.length : Int) then ((spec_Alike.f k ((rd_T45 x7 x20).f0) ((rd_T45 x8 x14).f0)).bind fun t182 => (if t182 = true then ((spec_worth.f k x7 x20).bind fun t183 => (if x20 = (wrap64 (x13 + 1)) then (if (wrap64 ((wrap64 (t183 + (wrap64 (2 * x11)))) + 5)) > x18 then (spec_Scored.l1 k x1 x7 x8 x9 x10 (wrap64 ((wrap64 (x11 + (wrap64 (2 * x11)))) + 5)) x13 x14 x17 (wrap64 ((wrap64 (t183 + (wrap64 (2 * x11)))) + 5)) x20 (wrap64 (x20 + 1))) else (spec_Scored.l1 k x1 x7 x8 x9 x10 (wrap64 ((wrap64 (x11 + (wrap64 (2 * x11)))) + 5)) x13 x14 x17 x18 x19 (wrap64 (x20 + 1)))) else (if t183 > x18 then (spec_Scored.l1 k x1 x7 x8 x9 x10 x11 x13 x14 x17 t183 x20 (wrap64 (x20 + 1))) else (spec_Scored.l1 k x1 x7 x8 x9 x10 x11 x13 x14 x17 x18 x19 (wrap64 (x20 + 1)))))) else (spec_Scored.l1 k x1 x7 x8 x9 x10 x11 x13 x14 x17 x18 x19 (wrap64 (x20 + 1))))) else (none)) else (none)) else (none)) else (none)) else (if x14 = 0 then (if 0 ≤ x19 then (if x19 < (x7.length : Int) then (if x9.length < 17592186044416 then (spec_Scored.l0 k x1 x7 x8 (x9 ++ [(rd_T45 x7 x19).f1]) (wrap64 (x10 + (wrap64 (x18 - (mn (wrap64 (5 * ((rd_T45 x7 x19).f1))) 15))))) x11 (wrap64 (x17 + 1)) x19 (wrap64 (x14 + 1))) else (none)) else (none)) else (none)) else (if 0 ≤ x19 then (if x19 < (x7.length : Int) then (if x9.length < 17592186044416 then (spec_Scored.l0 k x1 x7 x8 (x9 ++ [(rd_T45 x7 x19).f1]) (wrap64 (x10 + x18)) x11 (wrap64 (x17 + 1)) x19 (wrap64 (x14 + 1))) else (none)) else (none)) else (none)))
end
def spec_Scored.f (k : Nat) (a0 : ByteArray) (a1 : ByteArray) : Option (List Int × Int × Bool) := (spec_Letters.f a1).bind fun t158 => ((spec_Letters.f a0).bind fun t161 => (spec_Scored.l0 k a1 t158 t161 (([] : List Int)) 0 0 0 (-2) 0))
theorem spec_Scored.mono_l : ∀ k, (∀ y0 y1 y2 y3 y4 y5 y6 y7 y8, LeO (spec_Scored.l0 k y0 y1 y2 y3 y4 y5 y6 y7 y8) (spec_Scored.l0 (k + 1) y0 y1 y2 y3 y4 y5 y6 y7 y8)) ∧ (∀ y0 y1 y2 y3 y4 y5 y6 y7 y8 y9, LeO (spec_Scored.j1 k y0 y1 y2 y3 y4 y5 y6 y7 y8 y9) (spec_Scored.j1 (k + 1) y0 y1 y2 y3 y4 y5 y6 y7 y8 y9)) ∧ (∀ y0 y1 y2 y3 y4 y5 y6 y7 y8 y9 y10 y11, LeO (spec_Scored.l1 k y0 y1 y2 y3 y4 y5 y6 y7 y8 y9 y10 y11) (spec_Scored.l1 (k + 1) y0 y1 y2 y3 y4 y5 y6 y7 y8 y9 y10 y11))
 | 0 => ⟨fun _ _ _ _ _ _ _ _ _ r h => by simp [spec_Scored.l0] at h, fun _ _ _ _ _ _ _ _ _ _ r h => by simp [spec_Scored.j1] at h, fun _ _ _ _ _ _ _ _ _ _ _ _ r h => by simp [spec_Scored.l1] at h⟩
 | k + 1 => by
  obtain ⟨ih0, ih1, ih2⟩ := spec_Scored.mono_l k
  refine ⟨?_, ?_, ?_⟩
  · intro y0 y1 y2 y3 y4 y5 y6 y7 y8
    unfold spec_Scored.l0
    repeat' first
    | (with_reducible exact ih0 _ _ _ _ _ _ _ _ _)
    | (with_reducible exact ih1 _ _ _ _ _ _ _ _ _ _)
    | (with_reducible exact ih2 _ _ _ _ _ _ _ _ _ _ _ _)
    | (with_reducible exact spec_Alike.mono _ _ _)
    | (with_reducible exact spec_first.mono _ _ _ _)
    | (with_reducible exact spec_stop.mono _ _ _ _ _)
    | (with_reducible exact spec_worth.mono _ _ _)
    | (with_reducible exact LeO.refl _)
    | (with_reducible exact LeO.none _)
    | (with_reducible refine LeO.ite ?_ ?_)
    | (with_reducible refine LeO.bind ?_ (fun _ => ?_))
    | exact ih0 _ _ _ _ _ _ _ _ _
    | exact ih1 _ _ _ _ _ _ _ _ _ _
    | exact ih2 _ _ _ _ _ _ _ _ _ _ _ _
    | exact spec_Alike.mono _ _ _
    | exact spec_first.mono _ _ _ _
    | exact spec_stop.mono _ _ _ _ _
    | exact spec_worth.mono _ _ _
    | exact LeO.none _
    | refine LeO.ite ?_ ?_
    | refine LeO.bind ?_ (fun _ => ?_)
  · intro y0 y1 y2 y3 y4 y5 y6 y7 y8 y9
    unfold spec_Scored.j1
    repeat' first
    | (with_reducible exact ih0 _ _ _ _ _ _ _ _ _)
    | (with_reducible exact ih1 _ _ _ _ _ _ _ _ _ _)
    | (with_reducible exact ih2 _ _ _ _ _ _ _ _ _ _ _ _)
    | (with_reducible exact spec_Alike.mono _ _ _)
    | (with_reducible exact spec_first.mono _ _ _ _)
    | (with_reducible exact spec_stop.mono _ _ _ _ _)
    | (with_reducible exact spec_worth.mono _ _ _)
    | (with_reducible exact LeO.refl _)
    | (with_reducible exact LeO.none _)
    | (with_reducible refine LeO.ite ?_ ?_)
    | (with_reducible refine LeO.bind ?_ (fun _ => ?_))
    | exact ih0 _ _ _ _ _ _ _ _ _
    | exact ih1 _ _ _ _ _ _ _ _ _ _
    | exact ih2 _ _ _ _ _ _ _ _ _ _ _ _
    | exact spec_Alike.mono _ _ _
    | exact spec_first.mono _ _ _ _
    | exact spec_stop.mono _ _ _ _ _
    | exact spec_worth.mono _ _ _
    | exact LeO.none _
    | refine LeO.ite ?_ ?_
    | refine LeO.bind ?_ (fun _ => ?_)
  · intro y0 y1 y2 y3 y4 y5 y6 y7 y8 y9 y10 y11
    unfold spec_Scored.l1
    repeat' first
    | (with_reducible exact ih0 _ _ _ _ _ _ _ _ _)
    | (with_reducible exact ih1 _ _ _ _ _ _ _ _ _ _)
    | (with_reducible exact ih2 _ _ _ _ _ _ _ _ _ _ _ _)
    | (with_reducible exact spec_Alike.mono _ _ _)
    | (with_reducible exact spec_first.mono _ _ _ _)
    | (with_reducible exact spec_stop.mono _ _ _ _ _)
    | (with_reducible exact spec_worth.mono _ _ _)
    | (with_reducible exact LeO.refl _)
    | (with_reducible exact LeO.none _)
    | (with_reducible refine LeO.ite ?_ ?_)
    | (with_reducible refine LeO.bind ?_ (fun _ => ?_))
    | exact ih0 _ _ _ _ _ _ _ _ _
    | exact ih1 _ _ _ _ _ _ _ _ _ _
    | exact ih2 _ _ _ _ _ _ _ _ _ _ _ _
    | exact spec_Alike.mono _ _ _
    | exact spec_first.mono _ _ _ _
    | exact spec_stop.mono _ _ _ _ _
    | exact spec_worth.mono _ _ _
    | exact LeO.none _
    | refine LeO.ite ?_ ?_
    | refine LeO.bind ?_ (fun _ => ?_)
theorem spec_Scored.mono : ∀ a0 a1 k, LeO (spec_Scored.f k a0 a1) (spec_Scored.f (k + 1) a0 a1) := by
 intro a0 a1 k
 obtain ⟨ih0, ih1, ih2⟩ := spec_Scored.mono_l k
 unfold spec_Scored.f
 repeat' first
  | (with_reducible exact ih0 _ _ _ _ _ _ _ _ _)
  | (with_reducible exact ih1 _ _ _ _ _ _ _ _ _ _)
  | (with_reducible exact ih2 _ _ _ _ _ _ _ _ _ _ _ _)
  | (with_reducible exact spec_Alike.mono _ _ _)
  | (with_reducible exact spec_first.mono _ _ _ _)
  | (with_reducible exact spec_stop.mono _ _ _ _ _)
  | (with_reducible exact spec_worth.mono _ _ _)
  | (with_reducible exact LeO.refl _)
  | (with_reducible exact LeO.none _)
  | (with_reducible refine LeO.ite ?_ ?_)
  | (with_reducible refine LeO.bind ?_ (fun _ => ?_))
  | exact ih0 _ _ _ _ _ _ _ _ _
  | exact ih1 _ _ _ _ _ _ _ _ _ _
  | exact ih2 _ _ _ _ _ _ _ _ _ _ _ _
  | exact spec_Alike.mono _ _ _
  | exact spec_first.mono _ _ _ _
  | exact spec_stop.mono _ _ _ _ _
  | exact spec_worth.mono _ _ _
  | exact LeO.none _
  | refine LeO.ite ?_ ?_
  | refine LeO.bind ?_ (fun _ => ?_)
def spec_Scored.T22 : Bool × List (List Nat × List Nat) := (true, [([], []), ([], []), ([0, 1], [0, 1]), ([2], [2]), ([3], [3]), ([], []), ([], []), ([5, 6], [5, 6]), ([7], [7]), ([8], [8]), ([4, 9], [4, 9]), ([10], [10])])
def spec_Scored.B22 : List Nat := [0, 0, 3, 7, 15, 0, 0, 96, 224, 480, 1023, 2047]
theorem spec_Scored.tab22 : rtab .any (opsOf Tryd.f23 22) = spec_Scored.T22 := by kernel_rfl
theorem spec_Scored.bits22 : waitsOk spec_Scored.T22.2 spec_Scored.B22 = true := by kernel_rfl
set_option maxHeartbeats 8000000 in
set_option maxRecDepth 100000 in
theorem spec_Scored.calls (k : Nat) (a0 : ByteArray) (a1 : ByteArray) (r1 : List Int) (r2 : Int) (r3 : Bool) (w : World) (hA_ : Amb w) (h : spec_Scored.f k a0 a1 = some (r1, r2, r3)) :
 Calls Tryd.prog 23 #[.string a0, .string a1] w fun e w' => ∃ v0_ : Value, e = .returned (.tuple #[v0_, .int .i64 r2, .bool r3]) ∧ Kd.R (Kd.int .i64) 3 w' w.heap.size (fun _ => True) v0_ r1 ∧ Below w.heap.size w w' := by
 have HAMB := Aside0.mk hA_
 clear hA_
 have HB := Aside0.mk (Below.refl w.heap.size w)
 have H : ((spec_Letters.f a1).bind fun t158 => ((spec_Letters.f a0).bind fun t161 => (spec_Scored.l0 k a1 t158 t161 (([] : List Int)) 0 0 0 (-2) 0))) = some (r1, r2, r3) := h
 clear h
 replace H := Option.bind_eq_some_iff.mp H
 obtain ⟨t158, A30, H⟩ := H
 replace H : ((spec_Letters.f a0).bind fun t161 => (spec_Scored.l0 k a1 t158 t161 (([] : List Int)) 0 0 0 (-2) 0)) = some (r1, r2, r3) := H
 have A3 := Aside0.mk A30
 clear A30
 replace H := Option.bind_eq_some_iff.mp H
 obtain ⟨t161, A40, H⟩ := H
 replace H : (spec_Scored.l0 k a1 t158 t161 (([] : List Int)) 0 0 0 (-2) 0) = some (r1, r2, r3) := H
 have A4 := Aside0.mk A40
 clear A40
 obtain ⟨y164, hy164⟩ : ∃ y_ : List Int, y_ = (([] : List Int)) := ⟨_, rfl⟩
 replace H : (spec_Scored.l0 k a1 t158 t161 y164 0 0 0 (-2) 0) = some (r1, r2, r3) := by first | (rw [hy164]; with_reducible exact H) | (have H2_ := (Option.bind_some _ _).symm.trans H; rw [hy164]; with_reducible exact H2_) | (have H2_ := (Option.bind_some _ _).symm.trans H; with_reducible exact H2_) | with_reducible exact H | (rw [hy164]; exact H) | exact H
 have Ny164 := Aside0.mk hy164
 clear hy164
 have H' := Aside0.mk H
 clear H
 go_enter Tryd.func23, Tryd.ntmps23
 go_wp2_with (first | ((with_reducible refine gate_callee (f := 19) rfl ?_); refine goesL_ (some 23) rfl rfl Tryd.func19 (by kernel_rfl) rfl #[.string a1] rfl (by (try simp only [List.map_toArray, List.map_cons, List.map_nil]); first | done | rfl | (simp only [List.length_drop, List.length_take]; rfl)) ?_; (with_reducible refine (spec_Letters.calls a1 t158 _ A3.out).mono ?_); rintro e w5 ⟨v159, rfl, ho0, hb⟩; refine ⟨_, rfl, ?_⟩; have n0_ := Aside0.mk (Kd.R_lower ho0 (below_size (by repeat (first | (with_reducible first | exact HB.out | apply below_alloc | apply pw_below_drewN | apply below_drew1) | exact HB.out)))); have n1_ := Aside0.mk (below_step (by repeat (first | (with_reducible first | exact HB.out | apply below_alloc | apply pw_below_drewN | apply below_drew1) | exact HB.out)) hb); clear HB; have HO160 := n0_; have HB := n1_; clear n0_ n1_; (try clear hb); (try clear hb2); (try clear hk); (try clear hi); (try clear ho0)) | ((with_reducible refine gate_callee (f := 19) rfl ?_); refine goesL_ (some 25) rfl rfl Tryd.func19 (by kernel_rfl) rfl #[.string a0] rfl (by (try simp only [List.map_toArray, List.map_cons, List.map_nil]); first | done | rfl | (simp only [List.length_drop, List.length_take]; rfl)) ?_; (with_reducible refine (spec_Letters.calls a0 t161 _ A4.out).mono ?_); rintro e w6 ⟨v162, rfl, ho0, hb⟩; refine ⟨_, rfl, ?_⟩; have n0_ := Aside0.mk (Kd.R_elder' (by (with_reducible repeat (first | apply Kd.R_alloc | apply Kd.R_drewN | apply Kd.R_drew)); exact HO160.out) (Kd.R_base ho0) hb); have n1_ := Aside0.mk (Kd.R_lower (Kd.R_new' ho0 (Kd.R_lt (by (with_reducible repeat (first | apply Kd.R_alloc | apply Kd.R_drewN | apply Kd.R_drew)); exact HO160.out))) (below_size (by repeat (first | (with_reducible first | exact HB.out | apply below_alloc | apply pw_below_drewN | apply below_drew1) | exact HB.out)))); have n2_ := Aside0.mk (below_step (by repeat (first | (with_reducible first | exact HB.out | apply below_alloc | apply pw_below_drewN | apply below_drew1) | exact HB.out)) hb); clear HO160; clear HB; have HO160 := n0_; have HO163 := n1_; have HB := n2_; clear n0_ n1_ n2_; (try clear hb); (try clear hb2); (try clear hk); (try clear hi); (try clear ho0)) | ((with_reducible refine gate_dst (N := 26) rfl ?_); refine Kd.R_lit (Kd.int .i64) _ 3 ?hg (N := 26) ?hd (xs := ([] : List Int)) (inner := []) (ok := fun _ => True) (okp := fun _ => True) ?hr ?hp (fun _ hk => hk) trivial (Below.refl _ _) (Nat.le_refl _) (by simp) ?_; (case hd => rfl); (case hg => rfl); (case hr => first | (go_simp; done) | (go_simp; rfl)); (case hp => exact (Reps.none _ _)); intro v165 w7 ho8 hb hg_ hnew_; clear hg_ hnew_; (first | rw [← Ny164.out] at ho8 | (simp only [Int.reduceToNat] at ho8; rw [← Ny164.out] at ho8)); have n0_ := Aside0.mk (Kd.R_below (by (with_reducible repeat (first | apply Kd.R_alloc | apply Kd.R_drewN | apply Kd.R_drew)); exact HO160.out) hb); have n1_ := Aside0.mk (Kd.R_below (by (with_reducible repeat (first | apply Kd.R_alloc | apply Kd.R_drewN | apply Kd.R_drew)); exact HO163.out) hb); have n2_ := Aside0.mk (Kd.R_lower ho8 (below_size (by repeat (first | (with_reducible first | exact HB.out | apply below_alloc | apply pw_below_drewN | apply below_drew1) | exact HB.out)))); have n3_ := Aside0.mk (below_step (by repeat (first | (with_reducible first | exact HB.out | apply below_alloc | apply pw_below_drewN | apply below_drew1) | exact HB.out)) hb); clear HO160; clear HO163; clear HB; have HO160 := n0_; have HO163 := n1_; have HO166 := n2_; have HB := n3_; clear n0_ n1_ n2_ n3_; clear hb ho8))
 go_loopg [9, 10, 11, 12, 13, 14] k (fun kq v9 v10 v11 v12 v13 v14 w' => ∃ (x9_1 : List Int) (x10_1 : Int) (x11_1 : Int) (x12_1 : Int) (x13_1 : Int) (x14_1 : Int), v10 = .int .i64 x10_1 ∧ v11 = .int .i64 x11_1 ∧ v12 = .int .i64 x12_1 ∧ v13 = .int .i64 x13_1 ∧ v14 = .int .i64 x14_1 ∧ Aside0 (spec_Scored.l0 kq a1 t158 t161 x9_1 x10_1 x11_1 x12_1 x13_1 x14_1 = some (r1, r2, r3)) ∧ Aside0 (kq ≤ k) ∧ Aside0 (Kd.R k45 45 w' w.heap.size (fun k_ => some k_ ≠ (v162 : Value).ownBlock) v159 t158) ∧ Aside0 (Kd.R k45 45 w' w.heap.size (fun k_ => some k_ ≠ (v159 : Value).ownBlock) v162 t161) ∧ Aside0 (Kd.R (Kd.int .i64) 3 w' w.heap.size (fun _ => True) v9 x9_1) ∧ Aside0 (Below w.heap.size w w'))
 case atStart => exact ⟨(y164), (0), (0), (0), ((-2)), (0), (by first | rfl | (simp; done) | (simp [*]; done)), (by first | rfl | (simp; done) | (simp [*]; done)), (by first | rfl | (simp; done) | (simp [*]; done)), (by first | rfl | (simp; done) | (simp [*]; done)), (by first | rfl | (simp; done) | (simp [*]; done)), H', ⟨Nat.le_refl _⟩, ⟨by (with_reducible repeat (first | apply Kd.R_alloc | apply Kd.R_drewN | apply Kd.R_drew)); exact Kd.R_mono HO160.out (fun _ hk => hk.2)⟩, ⟨by (with_reducible repeat (first | apply Kd.R_alloc | apply Kd.R_drewN | apply Kd.R_drew)); exact Kd.R_mono HO163.out (fun _ hk => hk.2)⟩, ⟨by (with_reducible repeat (first | apply Kd.R_alloc | apply Kd.R_drewN | apply Kd.R_drew)); exact HO166.out⟩, ⟨by repeat (first | (with_reducible first | exact HB.out | apply below_alloc | apply pw_below_drewN | apply below_drew1) | exact HB.out)⟩⟩
 case round =>
  clear H'
  try clear c1
  try clear c2
  try clear p2
  obtain ⟨x9_1, x10_1, x11_1, x12_1, x13_1, x14_1, rfl, rfl, rfl, rfl, rfl, HA, HK1, HO_7, HO_8, HO_9, HB⟩ := hrel
  cases gk with
  | zero => exact absurd HA.out (by simp [spec_Scored.l0])
  | succ k1 =>
   have H := HA.out
   clear HA
   simp only [spec_Scored.l0] at H
   by_cases c9 : x14_1 < (t161.length : Int)
   · rw [if_pos c9] at H
     have c9b0 : decide (x14_1 < (t161.length : Int)) = true := decide_eq_true c9
     clear c9
     by_cases c10 : 0 ≤ x14_1
     · rw [if_pos c10] at H
       have c10b0 : decide (0 ≤ x14_1) = true := decide_eq_true c10
       clear c10
       replace H := Option.bind_eq_some_iff.mp H
       obtain ⟨t168, A110, H⟩ := H
       replace H : (if t168 = (t158.length : Int) then (some (([] : List Int), 0, false)) else (if (wrap64 (x14_1 + 1)) < (t161.length : Int) then (if 0 ≤ (wrap64 (x14_1 + 1)) then (spec_Scored.j1 k1 a1 t158 t161 x9_1 x10_1 x11_1 x13_1 x14_1 t168 ((rd_T45 t161 (wrap64 (x14_1 + 1))).f0)) else (none)) else (spec_Scored.j1 k1 a1 t158 t161 x9_1 x10_1 x11_1 x13_1 x14_1 t168 0))) = some (r1, r2, r3) := H
       have A11 := Aside0.mk A110
       clear A110
       by_cases c12 : t168 = (t158.length : Int)
       · rw [if_pos c12] at H
         have c12b0 : (t168 == (t158.length : Int)) = true := beq_iff_eq.mpr c12
         have c12b1 : (t168 != (t158.length : Int)) = false := bne_eq_false_iff_eq.mpr c12
         clear c12
         simp only [Option.some.injEq, Prod.mk.injEq] at H
         obtain ⟨rfl, rfl, rfl⟩ := H
         obtain ⟨Ao13, co13, eo13⟩ := Kd.R_slice HO_8.out
         subst eo13
         have p167 : 0 ≤ (x14_1 : Int) := of_decide_eq_true (by first | (with_reducible assumption) | assumption)
         have q167 : x14_1 < (t161.length : Int) := of_decide_eq_true (by first | (with_reducible assumption) | assumption)
         obtain ⟨ad167, e167, hx167_0, hx167_1⟩ := at_T45 (Kd.R_reads' HO_8.out).2.2 x14_1 p167 q167
         cases e167
         replace p167 := eq_true p167
         replace q167 := eq_true q167
         obtain ⟨Ao14, co14, eo14⟩ := Kd.R_slice HO_7.out
         subst eo14
         go_wp2_with (first | ((with_reducible refine gate_callee (f := 24) rfl ?_); refine goesL_ (some 40) rfl rfl Tryd.func24 (by kernel_rfl) rfl #[.slice Ao14 t158.length co14, .int .i64 x12_1, .int .i32 ((rd_T45 t161 x14_1).f0)] rfl (by (try simp only [List.map_toArray, List.map_cons, List.map_nil]); first | done | rfl | (simp only [List.length_drop, List.length_take]; rfl)) ?_; (with_reducible refine (spec_first.calls k1 _ _ t158 x12_1 ((rd_T45 t161 x14_1).f0) t168 _ ?side1 ?side2 (by first | (with_reducible exact HAMB.out) | exact Amb.below HAMB.out (by repeat (first | (with_reducible first | exact HB.out | apply below_alloc | apply pw_below_drewN | apply below_drew1) | exact HB.out)) | exact Amb.below HAMB.out (by repeat (first | (with_reducible first | exact Below.refl _ _ | apply pw_below_drewN | apply below_drew1 | apply below_alloc)))) A11.out).mono ?_); (case side1 => repeat (first | exact (Kd.R_reads' HO_7.out).2.2 | (with_reducible refine Kd.C_alloc ?_ _) | (with_reducible refine Kd.C_drewN ?_ _) | (with_reducible refine Kd.C_drew ?_))); (case side2 => exact (Kd.R_reads' HO_7.out).2.1); rintro e w15 ⟨rfl, hb⟩; refine ⟨_, rfl, ?_⟩; have n0_ := Aside0.mk (Kd.R_below (by (with_reducible repeat (first | apply Kd.R_alloc | apply Kd.R_drewN | apply Kd.R_drew)); exact HO_7.out) hb); have n1_ := Aside0.mk (Kd.R_below (by (with_reducible repeat (first | apply Kd.R_alloc | apply Kd.R_drewN | apply Kd.R_drew)); exact HO_8.out) hb); have n2_ := Aside0.mk (Kd.R_below (by (with_reducible repeat (first | apply Kd.R_alloc | apply Kd.R_drewN | apply Kd.R_drew)); exact HO_9.out) hb); have n3_ := Aside0.mk (below_step (by repeat (first | (with_reducible first | exact HB.out | apply below_alloc | apply pw_below_drewN | apply below_drew1) | exact HB.out)) hb); clear HO_7; clear HO_8; clear HO_9; clear HB; have HO_7 := n0_; have HO_8 := n1_; have HO_9 := n2_; have HB := n3_; clear n0_ n1_ n2_ n3_; (try clear hb); (try clear hb2); (try clear hk); (try clear hi)))
         go_ret3
         exact ⟨_, by first | rfl | (simp [errW_none, errW_some] <;> rfl) | (simp [*, errW_none, errW_some] <;> rfl), by first | exact Kd.R_nil _ _ _ _ _ | exact Kd.N_nil _ _ _ _ _ | exact Kd.V_nil _ _ _ _ _ | exact Kd.Q_nil _ _ _ _ _ | exact Kd.S_nil _ _ _ _ _, by repeat (first | (with_reducible first | exact HB.out | apply below_alloc | apply pw_below_drewN | apply below_drew1) | exact HB.out)⟩
       · rw [if_neg c12] at H
         have c12b0 : (t168 == (t158.length : Int)) = false := beq_eq_false_iff_ne.mpr c12
         have c12b1 : (t168 != (t158.length : Int)) = true := bne_iff_ne.mpr c12
         have HC16 := Aside0.mk H
         clear H
         obtain ⟨Ao17, co17, eo17⟩ := Kd.R_slice HO_8.out
         subst eo17
         have p167 : 0 ≤ (x14_1 : Int) := of_decide_eq_true (by first | (with_reducible assumption) | assumption)
         have q167 : x14_1 < (t161.length : Int) := of_decide_eq_true (by first | (with_reducible assumption) | assumption)
         obtain ⟨ad167, e167, hx167_0, hx167_1⟩ := at_T45 (Kd.R_reads' HO_8.out).2.2 x14_1 p167 q167
         cases e167
         replace p167 := eq_true p167
         replace q167 := eq_true q167
         obtain ⟨Ao18, co18, eo18⟩ := Kd.R_slice HO_7.out
         subst eo18
         go_upto_if 49 with (first | ((with_reducible refine gate_callee (f := 24) rfl ?_); refine goesL_ (some 40) rfl rfl Tryd.func24 (by kernel_rfl) rfl #[.slice Ao18 t158.length co18, .int .i64 x12_1, .int .i32 ((rd_T45 t161 x14_1).f0)] rfl (by (try simp only [List.map_toArray, List.map_cons, List.map_nil]); first | done | rfl | (simp only [List.length_drop, List.length_take]; rfl)) ?_; (with_reducible refine (spec_first.calls k1 _ _ t158 x12_1 ((rd_T45 t161 x14_1).f0) t168 _ ?side1 ?side2 (by first | (with_reducible exact HAMB.out) | exact Amb.below HAMB.out (by repeat (first | (with_reducible first | exact HB.out | apply below_alloc | apply pw_below_drewN | apply below_drew1) | exact HB.out)) | exact Amb.below HAMB.out (by repeat (first | (with_reducible first | exact Below.refl _ _ | apply pw_below_drewN | apply below_drew1 | apply below_alloc)))) A11.out).mono ?_); (case side1 => repeat (first | exact (Kd.R_reads' HO_7.out).2.2 | (with_reducible refine Kd.C_alloc ?_ _) | (with_reducible refine Kd.C_drewN ?_ _) | (with_reducible refine Kd.C_drew ?_))); (case side2 => exact (Kd.R_reads' HO_7.out).2.1); rintro e w19 ⟨rfl, hb⟩; refine ⟨_, rfl, ?_⟩; have n0_ := Aside0.mk (Kd.R_below (by (with_reducible repeat (first | apply Kd.R_alloc | apply Kd.R_drewN | apply Kd.R_drew)); exact HO_7.out) hb); have n1_ := Aside0.mk (Kd.R_below (by (with_reducible repeat (first | apply Kd.R_alloc | apply Kd.R_drewN | apply Kd.R_drew)); exact HO_8.out) hb); have n2_ := Aside0.mk (Kd.R_below (by (with_reducible repeat (first | apply Kd.R_alloc | apply Kd.R_drewN | apply Kd.R_drew)); exact HO_9.out) hb); have n3_ := Aside0.mk (below_step (by repeat (first | (with_reducible first | exact HB.out | apply below_alloc | apply pw_below_drewN | apply below_drew1) | exact HB.out)) hb); clear HO_7; clear HO_8; clear HO_9; clear HB; have HO_7 := n0_; have HO_8 := n1_; have HO_9 := n2_; have HB := n3_; clear n0_ n1_ n2_ n3_; (try clear hb); (try clear hb2); (try clear hk); (try clear hi)))
         (try simp only [Act.put, List.setIfInBounds_toArray, List.set_cons_zero, List.set_cons_succ])
         go_cut [16] (fun v16 wc => ∃ (kq : Nat) (x16_15 : Int), v16 = .int .i32 x16_15 ∧ Aside0 (spec_Scored.j1 kq a1 t158 t161 x9_1 x10_1 x11_1 x13_1 x14_1 t168 x16_15 = some (r1, r2, r3)) ∧ Aside0 (kq ≤ k1) ∧ Aside0 (Kd.R k45 45 wc w.heap.size (fun k_ => some k_ ≠ ((.slice (some ad167) t161.length co17) : Value).ownBlock) (.slice Ao18 t158.length co18) t158) ∧ Aside0 (Kd.R k45 45 wc w.heap.size (fun k_ => some k_ ≠ ((.slice Ao18 t158.length co18) : Value).ownBlock) (.slice (some ad167) t161.length co17) t161) ∧ Aside0 (Kd.R (Kd.int .i64) 3 wc w.heap.size (fun _ => True) u9 x9_1) ∧ Aside0 (Below w.heap.size w wc))
         case first =>
          have H := HC16.out
          clear HC16
          by_cases c20 : (wrap64 (x14_1 + 1)) < (t161.length : Int)
          · rw [if_pos c20] at H
            have c20b0 : decide ((wrap64 (x14_1 + 1)) < (t161.length : Int)) = true := decide_eq_true c20
            clear c20
            (first | rw [c20b0] | (simp only [i64_w, i32_w]; rw [c20b0]) | skip)
            obtain ⟨ji21, hji21⟩ : ∃ j_ : Int, (wrap64 (x14_1 + 1)) = j_ := ⟨_, rfl⟩
            replace H : (if 0 ≤ (ji21) then (spec_Scored.j1 k1 a1 t158 t161 x9_1 x10_1 x11_1 x13_1 x14_1 t168 ((rd_T45 t161 (ji21)).f0)) else (none)) = some (r1, r2, r3) := by first | (rw [hji21] at H; exact H) | (simp only [hji21] at H ⊢; exact H)
            (try rw [hji21] at c20b0)
            have hji21w : (IntKind.i64.wrap (x14_1 + 1)) = ji21 := (i64_w _).trans hji21
            by_cases c22 : 0 ≤ (ji21)
            · rw [if_pos c22] at H
              have c22b0 : decide (0 ≤ (ji21)) = true := decide_eq_true c22
              clear c22
              have H' := Aside0.mk H
              clear H
              have p169 : 0 ≤ ((ji21) : Int) := of_decide_eq_true (by first | (with_reducible assumption) | assumption)
              have q169 : (ji21) < (t161.length : Int) := of_decide_eq_true (by first | (with_reducible assumption) | assumption)
              obtain ⟨ad169, e169, hx169_0, hx169_1⟩ := at_T45 (Kd.R_reads' HO_8.out).2.2 (ji21) p169 q169
              obtain rfl : ad167 = ad169 := (by injection e169)
              replace p169 := eq_true p169
              replace q169 := eq_true q169
              go_wp2
              go_meet
              case rel => exact ⟨_, ((rd_T45 t161 (ji21)).f0), (by first | rfl | (simp; done) | (simp only [← hji21] <;> (first | rfl | simp)) | (simp [*]; done)), H', ⟨by have := HK1.out; first | omega | exact Nat.le_refl _⟩, ⟨by (with_reducible repeat (first | apply Kd.R_alloc | apply Kd.R_drewN | apply Kd.R_drew)); exact HO_7.out⟩, ⟨by (with_reducible repeat (first | apply Kd.R_alloc | apply Kd.R_drewN | apply Kd.R_drew)); exact HO_8.out⟩, ⟨by (with_reducible repeat (first | apply Kd.R_alloc | apply Kd.R_drewN | apply Kd.R_drew)); exact HO_9.out⟩, ⟨by repeat (first | (with_reducible first | exact HB.out | apply below_alloc | apply pw_below_drewN | apply below_drew1) | exact HB.out)⟩⟩
            · rw [if_neg c22] at H
              exact absurd H (by simp)
          · rw [if_neg c20] at H
            have c20b0 : decide ((wrap64 (x14_1 + 1)) < (t161.length : Int)) = false := decide_eq_false c20
            clear c20
            (first | rw [c20b0] | (simp only [i64_w, i32_w]; rw [c20b0]) | skip)
            have H' := Aside0.mk H
            clear H
            go_wp2
            go_meet
            case rel => exact ⟨_, (0), (by first | rfl | (simp; done) | (simp [*]; done)), H', ⟨by have := HK1.out; first | omega | exact Nat.le_refl _⟩, ⟨by (with_reducible repeat (first | apply Kd.R_alloc | apply Kd.R_drewN | apply Kd.R_drew)); exact HO_7.out⟩, ⟨by (with_reducible repeat (first | apply Kd.R_alloc | apply Kd.R_drewN | apply Kd.R_drew)); exact HO_8.out⟩, ⟨by (with_reducible repeat (first | apply Kd.R_alloc | apply Kd.R_drewN | apply Kd.R_drew)); exact HO_9.out⟩, ⟨by repeat (first | (with_reducible first | exact HB.out | apply below_alloc | apply pw_below_drewN | apply below_drew1) | exact HB.out)⟩⟩
         case rest =>
          clear HC16
          try clear c1
          try clear p1
          try clear q1
          try clear hx1
          try clear c2
          try clear p2
          try clear p6
          try clear c9
          try clear c9b0
          try clear c10
          try clear c10b0
          try clear c12
          try clear c12b0
          try clear c12b1
          try clear p16
          try clear q16
          try clear hx16
          try clear c19
          try clear c20
          try clear c20b0
          try clear c22
          try clear c22b0
          try clear hx167_0
          try clear hx167_1
          try clear hx169_0
          try clear hx169_1
          try clear p167
          try clear p169
          try clear p2
          try clear q167
          try clear q169
          obtain ⟨kq, x16_15, rfl, HA, HJ15, HO_7, HO_8, HO_9, HB⟩ := hcut
          cases kq with
          | zero => exact absurd HA.out (by simp [spec_Scored.j1])
          | succ kj15 =>
           have H := HA.out
           clear HA
           simp only [spec_Scored.j1] at H
           replace H := Option.bind_eq_some_iff.mp H
           obtain ⟨t170, A230, H⟩ := H
           replace H : (spec_Scored.l1 kj15 a1 t158 t161 x9_1 x10_1 x11_1 x13_1 x14_1 t170 (-1) 0 t168) = some (r1, r2, r3) := H
           have A23 := Aside0.mk A230
           clear A230
           have H' := Aside0.mk H
           clear H
           go_wp2_with (first | ((with_reducible refine gate_callee (f := 28) rfl ?_); refine goesL_ (some 64) rfl rfl Tryd.func28 (by kernel_rfl) rfl #[.slice Ao18 t158.length co18, .int .i64 t168, .int .i32 x16_15, .bool (decide ((wrap64 (x14_1 + 1)) < (t161.length : Int)))] rfl (by (try simp only [List.map_toArray, List.map_cons, List.map_nil]); first | done | rfl | (simp only [List.length_drop, List.length_take]; rfl)) ?_; (with_reducible refine (spec_stop.calls kj15 _ _ t158 t168 x16_15 (decide ((wrap64 (x14_1 + 1)) < (t161.length : Int))) t170 _ ?side1 ?side2 (by first | (with_reducible exact HAMB.out) | exact Amb.below HAMB.out (by repeat (first | (with_reducible first | exact HB.out | apply below_alloc | apply pw_below_drewN | apply below_drew1) | exact HB.out)) | exact Amb.below HAMB.out (by repeat (first | (with_reducible first | exact Below.refl _ _ | apply pw_below_drewN | apply below_drew1 | apply below_alloc)))) A23.out).mono ?_); (case side1 => repeat (first | exact (Kd.R_reads' HO_7.out).2.2 | (with_reducible refine Kd.C_alloc ?_ _) | (with_reducible refine Kd.C_drewN ?_ _) | (with_reducible refine Kd.C_drew ?_))); (case side2 => exact (Kd.R_reads' HO_7.out).2.1); rintro e w24 ⟨rfl, hb⟩; refine ⟨_, rfl, ?_⟩; have n0_ := Aside0.mk (Kd.R_below (by (with_reducible repeat (first | apply Kd.R_alloc | apply Kd.R_drewN | apply Kd.R_drew)); exact HO_7.out) hb); have n1_ := Aside0.mk (Kd.R_below (by (with_reducible repeat (first | apply Kd.R_alloc | apply Kd.R_drewN | apply Kd.R_drew)); exact HO_8.out) hb); have n2_ := Aside0.mk (Kd.R_below (by (with_reducible repeat (first | apply Kd.R_alloc | apply Kd.R_drewN | apply Kd.R_drew)); exact HO_9.out) hb); have n3_ := Aside0.mk (below_step (by repeat (first | (with_reducible first | exact HB.out | apply below_alloc | apply pw_below_drewN | apply below_drew1) | exact HB.out)) hb); clear HO_7; clear HO_8; clear HO_9; clear HB; have HO_7 := n0_; have HO_8 := n1_; have HO_9 := n2_; have HB := n3_; clear n0_ n1_ n2_ n3_; (try clear hb); (try clear hb2); (try clear hk); (try clear hi)))
           go_loopg [11, 18, 19, 20] kj15 (fun kq v11 v18 v19 v20 w' => ∃ (x11_3 : Int) (x18_3 : Int) (x19_3 : Int) (x20_3 : Int), v11 = .int .i64 x11_3 ∧ v18 = .int .i64 x18_3 ∧ v19 = .int .i64 x19_3 ∧ v20 = .int .i64 x20_3 ∧ Aside0 (spec_Scored.l1 kq a1 t158 t161 x9_1 x10_1 x11_3 x13_1 x14_1 t170 x18_3 x19_3 x20_3 = some (r1, r2, r3)) ∧ Aside0 (kq ≤ kj15) ∧ Aside0 (Kd.R k45 45 w' w.heap.size (fun k_ => some k_ ≠ ((.slice (some ad167) t161.length co17) : Value).ownBlock) (.slice Ao18 t158.length co18) t158) ∧ Aside0 (Kd.R k45 45 w' w.heap.size (fun k_ => some k_ ≠ ((.slice Ao18 t158.length co18) : Value).ownBlock) (.slice (some ad167) t161.length co17) t161) ∧ Aside0 (Kd.R (Kd.int .i64) 3 w' w.heap.size (fun _ => True) u9 x9_1) ∧ Aside0 (Below w.heap.size w w'))
           case atStart => exact ⟨(x11_1), ((-1)), (0), (t168), (by first | rfl | (simp; done) | (simp [*]; done)), (by first | rfl | (simp; done) | (simp [*]; done)), (by first | rfl | (simp; done) | (simp [*]; done)), (by first | rfl | (simp; done) | (simp [*]; done)), H', ⟨Nat.le_refl _⟩, ⟨by (with_reducible repeat (first | apply Kd.R_alloc | apply Kd.R_drewN | apply Kd.R_drew)); exact HO_7.out⟩, ⟨by (with_reducible repeat (first | apply Kd.R_alloc | apply Kd.R_drewN | apply Kd.R_drew)); exact HO_8.out⟩, ⟨by (with_reducible repeat (first | apply Kd.R_alloc | apply Kd.R_drewN | apply Kd.R_drew)); exact HO_9.out⟩, ⟨by repeat (first | (with_reducible first | exact HB.out | apply below_alloc | apply pw_below_drewN | apply below_drew1) | exact HB.out)⟩⟩
           case round =>
            clear H'
            try clear c1
            try clear p1
            try clear q1
            try clear hx1
            try clear c2
            try clear p2
            try clear p6
            try clear c9
            try clear c9b0
            try clear c10
            try clear c10b0
            try clear c12
            try clear c12b0
            try clear c12b1
            try clear p16
            try clear q16
            try clear hx16
            try clear c19
            try clear c20
            try clear c20b0
            try clear c22
            try clear c22b0
            try clear c23
            try clear c24
            try clear hx167_0
            try clear hx167_1
            try clear hx169_0
            try clear hx169_1
            try clear p1
            try clear p16
            try clear p167
            try clear p169
            try clear p2
            try clear p6
            try clear q1
            try clear q16
            try clear q167
            try clear q169
            obtain ⟨x11_3, x18_3, x19_3, x20_3, rfl, rfl, rfl, rfl, HA, HK3, HO_7, HO_8, HO_9, HB⟩ := hrel
            cases gk with
            | zero => exact absurd HA.out (by simp [spec_Scored.l1])
            | succ k3 =>
             have H := HA.out
             clear HA
             simp only [spec_Scored.l1] at H
             by_cases c25 : x20_3 ≤ t170
             · rw [if_pos c25] at H
               have c25b0 : decide (x20_3 ≤ t170) = true := decide_eq_true c25
               clear c25
               by_cases c26 : 0 ≤ x20_3
               · rw [if_pos c26] at H
                 have c26b0 : decide (0 ≤ x20_3) = true := decide_eq_true c26
                 clear c26
                 by_cases c27 : x20_3 < (t158.length : Int)
                 · rw [if_pos c27] at H
                   have c27b0 : decide (x20_3 < (t158.length : Int)) = true := decide_eq_true c27
                   clear c27
                   by_cases c28 : 0 ≤ x14_1
                   · rw [if_pos c28] at H
                     have c28b0 : decide (0 ≤ x14_1) = true := decide_eq_true c28
                     clear c28
                     by_cases c29 : x14_1 < (t161.length : Int)
                     · rw [if_pos c29] at H
                       have c29b0 : decide (x14_1 < (t161.length : Int)) = true := decide_eq_true c29
                       clear c29
                       replace H := Option.bind_eq_some_iff.mp H
                       obtain ⟨t182, A300, H⟩ := H
                       replace H : (if t182 = true then ((spec_worth.f k3 t158 x20_3).bind fun t183 => (if x20_3 = (wrap64 (x13_1 + 1)) then (if (wrap64 ((wrap64 (t183 + (wrap64 (2 * x11_3)))) + 5)) > x18_3 then (spec_Scored.l1 k3 a1 t158 t161 x9_1 x10_1 (wrap64 ((wrap64 (x11_3 + (wrap64 (2 * x11_3)))) + 5)) x13_1 x14_1 t170 (wrap64 ((wrap64 (t183 + (wrap64 (2 * x11_3)))) + 5)) x20_3 (wrap64 (x20_3 + 1))) else (spec_Scored.l1 k3 a1 t158 t161 x9_1 x10_1 (wrap64 ((wrap64 (x11_3 + (wrap64 (2 * x11_3)))) + 5)) x13_1 x14_1 t170 x18_3 x19_3 (wrap64 (x20_3 + 1)))) else (if t183 > x18_3 then (spec_Scored.l1 k3 a1 t158 t161 x9_1 x10_1 x11_3 x13_1 x14_1 t170 t183 x20_3 (wrap64 (x20_3 + 1))) else (spec_Scored.l1 k3 a1 t158 t161 x9_1 x10_1 x11_3 x13_1 x14_1 t170 x18_3 x19_3 (wrap64 (x20_3 + 1)))))) else (spec_Scored.l1 k3 a1 t158 t161 x9_1 x10_1 x11_3 x13_1 x14_1 t170 x18_3 x19_3 (wrap64 (x20_3 + 1)))) = some (r1, r2, r3) := H
                       have A30 := Aside0.mk A300
                       clear A300
                       by_cases c31 : t182 = true
                       · subst c31
                         have H1 : ((spec_worth.f k3 t158 x20_3).bind fun t183 => (if x20_3 = (wrap64 (x13_1 + 1)) then (if (wrap64 ((wrap64 (t183 + (wrap64 (2 * x11_3)))) + 5)) > x18_3 then (spec_Scored.l1 k3 a1 t158 t161 x9_1 x10_1 (wrap64 ((wrap64 (x11_3 + (wrap64 (2 * x11_3)))) + 5)) x13_1 x14_1 t170 (wrap64 ((wrap64 (t183 + (wrap64 (2 * x11_3)))) + 5)) x20_3 (wrap64 (x20_3 + 1))) else (spec_Scored.l1 k3 a1 t158 t161 x9_1 x10_1 (wrap64 ((wrap64 (x11_3 + (wrap64 (2 * x11_3)))) + 5)) x13_1 x14_1 t170 x18_3 x19_3 (wrap64 (x20_3 + 1)))) else (if t183 > x18_3 then (spec_Scored.l1 k3 a1 t158 t161 x9_1 x10_1 x11_3 x13_1 x14_1 t170 t183 x20_3 (wrap64 (x20_3 + 1))) else (spec_Scored.l1 k3 a1 t158 t161 x9_1 x10_1 x11_3 x13_1 x14_1 t170 x18_3 x19_3 (wrap64 (x20_3 + 1)))))) = some (r1, r2, r3) := by rw [if_pos rfl] at H; exact H
                         clear H
                         have H := H1
                         clear H1
                         replace H := Option.bind_eq_some_iff.mp H
                         obtain ⟨t183, A320, H⟩ := H
                         replace H : (if x20_3 = (wrap64 (x13_1 + 1)) then (if (wrap64 ((wrap64 (t183 + (wrap64 (2 * x11_3)))) + 5)) > x18_3 then (spec_Scored.l1 k3 a1 t158 t161 x9_1 x10_1 (wrap64 ((wrap64 (x11_3 + (wrap64 (2 * x11_3)))) + 5)) x13_1 x14_1 t170 (wrap64 ((wrap64 (t183 + (wrap64 (2 * x11_3)))) + 5)) x20_3 (wrap64 (x20_3 + 1))) else (spec_Scored.l1 k3 a1 t158 t161 x9_1 x10_1 (wrap64 ((wrap64 (x11_3 + (wrap64 (2 * x11_3)))) + 5)) x13_1 x14_1 t170 x18_3 x19_3 (wrap64 (x20_3 + 1)))) else (if t183 > x18_3 then (spec_Scored.l1 k3 a1 t158 t161 x9_1 x10_1 x11_3 x13_1 x14_1 t170 t183 x20_3 (wrap64 (x20_3 + 1))) else (spec_Scored.l1 k3 a1 t158 t161 x9_1 x10_1 x11_3 x13_1 x14_1 t170 x18_3 x19_3 (wrap64 (x20_3 + 1))))) = some (r1, r2, r3) := H
                         have A32 := Aside0.mk A320
                         clear A320
                         by_cases c33 : x20_3 = (wrap64 (x13_1 + 1))
                         · rw [if_pos c33] at H
                           have c33b0 : (x20_3 == (wrap64 (x13_1 + 1))) = true := beq_iff_eq.mpr c33
                           have c33b1 : (x20_3 != (wrap64 (x13_1 + 1))) = false := bne_eq_false_iff_eq.mpr c33
                           clear c33
                           by_cases c34 : (wrap64 ((wrap64 (t183 + (wrap64 (2 * x11_3)))) + 5)) > x18_3
                           · rw [if_pos c34] at H
                             have c34b0 : decide (x18_3 < (wrap64 ((wrap64 (t183 + (wrap64 (2 * x11_3)))) + 5))) = true := decide_eq_true c34
                             clear c34
                             have H' := Aside0.mk H
                             clear H
                             try go_wp2
                             have n0_ := Aside0.mk (Kd.R_drew HO_7.out)
                             have n1_ := Aside0.mk (Kd.R_drew HO_8.out)
                             have n2_ := Aside0.mk (Kd.R_drew HO_9.out)
                             have n3_ := Aside0.mk (below_drew1 HB.out)
                             clear HO_7
                             clear HO_8
                             clear HO_9
                             clear HB
                             have HO_7 := n0_
                             have HO_8 := n1_
                             have HO_9 := n2_
                             have HB := n3_
                             clear n0_ n1_ n2_ n3_
                             have p180 : 0 ≤ (x20_3 : Int) := of_decide_eq_true (by first | (with_reducible assumption) | assumption)
                             have q180 : x20_3 < (t158.length : Int) := of_decide_eq_true (by first | (with_reducible assumption) | assumption)
                             obtain ⟨ad180, e180, hx180_0, hx180_1⟩ := at_T45 (Kd.R_reads' HO_7.out).2.2 x20_3 p180 q180
                             cases e180
                             replace p180 := eq_true p180
                             replace q180 := eq_true q180
                             have p181 : 0 ≤ (x14_1 : Int) := of_decide_eq_true (by first | (with_reducible assumption) | assumption)
                             have q181 : x14_1 < (t161.length : Int) := of_decide_eq_true (by first | (with_reducible assumption) | assumption)
                             obtain ⟨ad181, e181, hx181_0, hx181_1⟩ := at_T45 (Kd.R_reads' HO_8.out).2.2 x14_1 p181 q181
                             obtain rfl : ad167 = ad181 := (by injection e181)
                             replace p181 := eq_true p181
                             replace q181 := eq_true q181
                             refine start_ (n := 12) (S := fun w' => w'.cell? (ad180.add ((x20_3).toNat * 2)) = some (.int .i32 ((rd_T45 t158 x20_3).f0)) ∧ w'.cell? ⟨(ad180.add ((x20_3).toNat * 2)).block, (ad180.add ((x20_3).toNat * 2)).off + 1, none⟩ = some (.int .i64 ((rd_T45 t158 x20_3).f1)) ∧ w'.cell? (ad167.add ((x14_1).toNat * 2)) = some (.int .i32 ((rd_T45 t161 x14_1).f0)) ∧ w'.cell? ⟨(ad167.add ((x14_1).toNat * 2)).block, (ad167.add ((x14_1).toNat * 2)).off + 1, none⟩ = some (.int .i64 ((rd_T45 t161 x14_1).f1))) (ds := []) #[false, false, false, false, false, false, false, false, false, false, false, false] (by kernel_rfl) rfl rfl ⟨hx180_0, hx180_1, hx181_0, hx181_1⟩ (fun hHeld => ?_); refine with_tabW spec_Scored.tab22 spec_Scored.bits22 (fun HT_ HW_ => ?_)
                             generalize wr.drew = w35 at HO_7 HO_8 HO_9 HB hx180_0 hx180_1 hx181_0 hx181_1 hHeld ⊢
                             refine pure_ (i := 0) (N := some 71) (v := ?_) (a' := ?_) #[true, false, false, false, false, false, false, false, false, false, false, false] rfl rfl (any_of HT_.out (by kernel_rfl)) (fun _ _ _ h => h) (Or.inl ⟨by rfl, ?_⟩) ?_ ?_
                             rotate_left
                             · intro w'
                               go_simp
                               with_reducible rfl
                             rotate_left
                             · simp only [Act.put, List.setIfInBounds_toArray, List.set_cons_zero, List.set_cons_succ, i64_w, i32_w]
                               rfl
                             refine pure_ (i := 1) (N := some 72) (v := ?_) (a' := ?_) #[true, true, false, false, false, false, false, false, false, false, false, false] rfl rfl (any_of HT_.out (by kernel_rfl)) (fun _ _ _ h => h) (Or.inl ⟨by rfl, ?_⟩) ?_ ?_
                             rotate_left
                             · intro w'
                               go_simp
                               with_reducible rfl
                             rotate_left
                             · simp only [Act.put, List.setIfInBounds_toArray, List.set_cons_zero, List.set_cons_succ, i64_w, i32_w]
                               rfl
                             refine pure_ (i := 2) (N := some 73) (v := ?_) (a' := ?_) #[true, true, true, false, false, false, false, false, false, false, false, false] rfl rfl (any_of HT_.out (by kernel_rfl)) (fun _ _ _ h => h) (Or.inl ⟨by rfl, ?_⟩) ?_ ?_
                             rotate_left
                             · intro w'
                               go_simp
                               with_reducible rfl
                             rotate_left
                             · simp only [Act.put, List.setIfInBounds_toArray, List.set_cons_zero, List.set_cons_succ, i64_w, i32_w]
                               rfl
                             refine pure_ (i := 3) (N := some 74) (v := ?_) (a' := ?_) #[true, true, true, true, false, false, false, false, false, false, false, false] rfl rfl (any_of HT_.out (by kernel_rfl)) (fun _ _ _ h => h) (Or.inl ⟨by rfl, ?_⟩) ?_ ?_
                             rotate_left
                             · intro w'
                               go_simp
                               with_reducible rfl
                             rotate_left
                             · simp only [Act.put, List.setIfInBounds_toArray, List.set_cons_zero, List.set_cons_succ, i64_w, i32_w]
                               rfl
                             refine pure_ (i := 5) (N := some 76) (v := ?_) (a' := ?_) #[true, true, true, true, false, true, false, false, false, false, false, false] rfl rfl (any_of HT_.out (by kernel_rfl)) (fun _ _ _ h => h) (Or.inl ⟨by rfl, ?_⟩) ?_ ?_
                             rotate_left
                             · intro w'
                               go_simp
                               with_reducible rfl
                             rotate_left
                             · simp only [Act.put, List.setIfInBounds_toArray, List.set_cons_zero, List.set_cons_succ, i64_w, i32_w]
                               rfl
                             refine pure_ (i := 6) (N := some 77) (v := ?_) (a' := ?_) #[true, true, true, true, false, true, true, false, false, false, false, false] rfl rfl (any_of HT_.out (by kernel_rfl)) (fun _ _ _ h => h) (Or.inl ⟨by rfl, ?_⟩) ?_ ?_
                             rotate_left
                             · intro w'
                               go_simp
                               with_reducible rfl
                             rotate_left
                             · simp only [Act.put, List.setIfInBounds_toArray, List.set_cons_zero, List.set_cons_succ, i64_w, i32_w]
                               rfl
                             refine pure_ (i := 7) (N := some 78) (v := ?_) (a' := ?_) #[true, true, true, true, false, true, true, true, false, false, false, false] rfl rfl (any_of HT_.out (by kernel_rfl)) (fun _ _ _ h => h) (Or.inl ⟨by rfl, ?_⟩) ?_ ?_
                             rotate_left
                             · intro w'
                               go_simp
                               with_reducible rfl
                             rotate_left
                             · simp only [Act.put, List.setIfInBounds_toArray, List.set_cons_zero, List.set_cons_succ, i64_w, i32_w]
                               rfl
                             refine pure_ (i := 8) (N := some 79) (v := ?_) (a' := ?_) #[true, true, true, true, false, true, true, true, true, false, false, false] rfl rfl (any_of HT_.out (by kernel_rfl)) (fun _ _ _ h => h) (Or.inl ⟨by rfl, ?_⟩) ?_ ?_
                             rotate_left
                             · intro w'
                               go_simp
                               with_reducible rfl
                             rotate_left
                             · simp only [Act.put, List.setIfInBounds_toArray, List.set_cons_zero, List.set_cons_succ, i64_w, i32_w]
                               rfl
                             refine take_ (i := 4) (N := some 75) (v := ?_) (a' := ?_) #[true, true, true, true, true, true, true, true, true, false, false, false] rfl rfl (take_ofW HT_.out HW_.out (by kernel_rfl)) (fun _ _ _ h => h) (Or.inl ⟨by rfl, ?_⟩) hHeld ?_ ?_
                             rotate_left
                             · rintro w' ⟨s0, s1, s2, s3⟩
                               go_simp
                               with_reducible rfl
                             rotate_left
                             · simp only [Act.put, List.setIfInBounds_toArray, List.set_cons_zero, List.set_cons_succ, i64_w, i32_w]
                               rfl
                             refine take_ (i := 9) (N := some 80) (v := ?_) (a' := ?_) #[true, true, true, true, true, true, true, true, true, true, false, false] rfl rfl (take_ofW HT_.out HW_.out (by kernel_rfl)) (fun _ _ _ h => h) (Or.inl ⟨by rfl, ?_⟩) hHeld ?_ ?_
                             rotate_left
                             · rintro w' ⟨s0, s1, s2, s3⟩
                               go_simp
                               with_reducible rfl
                             rotate_left
                             · simp only [Act.put, List.setIfInBounds_toArray, List.set_cons_zero, List.set_cons_succ, i64_w, i32_w]
                               rfl
                             refine one_ (i := 10) (N := some 81) #[true, true, true, true, true, true, true, true, true, true, true, false] rfl rfl (one_of HT_.out (by kernel_rfl)) (by decide) (fun K hK => ?_)
                             refine goes_ Tryd.func25 (by kernel_rfl) rfl #[.int .i32 ((rd_T45 t158 x20_3).f0), .int .i32 ((rd_T45 t161 x14_1).f0)] (by rfl) rfl rfl (by (try simp only [List.map_toArray, List.map_cons, List.map_nil]); first | done | rfl | (simp only [List.length_drop, List.length_take]; rfl)) ?_
                             with_reducible refine (spec_Alike.calls k3 ((rd_T45 t158 x20_3).f0) ((rd_T45 t161 x14_1).f0) true _ (by first | (with_reducible exact HAMB.out) | exact Amb.below HAMB.out (by repeat (first | (with_reducible first | exact HB.out | apply below_alloc | apply pw_below_drewN | apply below_drew1) | exact HB.out)) | exact Amb.below HAMB.out (by repeat (first | (with_reducible first | exact Below.refl _ _ | apply pw_below_drewN | apply below_drew1 | apply below_alloc)))) A30.out).mono ?_
                             rintro e w36 ⟨rfl, hb⟩
                             have HS0_ := (hb.cell (World.block_lt_of_cell? _ _ (hHeld.1))).trans (hHeld.1)
                             have HS1_ := (hb.cell (World.block_lt_of_cell? _ _ (hHeld.2.1))).trans (hHeld.2.1)
                             have HS2_ := (hb.cell (World.block_lt_of_cell? _ _ (hHeld.2.2.1))).trans (hHeld.2.2.1)
                             have HS3_ := (hb.cell (World.block_lt_of_cell? _ _ (hHeld.2.2.2))).trans (hHeld.2.2.2)
                             refine ⟨_, rfl, ?_⟩
                             have n0_ := Aside0.mk (Kd.R_below (by (with_reducible repeat (first | apply Kd.R_alloc | apply Kd.R_drewN | apply Kd.R_drew)); exact HO_7.out) hb)
                             have n1_ := Aside0.mk (Kd.R_below (by (with_reducible repeat (first | apply Kd.R_alloc | apply Kd.R_drewN | apply Kd.R_drew)); exact HO_8.out) hb)
                             have n2_ := Aside0.mk (Kd.R_below (by (with_reducible repeat (first | apply Kd.R_alloc | apply Kd.R_drewN | apply Kd.R_drew)); exact HO_9.out) hb)
                             have n3_ := Aside0.mk (below_step (by repeat (first | (with_reducible first | exact HB.out | apply below_alloc | apply pw_below_drewN | apply below_drew1) | exact HB.out)) hb)
                             clear HO_7
                             clear HO_8
                             clear HO_9
                             clear HB
                             have HO_7 := n0_
                             have HO_8 := n1_
                             have HO_9 := n2_
                             have HB := n3_
                             clear n0_ n1_ n2_ n3_
                             (try clear hb)
                             (try clear hb2)
                             (try clear hk)
                             (try clear hi)
                             refine hK.out _ _ ⟨HS0_, HS1_, HS2_, HS3_⟩ (fun hHeld => ?_)
                             clear hK K
                             refine norm_ (a' := ?_) ?_ ?_
                             rotate_left
                             · show Act.put _ (some 81) _ = _
                               simp only [Act.put, List.setIfInBounds_toArray, List.set_cons_zero, List.set_cons_succ, i64_w, i32_w]
                               rfl
                             refine pure_ (i := 11) (N := some 82) (v := ?_) (a' := ?_) #[true, true, true, true, true, true, true, true, true, true, true, true] rfl rfl (any_of HT_.out (by kernel_rfl)) (fun _ _ _ h => h) (Or.inl ⟨by rfl, ?_⟩) ?_ ?_
                             rotate_left
                             · intro w'
                               go_simp
                               with_reducible rfl
                             rotate_left
                             · simp only [Act.put, List.setIfInBounds_toArray, List.set_cons_zero, List.set_cons_succ, i64_w, i32_w]
                               rfl
                             refine done_ (done_of HT_.out (by kernel_rfl)) ?_
                             try go_wp2_with (first | ((with_reducible refine gate_callee (f := 29) rfl ?_); refine goesL_ (some 85) rfl rfl Tryd.func29 (by kernel_rfl) rfl #[.slice (some ad180) t158.length co18, .int .i64 x20_3] rfl (by (try simp only [List.map_toArray, List.map_cons, List.map_nil]); first | done | rfl | (simp only [List.length_drop, List.length_take]; rfl)) ?_; (with_reducible refine (spec_worth.calls k3 _ _ t158 x20_3 t183 _ ?side1 ?side2 (by first | (with_reducible exact HAMB.out) | exact Amb.below HAMB.out (by repeat (first | (with_reducible first | exact HB.out | apply below_alloc | apply pw_below_drewN | apply below_drew1) | exact HB.out)) | exact Amb.below HAMB.out (by repeat (first | (with_reducible first | exact Below.refl _ _ | apply pw_below_drewN | apply below_drew1 | apply below_alloc)))) A32.out).mono ?_); (case side1 => repeat (first | exact (Kd.R_reads' HO_7.out).2.2 | (with_reducible refine Kd.C_alloc ?_ _) | (with_reducible refine Kd.C_drewN ?_ _) | (with_reducible refine Kd.C_drew ?_))); (case side2 => exact (Kd.R_reads' HO_7.out).2.1); rintro e w37 ⟨rfl, hb⟩; refine ⟨_, rfl, ?_⟩; have n0_ := Aside0.mk (Kd.R_below (by (with_reducible repeat (first | apply Kd.R_alloc | apply Kd.R_drewN | apply Kd.R_drew)); exact HO_7.out) hb); have n1_ := Aside0.mk (Kd.R_below (by (with_reducible repeat (first | apply Kd.R_alloc | apply Kd.R_drewN | apply Kd.R_drew)); exact HO_8.out) hb); have n2_ := Aside0.mk (Kd.R_below (by (with_reducible repeat (first | apply Kd.R_alloc | apply Kd.R_drewN | apply Kd.R_drew)); exact HO_9.out) hb); have n3_ := Aside0.mk (below_step (by repeat (first | (with_reducible first | exact HB.out | apply below_alloc | apply pw_below_drewN | apply below_drew1) | exact HB.out)) hb); clear HO_7; clear HO_8; clear HO_9; clear HB; have HO_7 := n0_; have HO_8 := n1_; have HO_9 := n2_; have HB := n3_; clear n0_ n1_ n2_ n3_; (try clear hb); (try clear hb2); (try clear hk); (try clear hi)))
                             go_roundg k3
                             case measure => have := HK1.out; have := HJ15.out; have := HK3.out; omega
                             case rel => exact ⟨(wrap64 ((wrap64 (x11_3 + (wrap64 (2 * x11_3)))) + 5)), (wrap64 ((wrap64 (t183 + (wrap64 (2 * x11_3)))) + 5)), (x20_3), (wrap64 (x20_3 + 1)), (by first | rfl | (simp; done) | (simp [*]; done)), (by first | rfl | (simp; done) | (simp [*]; done)), (by first | rfl | (simp; done) | (simp [*]; done)), (by first | rfl | (simp; done) | (simp [*]; done)), H', ⟨by have := HK1.out; have := HJ15.out; have := HK3.out; omega⟩, ⟨by (with_reducible repeat (first | apply Kd.R_alloc | apply Kd.R_drewN | apply Kd.R_drew)); exact HO_7.out⟩, ⟨by (with_reducible repeat (first | apply Kd.R_alloc | apply Kd.R_drewN | apply Kd.R_drew)); exact HO_8.out⟩, ⟨by (with_reducible repeat (first | apply Kd.R_alloc | apply Kd.R_drewN | apply Kd.R_drew)); exact HO_9.out⟩, ⟨by repeat (first | (with_reducible first | exact HB.out | apply below_alloc | apply pw_below_drewN | apply below_drew1) | exact HB.out)⟩⟩
                           · rw [if_neg c34] at H
                             have c34b0 : decide (x18_3 < (wrap64 ((wrap64 (t183 + (wrap64 (2 * x11_3)))) + 5))) = false := decide_eq_false c34
                             clear c34
                             have H' := Aside0.mk H
                             clear H
                             try go_wp2
                             have n0_ := Aside0.mk (Kd.R_drew HO_7.out)
                             have n1_ := Aside0.mk (Kd.R_drew HO_8.out)
                             have n2_ := Aside0.mk (Kd.R_drew HO_9.out)
                             have n3_ := Aside0.mk (below_drew1 HB.out)
                             clear HO_7
                             clear HO_8
                             clear HO_9
                             clear HB
                             have HO_7 := n0_
                             have HO_8 := n1_
                             have HO_9 := n2_
                             have HB := n3_
                             clear n0_ n1_ n2_ n3_
                             have p180 : 0 ≤ (x20_3 : Int) := of_decide_eq_true (by first | (with_reducible assumption) | assumption)
                             have q180 : x20_3 < (t158.length : Int) := of_decide_eq_true (by first | (with_reducible assumption) | assumption)
                             obtain ⟨ad180, e180, hx180_0, hx180_1⟩ := at_T45 (Kd.R_reads' HO_7.out).2.2 x20_3 p180 q180
                             cases e180
                             replace p180 := eq_true p180
                             replace q180 := eq_true q180
                             have p181 : 0 ≤ (x14_1 : Int) := of_decide_eq_true (by first | (with_reducible assumption) | assumption)
                             have q181 : x14_1 < (t161.length : Int) := of_decide_eq_true (by first | (with_reducible assumption) | assumption)
                             obtain ⟨ad181, e181, hx181_0, hx181_1⟩ := at_T45 (Kd.R_reads' HO_8.out).2.2 x14_1 p181 q181
                             obtain rfl : ad167 = ad181 := (by injection e181)
                             replace p181 := eq_true p181
                             replace q181 := eq_true q181
                             refine start_ (n := 12) (S := fun w' => w'.cell? (ad180.add ((x20_3).toNat * 2)) = some (.int .i32 ((rd_T45 t158 x20_3).f0)) ∧ w'.cell? ⟨(ad180.add ((x20_3).toNat * 2)).block, (ad180.add ((x20_3).toNat * 2)).off + 1, none⟩ = some (.int .i64 ((rd_T45 t158 x20_3).f1)) ∧ w'.cell? (ad167.add ((x14_1).toNat * 2)) = some (.int .i32 ((rd_T45 t161 x14_1).f0)) ∧ w'.cell? ⟨(ad167.add ((x14_1).toNat * 2)).block, (ad167.add ((x14_1).toNat * 2)).off + 1, none⟩ = some (.int .i64 ((rd_T45 t161 x14_1).f1))) (ds := []) #[false, false, false, false, false, false, false, false, false, false, false, false] (by kernel_rfl) rfl rfl ⟨hx180_0, hx180_1, hx181_0, hx181_1⟩ (fun hHeld => ?_); refine with_tabW spec_Scored.tab22 spec_Scored.bits22 (fun HT_ HW_ => ?_)
                             generalize wr.drew = w38 at HO_7 HO_8 HO_9 HB hx180_0 hx180_1 hx181_0 hx181_1 hHeld ⊢
                             refine pure_ (i := 0) (N := some 71) (v := ?_) (a' := ?_) #[true, false, false, false, false, false, false, false, false, false, false, false] rfl rfl (any_of HT_.out (by kernel_rfl)) (fun _ _ _ h => h) (Or.inl ⟨by rfl, ?_⟩) ?_ ?_
                             rotate_left
                             · intro w'
                               go_simp
                               with_reducible rfl
                             rotate_left
                             · simp only [Act.put, List.setIfInBounds_toArray, List.set_cons_zero, List.set_cons_succ, i64_w, i32_w]
                               rfl
                             refine pure_ (i := 1) (N := some 72) (v := ?_) (a' := ?_) #[true, true, false, false, false, false, false, false, false, false, false, false] rfl rfl (any_of HT_.out (by kernel_rfl)) (fun _ _ _ h => h) (Or.inl ⟨by rfl, ?_⟩) ?_ ?_
                             rotate_left
                             · intro w'
                               go_simp
                               with_reducible rfl
                             rotate_left
                             · simp only [Act.put, List.setIfInBounds_toArray, List.set_cons_zero, List.set_cons_succ, i64_w, i32_w]
                               rfl
                             refine pure_ (i := 2) (N := some 73) (v := ?_) (a' := ?_) #[true, true, true, false, false, false, false, false, false, false, false, false] rfl rfl (any_of HT_.out (by kernel_rfl)) (fun _ _ _ h => h) (Or.inl ⟨by rfl, ?_⟩) ?_ ?_
                             rotate_left
                             · intro w'
                               go_simp
                               with_reducible rfl
                             rotate_left
                             · simp only [Act.put, List.setIfInBounds_toArray, List.set_cons_zero, List.set_cons_succ, i64_w, i32_w]
                               rfl
                             refine pure_ (i := 3) (N := some 74) (v := ?_) (a' := ?_) #[true, true, true, true, false, false, false, false, false, false, false, false] rfl rfl (any_of HT_.out (by kernel_rfl)) (fun _ _ _ h => h) (Or.inl ⟨by rfl, ?_⟩) ?_ ?_
                             rotate_left
                             · intro w'
                               go_simp
                               with_reducible rfl
                             rotate_left
                             · simp only [Act.put, List.setIfInBounds_toArray, List.set_cons_zero, List.set_cons_succ, i64_w, i32_w]
                               rfl
                             refine pure_ (i := 5) (N := some 76) (v := ?_) (a' := ?_) #[true, true, true, true, false, true, false, false, false, false, false, false] rfl rfl (any_of HT_.out (by kernel_rfl)) (fun _ _ _ h => h) (Or.inl ⟨by rfl, ?_⟩) ?_ ?_
                             rotate_left
                             · intro w'
                               go_simp
                               with_reducible rfl
                             rotate_left
                             · simp only [Act.put, List.setIfInBounds_toArray, List.set_cons_zero, List.set_cons_succ, i64_w, i32_w]
                               rfl
                             refine pure_ (i := 6) (N := some 77) (v := ?_) (a' := ?_) #[true, true, true, true, false, true, true, false, false, false, false, false] rfl rfl (any_of HT_.out (by kernel_rfl)) (fun _ _ _ h => h) (Or.inl ⟨by rfl, ?_⟩) ?_ ?_
                             rotate_left
                             · intro w'
                               go_simp
                               with_reducible rfl
                             rotate_left
                             · simp only [Act.put, List.setIfInBounds_toArray, List.set_cons_zero, List.set_cons_succ, i64_w, i32_w]
                               rfl
                             refine pure_ (i := 7) (N := some 78) (v := ?_) (a' := ?_) #[true, true, true, true, false, true, true, true, false, false, false, false] rfl rfl (any_of HT_.out (by kernel_rfl)) (fun _ _ _ h => h) (Or.inl ⟨by rfl, ?_⟩) ?_ ?_
                             rotate_left
                             · intro w'
                               go_simp
                               with_reducible rfl
                             rotate_left
                             · simp only [Act.put, List.setIfInBounds_toArray, List.set_cons_zero, List.set_cons_succ, i64_w, i32_w]
                               rfl
                             refine pure_ (i := 8) (N := some 79) (v := ?_) (a' := ?_) #[true, true, true, true, false, true, true, true, true, false, false, false] rfl rfl (any_of HT_.out (by kernel_rfl)) (fun _ _ _ h => h) (Or.inl ⟨by rfl, ?_⟩) ?_ ?_
                             rotate_left
                             · intro w'
                               go_simp
                               with_reducible rfl
                             rotate_left
                             · simp only [Act.put, List.setIfInBounds_toArray, List.set_cons_zero, List.set_cons_succ, i64_w, i32_w]
                               rfl
                             refine take_ (i := 4) (N := some 75) (v := ?_) (a' := ?_) #[true, true, true, true, true, true, true, true, true, false, false, false] rfl rfl (take_ofW HT_.out HW_.out (by kernel_rfl)) (fun _ _ _ h => h) (Or.inl ⟨by rfl, ?_⟩) hHeld ?_ ?_
                             rotate_left
                             · rintro w' ⟨s0, s1, s2, s3⟩
                               go_simp
                               with_reducible rfl
                             rotate_left
                             · simp only [Act.put, List.setIfInBounds_toArray, List.set_cons_zero, List.set_cons_succ, i64_w, i32_w]
                               rfl
                             refine take_ (i := 9) (N := some 80) (v := ?_) (a' := ?_) #[true, true, true, true, true, true, true, true, true, true, false, false] rfl rfl (take_ofW HT_.out HW_.out (by kernel_rfl)) (fun _ _ _ h => h) (Or.inl ⟨by rfl, ?_⟩) hHeld ?_ ?_
                             rotate_left
                             · rintro w' ⟨s0, s1, s2, s3⟩
                               go_simp
                               with_reducible rfl
                             rotate_left
                             · simp only [Act.put, List.setIfInBounds_toArray, List.set_cons_zero, List.set_cons_succ, i64_w, i32_w]
                               rfl
                             refine one_ (i := 10) (N := some 81) #[true, true, true, true, true, true, true, true, true, true, true, false] rfl rfl (one_of HT_.out (by kernel_rfl)) (by decide) (fun K hK => ?_)
                             refine goes_ Tryd.func25 (by kernel_rfl) rfl #[.int .i32 ((rd_T45 t158 x20_3).f0), .int .i32 ((rd_T45 t161 x14_1).f0)] (by rfl) rfl rfl (by (try simp only [List.map_toArray, List.map_cons, List.map_nil]); first | done | rfl | (simp only [List.length_drop, List.length_take]; rfl)) ?_
                             with_reducible refine (spec_Alike.calls k3 ((rd_T45 t158 x20_3).f0) ((rd_T45 t161 x14_1).f0) true _ (by first | (with_reducible exact HAMB.out) | exact Amb.below HAMB.out (by repeat (first | (with_reducible first | exact HB.out | apply below_alloc | apply pw_below_drewN | apply below_drew1) | exact HB.out)) | exact Amb.below HAMB.out (by repeat (first | (with_reducible first | exact Below.refl _ _ | apply pw_below_drewN | apply below_drew1 | apply below_alloc)))) A30.out).mono ?_
                             rintro e w39 ⟨rfl, hb⟩
                             have HS0_ := (hb.cell (World.block_lt_of_cell? _ _ (hHeld.1))).trans (hHeld.1)
                             have HS1_ := (hb.cell (World.block_lt_of_cell? _ _ (hHeld.2.1))).trans (hHeld.2.1)
                             have HS2_ := (hb.cell (World.block_lt_of_cell? _ _ (hHeld.2.2.1))).trans (hHeld.2.2.1)
                             have HS3_ := (hb.cell (World.block_lt_of_cell? _ _ (hHeld.2.2.2))).trans (hHeld.2.2.2)
                             refine ⟨_, rfl, ?_⟩
                             have n0_ := Aside0.mk (Kd.R_below (by (with_reducible repeat (first | apply Kd.R_alloc | apply Kd.R_drewN | apply Kd.R_drew)); exact HO_7.out) hb)
                             have n1_ := Aside0.mk (Kd.R_below (by (with_reducible repeat (first | apply Kd.R_alloc | apply Kd.R_drewN | apply Kd.R_drew)); exact HO_8.out) hb)
                             have n2_ := Aside0.mk (Kd.R_below (by (with_reducible repeat (first | apply Kd.R_alloc | apply Kd.R_drewN | apply Kd.R_drew)); exact HO_9.out) hb)
                             have n3_ := Aside0.mk (below_step (by repeat (first | (with_reducible first | exact HB.out | apply below_alloc | apply pw_below_drewN | apply below_drew1) | exact HB.out)) hb)
                             clear HO_7
                             clear HO_8
                             clear HO_9
                             clear HB
                             have HO_7 := n0_
                             have HO_8 := n1_
                             have HO_9 := n2_
                             have HB := n3_
                             clear n0_ n1_ n2_ n3_
                             (try clear hb)
                             (try clear hb2)
                             (try clear hk)
                             (try clear hi)
                             refine hK.out _ _ ⟨HS0_, HS1_, HS2_, HS3_⟩ (fun hHeld => ?_)
                             clear hK K
                             refine norm_ (a' := ?_) ?_ ?_
                             rotate_left
                             · show Act.put _ (some 81) _ = _
                               simp only [Act.put, List.setIfInBounds_toArray, List.set_cons_zero, List.set_cons_succ, i64_w, i32_w]
                               rfl
                             refine pure_ (i := 11) (N := some 82) (v := ?_) (a' := ?_) #[true, true, true, true, true, true, true, true, true, true, true, true] rfl rfl (any_of HT_.out (by kernel_rfl)) (fun _ _ _ h => h) (Or.inl ⟨by rfl, ?_⟩) ?_ ?_
                             rotate_left
                             · intro w'
                               go_simp
                               with_reducible rfl
                             rotate_left
                             · simp only [Act.put, List.setIfInBounds_toArray, List.set_cons_zero, List.set_cons_succ, i64_w, i32_w]
                               rfl
                             refine done_ (done_of HT_.out (by kernel_rfl)) ?_
                             try go_wp2_with (first | ((with_reducible refine gate_callee (f := 29) rfl ?_); refine goesL_ (some 85) rfl rfl Tryd.func29 (by kernel_rfl) rfl #[.slice (some ad180) t158.length co18, .int .i64 x20_3] rfl (by (try simp only [List.map_toArray, List.map_cons, List.map_nil]); first | done | rfl | (simp only [List.length_drop, List.length_take]; rfl)) ?_; (with_reducible refine (spec_worth.calls k3 _ _ t158 x20_3 t183 _ ?side1 ?side2 (by first | (with_reducible exact HAMB.out) | exact Amb.below HAMB.out (by repeat (first | (with_reducible first | exact HB.out | apply below_alloc | apply pw_below_drewN | apply below_drew1) | exact HB.out)) | exact Amb.below HAMB.out (by repeat (first | (with_reducible first | exact Below.refl _ _ | apply pw_below_drewN | apply below_drew1 | apply below_alloc)))) A32.out).mono ?_); (case side1 => repeat (first | exact (Kd.R_reads' HO_7.out).2.2 | (with_reducible refine Kd.C_alloc ?_ _) | (with_reducible refine Kd.C_drewN ?_ _) | (with_reducible refine Kd.C_drew ?_))); (case side2 => exact (Kd.R_reads' HO_7.out).2.1); rintro e w40 ⟨rfl, hb⟩; refine ⟨_, rfl, ?_⟩; have n0_ := Aside0.mk (Kd.R_below (by (with_reducible repeat (first | apply Kd.R_alloc | apply Kd.R_drewN | apply Kd.R_drew)); exact HO_7.out) hb); have n1_ := Aside0.mk (Kd.R_below (by (with_reducible repeat (first | apply Kd.R_alloc | apply Kd.R_drewN | apply Kd.R_drew)); exact HO_8.out) hb); have n2_ := Aside0.mk (Kd.R_below (by (with_reducible repeat (first | apply Kd.R_alloc | apply Kd.R_drewN | apply Kd.R_drew)); exact HO_9.out) hb); have n3_ := Aside0.mk (below_step (by repeat (first | (with_reducible first | exact HB.out | apply below_alloc | apply pw_below_drewN | apply below_drew1) | exact HB.out)) hb); clear HO_7; clear HO_8; clear HO_9; clear HB; have HO_7 := n0_; have HO_8 := n1_; have HO_9 := n2_; have HB := n3_; clear n0_ n1_ n2_ n3_; (try clear hb); (try clear hb2); (try clear hk); (try clear hi)))
                             go_roundg k3
                             case measure => have := HK1.out; have := HJ15.out; have := HK3.out; omega
                             case rel => exact ⟨(wrap64 ((wrap64 (x11_3 + (wrap64 (2 * x11_3)))) + 5)), (x18_3), (x19_3), (wrap64 (x20_3 + 1)), (by first | rfl | (simp; done) | (simp [*]; done)), (by first | rfl | (simp; done) | (simp [*]; done)), (by first | rfl | (simp; done) | (simp [*]; done)), (by first | rfl | (simp; done) | (simp [*]; done)), H', ⟨by have := HK1.out; have := HJ15.out; have := HK3.out; omega⟩, ⟨by (with_reducible repeat (first | apply Kd.R_alloc | apply Kd.R_drewN | apply Kd.R_drew)); exact HO_7.out⟩, ⟨by (with_reducible repeat (first | apply Kd.R_alloc | apply Kd.R_drewN | apply Kd.R_drew)); exact HO_8.out⟩, ⟨by (with_reducible repeat (first | apply Kd.R_alloc | apply Kd.R_drewN | apply Kd.R_drew)); exact HO_9.out⟩, ⟨by repeat (first | (with_reducible first | exact HB.out | apply below_alloc | apply pw_below_drewN | apply below_drew1) | exact HB.out)⟩⟩
                         · rw [if_neg c33] at H
                           have c33b0 : (x20_3 == (wrap64 (x13_1 + 1))) = false := beq_eq_false_iff_ne.mpr c33
                           have c33b1 : (x20_3 != (wrap64 (x13_1 + 1))) = true := bne_iff_ne.mpr c33
                           by_cases c41 : t183 > x18_3
                           · rw [if_pos c41] at H
                             have c41b0 : decide (x18_3 < t183) = true := decide_eq_true c41
                             clear c41
                             have H' := Aside0.mk H
                             clear H
                             try go_wp2
                             have n0_ := Aside0.mk (Kd.R_drew HO_7.out)
                             have n1_ := Aside0.mk (Kd.R_drew HO_8.out)
                             have n2_ := Aside0.mk (Kd.R_drew HO_9.out)
                             have n3_ := Aside0.mk (below_drew1 HB.out)
                             clear HO_7
                             clear HO_8
                             clear HO_9
                             clear HB
                             have HO_7 := n0_
                             have HO_8 := n1_
                             have HO_9 := n2_
                             have HB := n3_
                             clear n0_ n1_ n2_ n3_
                             have p180 : 0 ≤ (x20_3 : Int) := of_decide_eq_true (by first | (with_reducible assumption) | assumption)
                             have q180 : x20_3 < (t158.length : Int) := of_decide_eq_true (by first | (with_reducible assumption) | assumption)
                             obtain ⟨ad180, e180, hx180_0, hx180_1⟩ := at_T45 (Kd.R_reads' HO_7.out).2.2 x20_3 p180 q180
                             cases e180
                             replace p180 := eq_true p180
                             replace q180 := eq_true q180
                             have p181 : 0 ≤ (x14_1 : Int) := of_decide_eq_true (by first | (with_reducible assumption) | assumption)
                             have q181 : x14_1 < (t161.length : Int) := of_decide_eq_true (by first | (with_reducible assumption) | assumption)
                             obtain ⟨ad181, e181, hx181_0, hx181_1⟩ := at_T45 (Kd.R_reads' HO_8.out).2.2 x14_1 p181 q181
                             obtain rfl : ad167 = ad181 := (by injection e181)
                             replace p181 := eq_true p181
                             replace q181 := eq_true q181
                             refine start_ (n := 12) (S := fun w' => w'.cell? (ad180.add ((x20_3).toNat * 2)) = some (.int .i32 ((rd_T45 t158 x20_3).f0)) ∧ w'.cell? ⟨(ad180.add ((x20_3).toNat * 2)).block, (ad180.add ((x20_3).toNat * 2)).off + 1, none⟩ = some (.int .i64 ((rd_T45 t158 x20_3).f1)) ∧ w'.cell? (ad167.add ((x14_1).toNat * 2)) = some (.int .i32 ((rd_T45 t161 x14_1).f0)) ∧ w'.cell? ⟨(ad167.add ((x14_1).toNat * 2)).block, (ad167.add ((x14_1).toNat * 2)).off + 1, none⟩ = some (.int .i64 ((rd_T45 t161 x14_1).f1))) (ds := []) #[false, false, false, false, false, false, false, false, false, false, false, false] (by kernel_rfl) rfl rfl ⟨hx180_0, hx180_1, hx181_0, hx181_1⟩ (fun hHeld => ?_); refine with_tabW spec_Scored.tab22 spec_Scored.bits22 (fun HT_ HW_ => ?_)
                             generalize wr.drew = w42 at HO_7 HO_8 HO_9 HB hx180_0 hx180_1 hx181_0 hx181_1 hHeld ⊢
                             refine pure_ (i := 0) (N := some 71) (v := ?_) (a' := ?_) #[true, false, false, false, false, false, false, false, false, false, false, false] rfl rfl (any_of HT_.out (by kernel_rfl)) (fun _ _ _ h => h) (Or.inl ⟨by rfl, ?_⟩) ?_ ?_
                             rotate_left
                             · intro w'
                               go_simp
                               with_reducible rfl
                             rotate_left
                             · simp only [Act.put, List.setIfInBounds_toArray, List.set_cons_zero, List.set_cons_succ, i64_w, i32_w]
                               rfl
                             refine pure_ (i := 1) (N := some 72) (v := ?_) (a' := ?_) #[true, true, false, false, false, false, false, false, false, false, false, false] rfl rfl (any_of HT_.out (by kernel_rfl)) (fun _ _ _ h => h) (Or.inl ⟨by rfl, ?_⟩) ?_ ?_
                             rotate_left
                             · intro w'
                               go_simp
                               with_reducible rfl
                             rotate_left
                             · simp only [Act.put, List.setIfInBounds_toArray, List.set_cons_zero, List.set_cons_succ, i64_w, i32_w]
                               rfl
                             refine pure_ (i := 2) (N := some 73) (v := ?_) (a' := ?_) #[true, true, true, false, false, false, false, false, false, false, false, false] rfl rfl (any_of HT_.out (by kernel_rfl)) (fun _ _ _ h => h) (Or.inl ⟨by rfl, ?_⟩) ?_ ?_
                             rotate_left
                             · intro w'
                               go_simp
                               with_reducible rfl
                             rotate_left
                             · simp only [Act.put, List.setIfInBounds_toArray, List.set_cons_zero, List.set_cons_succ, i64_w, i32_w]
                               rfl
                             refine pure_ (i := 3) (N := some 74) (v := ?_) (a' := ?_) #[true, true, true, true, false, false, false, false, false, false, false, false] rfl rfl (any_of HT_.out (by kernel_rfl)) (fun _ _ _ h => h) (Or.inl ⟨by rfl, ?_⟩) ?_ ?_
                             rotate_left
                             · intro w'
                               go_simp
                               with_reducible rfl
                             rotate_left
                             · simp only [Act.put, List.setIfInBounds_toArray, List.set_cons_zero, List.set_cons_succ, i64_w, i32_w]
                               rfl
                             refine pure_ (i := 5) (N := some 76) (v := ?_) (a' := ?_) #[true, true, true, true, false, true, false, false, false, false, false, false] rfl rfl (any_of HT_.out (by kernel_rfl)) (fun _ _ _ h => h) (Or.inl ⟨by rfl, ?_⟩) ?_ ?_
                             rotate_left
                             · intro w'
                               go_simp
                               with_reducible rfl
                             rotate_left
                             · simp only [Act.put, List.setIfInBounds_toArray, List.set_cons_zero, List.set_cons_succ, i64_w, i32_w]
                               rfl
                             refine pure_ (i := 6) (N := some 77) (v := ?_) (a' := ?_) #[true, true, true, true, false, true, true, false, false, false, false, false] rfl rfl (any_of HT_.out (by kernel_rfl)) (fun _ _ _ h => h) (Or.inl ⟨by rfl, ?_⟩) ?_ ?_
                             rotate_left
                             · intro w'
                               go_simp
                               with_reducible rfl
                             rotate_left
                             · simp only [Act.put, List.setIfInBounds_toArray, List.set_cons_zero, List.set_cons_succ, i64_w, i32_w]
                               rfl
                             refine pure_ (i := 7) (N := some 78) (v := ?_) (a' := ?_) #[true, true, true, true, false, true, true, true, false, false, false, false] rfl rfl (any_of HT_.out (by kernel_rfl)) (fun _ _ _ h => h) (Or.inl ⟨by rfl, ?_⟩) ?_ ?_
                             rotate_left
                             · intro w'
                               go_simp
                               with_reducible rfl
                             rotate_left
                             · simp only [Act.put, List.setIfInBounds_toArray, List.set_cons_zero, List.set_cons_succ, i64_w, i32_w]
                               rfl
                             refine pure_ (i := 8) (N := some 79) (v := ?_) (a' := ?_) #[true, true, true, true, false, true, true, true, true, false, false, false] rfl rfl (any_of HT_.out (by kernel_rfl)) (fun _ _ _ h => h) (Or.inl ⟨by rfl, ?_⟩) ?_ ?_
                             rotate_left
                             · intro w'
                               go_simp
                               with_reducible rfl
                             rotate_left
                             · simp only [Act.put, List.setIfInBounds_toArray, List.set_cons_zero, List.set_cons_succ, i64_w, i32_w]
                               rfl
                             refine take_ (i := 4) (N := some 75) (v := ?_) (a' := ?_) #[true, true, true, true, true, true, true, true, true, false, false, false] rfl rfl (take_ofW HT_.out HW_.out (by kernel_rfl)) (fun _ _ _ h => h) (Or.inl ⟨by rfl, ?_⟩) hHeld ?_ ?_
                             rotate_left
                             · rintro w' ⟨s0, s1, s2, s3⟩
                               go_simp
                               with_reducible rfl
                             rotate_left
                             · simp only [Act.put, List.setIfInBounds_toArray, List.set_cons_zero, List.set_cons_succ, i64_w, i32_w]
                               rfl
                             refine take_ (i := 9) (N := some 80) (v := ?_) (a' := ?_) #[true, true, true, true, true, true, true, true, true, true, false, false] rfl rfl (take_ofW HT_.out HW_.out (by kernel_rfl)) (fun _ _ _ h => h) (Or.inl ⟨by rfl, ?_⟩) hHeld ?_ ?_
                             rotate_left
                             · rintro w' ⟨s0, s1, s2, s3⟩
                               go_simp
                               with_reducible rfl
                             rotate_left
                             · simp only [Act.put, List.setIfInBounds_toArray, List.set_cons_zero, List.set_cons_succ, i64_w, i32_w]
                               rfl
                             refine one_ (i := 10) (N := some 81) #[true, true, true, true, true, true, true, true, true, true, true, false] rfl rfl (one_of HT_.out (by kernel_rfl)) (by decide) (fun K hK => ?_)
                             refine goes_ Tryd.func25 (by kernel_rfl) rfl #[.int .i32 ((rd_T45 t158 x20_3).f0), .int .i32 ((rd_T45 t161 x14_1).f0)] (by rfl) rfl rfl (by (try simp only [List.map_toArray, List.map_cons, List.map_nil]); first | done | rfl | (simp only [List.length_drop, List.length_take]; rfl)) ?_
                             with_reducible refine (spec_Alike.calls k3 ((rd_T45 t158 x20_3).f0) ((rd_T45 t161 x14_1).f0) true _ (by first | (with_reducible exact HAMB.out) | exact Amb.below HAMB.out (by repeat (first | (with_reducible first | exact HB.out | apply below_alloc | apply pw_below_drewN | apply below_drew1) | exact HB.out)) | exact Amb.below HAMB.out (by repeat (first | (with_reducible first | exact Below.refl _ _ | apply pw_below_drewN | apply below_drew1 | apply below_alloc)))) A30.out).mono ?_
                             rintro e w43 ⟨rfl, hb⟩
                             have HS0_ := (hb.cell (World.block_lt_of_cell? _ _ (hHeld.1))).trans (hHeld.1)
                             have HS1_ := (hb.cell (World.block_lt_of_cell? _ _ (hHeld.2.1))).trans (hHeld.2.1)
                             have HS2_ := (hb.cell (World.block_lt_of_cell? _ _ (hHeld.2.2.1))).trans (hHeld.2.2.1)
                             have HS3_ := (hb.cell (World.block_lt_of_cell? _ _ (hHeld.2.2.2))).trans (hHeld.2.2.2)
                             refine ⟨_, rfl, ?_⟩
                             have n0_ := Aside0.mk (Kd.R_below (by (with_reducible repeat (first | apply Kd.R_alloc | apply Kd.R_drewN | apply Kd.R_drew)); exact HO_7.out) hb)
                             have n1_ := Aside0.mk (Kd.R_below (by (with_reducible repeat (first | apply Kd.R_alloc | apply Kd.R_drewN | apply Kd.R_drew)); exact HO_8.out) hb)
                             have n2_ := Aside0.mk (Kd.R_below (by (with_reducible repeat (first | apply Kd.R_alloc | apply Kd.R_drewN | apply Kd.R_drew)); exact HO_9.out) hb)
                             have n3_ := Aside0.mk (below_step (by repeat (first | (with_reducible first | exact HB.out | apply below_alloc | apply pw_below_drewN | apply below_drew1) | exact HB.out)) hb)
                             clear HO_7
                             clear HO_8
                             clear HO_9
                             clear HB
                             have HO_7 := n0_
                             have HO_8 := n1_
                             have HO_9 := n2_
                             have HB := n3_
                             clear n0_ n1_ n2_ n3_
                             (try clear hb)
                             (try clear hb2)
                             (try clear hk)
                             (try clear hi)
                             refine hK.out _ _ ⟨HS0_, HS1_, HS2_, HS3_⟩ (fun hHeld => ?_)
                             clear hK K
                             refine norm_ (a' := ?_) ?_ ?_
                             rotate_left
                             · show Act.put _ (some 81) _ = _
                               simp only [Act.put, List.setIfInBounds_toArray, List.set_cons_zero, List.set_cons_succ, i64_w, i32_w]
                               rfl
                             refine pure_ (i := 11) (N := some 82) (v := ?_) (a' := ?_) #[true, true, true, true, true, true, true, true, true, true, true, true] rfl rfl (any_of HT_.out (by kernel_rfl)) (fun _ _ _ h => h) (Or.inl ⟨by rfl, ?_⟩) ?_ ?_
                             rotate_left
                             · intro w'
                               go_simp
                               with_reducible rfl
                             rotate_left
                             · simp only [Act.put, List.setIfInBounds_toArray, List.set_cons_zero, List.set_cons_succ, i64_w, i32_w]
                               rfl
                             refine done_ (done_of HT_.out (by kernel_rfl)) ?_
                             try go_wp2_with (first | ((with_reducible refine gate_callee (f := 29) rfl ?_); refine goesL_ (some 85) rfl rfl Tryd.func29 (by kernel_rfl) rfl #[.slice (some ad180) t158.length co18, .int .i64 x20_3] rfl (by (try simp only [List.map_toArray, List.map_cons, List.map_nil]); first | done | rfl | (simp only [List.length_drop, List.length_take]; rfl)) ?_; (with_reducible refine (spec_worth.calls k3 _ _ t158 x20_3 t183 _ ?side1 ?side2 (by first | (with_reducible exact HAMB.out) | exact Amb.below HAMB.out (by repeat (first | (with_reducible first | exact HB.out | apply below_alloc | apply pw_below_drewN | apply below_drew1) | exact HB.out)) | exact Amb.below HAMB.out (by repeat (first | (with_reducible first | exact Below.refl _ _ | apply pw_below_drewN | apply below_drew1 | apply below_alloc)))) A32.out).mono ?_); (case side1 => repeat (first | exact (Kd.R_reads' HO_7.out).2.2 | (with_reducible refine Kd.C_alloc ?_ _) | (with_reducible refine Kd.C_drewN ?_ _) | (with_reducible refine Kd.C_drew ?_))); (case side2 => exact (Kd.R_reads' HO_7.out).2.1); rintro e w44 ⟨rfl, hb⟩; refine ⟨_, rfl, ?_⟩; have n0_ := Aside0.mk (Kd.R_below (by (with_reducible repeat (first | apply Kd.R_alloc | apply Kd.R_drewN | apply Kd.R_drew)); exact HO_7.out) hb); have n1_ := Aside0.mk (Kd.R_below (by (with_reducible repeat (first | apply Kd.R_alloc | apply Kd.R_drewN | apply Kd.R_drew)); exact HO_8.out) hb); have n2_ := Aside0.mk (Kd.R_below (by (with_reducible repeat (first | apply Kd.R_alloc | apply Kd.R_drewN | apply Kd.R_drew)); exact HO_9.out) hb); have n3_ := Aside0.mk (below_step (by repeat (first | (with_reducible first | exact HB.out | apply below_alloc | apply pw_below_drewN | apply below_drew1) | exact HB.out)) hb); clear HO_7; clear HO_8; clear HO_9; clear HB; have HO_7 := n0_; have HO_8 := n1_; have HO_9 := n2_; have HB := n3_; clear n0_ n1_ n2_ n3_; (try clear hb); (try clear hb2); (try clear hk); (try clear hi)))
                             go_roundg k3
                             case measure => have := HK1.out; have := HJ15.out; have := HK3.out; omega
                             case rel => exact ⟨(x11_3), (t183), (x20_3), (wrap64 (x20_3 + 1)), (by first | rfl | (simp; done) | (simp [*]; done)), (by first | rfl | (simp; done) | (simp [*]; done)), (by first | rfl | (simp; done) | (simp [*]; done)), (by first | rfl | (simp; done) | (simp [*]; done)), H', ⟨by have := HK1.out; have := HJ15.out; have := HK3.out; omega⟩, ⟨by (with_reducible repeat (first | apply Kd.R_alloc | apply Kd.R_drewN | apply Kd.R_drew)); exact HO_7.out⟩, ⟨by (with_reducible repeat (first | apply Kd.R_alloc | apply Kd.R_drewN | apply Kd.R_drew)); exact HO_8.out⟩, ⟨by (with_reducible repeat (first | apply Kd.R_alloc | apply Kd.R_drewN | apply Kd.R_drew)); exact HO_9.out⟩, ⟨by repeat (first | (with_reducible first | exact HB.out | apply below_alloc | apply pw_below_drewN | apply below_drew1) | exact HB.out)⟩⟩
                           · rw [if_neg c41] at H
                             have c41b0 : decide (x18_3 < t183) = false := decide_eq_false c41
                             clear c41
                             have H' := Aside0.mk H
                             clear H
                             try go_wp2
                             have n0_ := Aside0.mk (Kd.R_drew HO_7.out)
                             have n1_ := Aside0.mk (Kd.R_drew HO_8.out)
                             have n2_ := Aside0.mk (Kd.R_drew HO_9.out)
                             have n3_ := Aside0.mk (below_drew1 HB.out)
                             clear HO_7
                             clear HO_8
                             clear HO_9
                             clear HB
                             have HO_7 := n0_
                             have HO_8 := n1_
                             have HO_9 := n2_
                             have HB := n3_
                             clear n0_ n1_ n2_ n3_
                             have p180 : 0 ≤ (x20_3 : Int) := of_decide_eq_true (by first | (with_reducible assumption) | assumption)
                             have q180 : x20_3 < (t158.length : Int) := of_decide_eq_true (by first | (with_reducible assumption) | assumption)
                             obtain ⟨ad180, e180, hx180_0, hx180_1⟩ := at_T45 (Kd.R_reads' HO_7.out).2.2 x20_3 p180 q180
                             cases e180
                             replace p180 := eq_true p180
                             replace q180 := eq_true q180
                             have p181 : 0 ≤ (x14_1 : Int) := of_decide_eq_true (by first | (with_reducible assumption) | assumption)
                             have q181 : x14_1 < (t161.length : Int) := of_decide_eq_true (by first | (with_reducible assumption) | assumption)
                             obtain ⟨ad181, e181, hx181_0, hx181_1⟩ := at_T45 (Kd.R_reads' HO_8.out).2.2 x14_1 p181 q181
                             obtain rfl : ad167 = ad181 := (by injection e181)
                             replace p181 := eq_true p181
                             replace q181 := eq_true q181
                             refine start_ (n := 12) (S := fun w' => w'.cell? (ad180.add ((x20_3).toNat * 2)) = some (.int .i32 ((rd_T45 t158 x20_3).f0)) ∧ w'.cell? ⟨(ad180.add ((x20_3).toNat * 2)).block, (ad180.add ((x20_3).toNat * 2)).off + 1, none⟩ = some (.int .i64 ((rd_T45 t158 x20_3).f1)) ∧ w'.cell? (ad167.add ((x14_1).toNat * 2)) = some (.int .i32 ((rd_T45 t161 x14_1).f0)) ∧ w'.cell? ⟨(ad167.add ((x14_1).toNat * 2)).block, (ad167.add ((x14_1).toNat * 2)).off + 1, none⟩ = some (.int .i64 ((rd_T45 t161 x14_1).f1))) (ds := []) #[false, false, false, false, false, false, false, false, false, false, false, false] (by kernel_rfl) rfl rfl ⟨hx180_0, hx180_1, hx181_0, hx181_1⟩ (fun hHeld => ?_); refine with_tabW spec_Scored.tab22 spec_Scored.bits22 (fun HT_ HW_ => ?_)
                             generalize wr.drew = w45 at HO_7 HO_8 HO_9 HB hx180_0 hx180_1 hx181_0 hx181_1 hHeld ⊢
                             refine pure_ (i := 0) (N := some 71) (v := ?_) (a' := ?_) #[true, false, false, false, false, false, false, false, false, false, false, false] rfl rfl (any_of HT_.out (by kernel_rfl)) (fun _ _ _ h => h) (Or.inl ⟨by rfl, ?_⟩) ?_ ?_
                             rotate_left
                             · intro w'
                               go_simp
                               with_reducible rfl
                             rotate_left
                             · simp only [Act.put, List.setIfInBounds_toArray, List.set_cons_zero, List.set_cons_succ, i64_w, i32_w]
                               rfl
                             refine pure_ (i := 1) (N := some 72) (v := ?_) (a' := ?_) #[true, true, false, false, false, false, false, false, false, false, false, false] rfl rfl (any_of HT_.out (by kernel_rfl)) (fun _ _ _ h => h) (Or.inl ⟨by rfl, ?_⟩) ?_ ?_
                             rotate_left
                             · intro w'
                               go_simp
                               with_reducible rfl
                             rotate_left
                             · simp only [Act.put, List.setIfInBounds_toArray, List.set_cons_zero, List.set_cons_succ, i64_w, i32_w]
                               rfl
                             refine pure_ (i := 2) (N := some 73) (v := ?_) (a' := ?_) #[true, true, true, false, false, false, false, false, false, false, false, false] rfl rfl (any_of HT_.out (by kernel_rfl)) (fun _ _ _ h => h) (Or.inl ⟨by rfl, ?_⟩) ?_ ?_
                             rotate_left
                             · intro w'
                               go_simp
                               with_reducible rfl
                             rotate_left
                             · simp only [Act.put, List.setIfInBounds_toArray, List.set_cons_zero, List.set_cons_succ, i64_w, i32_w]
                               rfl
                             refine pure_ (i := 3) (N := some 74) (v := ?_) (a' := ?_) #[true, true, true, true, false, false, false, false, false, false, false, false] rfl rfl (any_of HT_.out (by kernel_rfl)) (fun _ _ _ h => h) (Or.inl ⟨by rfl, ?_⟩) ?_ ?_
                             rotate_left
                             · intro w'
                               go_simp
                               with_reducible rfl
                             rotate_left
                             · simp only [Act.put, List.setIfInBounds_toArray, List.set_cons_zero, List.set_cons_succ, i64_w, i32_w]
                               rfl
                             refine pure_ (i := 5) (N := some 76) (v := ?_) (a' := ?_) #[true, true, true, true, false, true, false, false, false, false, false, false] rfl rfl (any_of HT_.out (by kernel_rfl)) (fun _ _ _ h => h) (Or.inl ⟨by rfl, ?_⟩) ?_ ?_
                             rotate_left
                             · intro w'
                               go_simp
                               with_reducible rfl
                             rotate_left
                             · simp only [Act.put, List.setIfInBounds_toArray, List.set_cons_zero, List.set_cons_succ, i64_w, i32_w]
                               rfl
                             refine pure_ (i := 6) (N := some 77) (v := ?_) (a' := ?_) #[true, true, true, true, false, true, true, false, false, false, false, false] rfl rfl (any_of HT_.out (by kernel_rfl)) (fun _ _ _ h => h) (Or.inl ⟨by rfl, ?_⟩) ?_ ?_
                             rotate_left
                             · intro w'
                               go_simp
                               with_reducible rfl
                             rotate_left
                             · simp only [Act.put, List.setIfInBounds_toArray, List.set_cons_zero, List.set_cons_succ, i64_w, i32_w]
                               rfl
                             refine pure_ (i := 7) (N := some 78) (v := ?_) (a' := ?_) #[true, true, true, true, false, true, true, true, false, false, false, false] rfl rfl (any_of HT_.out (by kernel_rfl)) (fun _ _ _ h => h) (Or.inl ⟨by rfl, ?_⟩) ?_ ?_
                             rotate_left
                             · intro w'
                               go_simp
                               with_reducible rfl
                             rotate_left
                             · simp only [Act.put, List.setIfInBounds_toArray, List.set_cons_zero, List.set_cons_succ, i64_w, i32_w]
                               rfl
                             refine pure_ (i := 8) (N := some 79) (v := ?_) (a' := ?_) #[true, true, true, true, false, true, true, true, true, false, false, false] rfl rfl (any_of HT_.out (by kernel_rfl)) (fun _ _ _ h => h) (Or.inl ⟨by rfl, ?_⟩) ?_ ?_
                             rotate_left
                             · intro w'
                               go_simp
                               with_reducible rfl
                             rotate_left
                             · simp only [Act.put, List.setIfInBounds_toArray, List.set_cons_zero, List.set_cons_succ, i64_w, i32_w]
                               rfl
                             refine take_ (i := 4) (N := some 75) (v := ?_) (a' := ?_) #[true, true, true, true, true, true, true, true, true, false, false, false] rfl rfl (take_ofW HT_.out HW_.out (by kernel_rfl)) (fun _ _ _ h => h) (Or.inl ⟨by rfl, ?_⟩) hHeld ?_ ?_
                             rotate_left
                             · rintro w' ⟨s0, s1, s2, s3⟩
                               go_simp
                               with_reducible rfl
                             rotate_left
                             · simp only [Act.put, List.setIfInBounds_toArray, List.set_cons_zero, List.set_cons_succ, i64_w, i32_w]
                               rfl
                             refine take_ (i := 9) (N := some 80) (v := ?_) (a' := ?_) #[true, true, true, true, true, true, true, true, true, true, false, false] rfl rfl (take_ofW HT_.out HW_.out (by kernel_rfl)) (fun _ _ _ h => h) (Or.inl ⟨by rfl, ?_⟩) hHeld ?_ ?_
                             rotate_left
                             · rintro w' ⟨s0, s1, s2, s3⟩
                               go_simp
                               with_reducible rfl
                             rotate_left
                             · simp only [Act.put, List.setIfInBounds_toArray, List.set_cons_zero, List.set_cons_succ, i64_w, i32_w]
                               rfl
                             refine one_ (i := 10) (N := some 81) #[true, true, true, true, true, true, true, true, true, true, true, false] rfl rfl (one_of HT_.out (by kernel_rfl)) (by decide) (fun K hK => ?_)
                             refine goes_ Tryd.func25 (by kernel_rfl) rfl #[.int .i32 ((rd_T45 t158 x20_3).f0), .int .i32 ((rd_T45 t161 x14_1).f0)] (by rfl) rfl rfl (by (try simp only [List.map_toArray, List.map_cons, List.map_nil]); first | done | rfl | (simp only [List.length_drop, List.length_take]; rfl)) ?_
                             with_reducible refine (spec_Alike.calls k3 ((rd_T45 t158 x20_3).f0) ((rd_T45 t161 x14_1).f0) true _ (by first | (with_reducible exact HAMB.out) | exact Amb.below HAMB.out (by repeat (first | (with_reducible first | exact HB.out | apply below_alloc | apply pw_below_drewN | apply below_drew1) | exact HB.out)) | exact Amb.below HAMB.out (by repeat (first | (with_reducible first | exact Below.refl _ _ | apply pw_below_drewN | apply below_drew1 | apply below_alloc)))) A30.out).mono ?_
                             rintro e w46 ⟨rfl, hb⟩
                             have HS0_ := (hb.cell (World.block_lt_of_cell? _ _ (hHeld.1))).trans (hHeld.1)
                             have HS1_ := (hb.cell (World.block_lt_of_cell? _ _ (hHeld.2.1))).trans (hHeld.2.1)
                             have HS2_ := (hb.cell (World.block_lt_of_cell? _ _ (hHeld.2.2.1))).trans (hHeld.2.2.1)
                             have HS3_ := (hb.cell (World.block_lt_of_cell? _ _ (hHeld.2.2.2))).trans (hHeld.2.2.2)
                             refine ⟨_, rfl, ?_⟩
                             have n0_ := Aside0.mk (Kd.R_below (by (with_reducible repeat (first | apply Kd.R_alloc | apply Kd.R_drewN | apply Kd.R_drew)); exact HO_7.out) hb)
                             have n1_ := Aside0.mk (Kd.R_below (by (with_reducible repeat (first | apply Kd.R_alloc | apply Kd.R_drewN | apply Kd.R_drew)); exact HO_8.out) hb)
                             have n2_ := Aside0.mk (Kd.R_below (by (with_reducible repeat (first | apply Kd.R_alloc | apply Kd.R_drewN | apply Kd.R_drew)); exact HO_9.out) hb)
                             have n3_ := Aside0.mk (below_step (by repeat (first | (with_reducible first | exact HB.out | apply below_alloc | apply pw_below_drewN | apply below_drew1) | exact HB.out)) hb)
                             clear HO_7
                             clear HO_8
                             clear HO_9
                             clear HB
                             have HO_7 := n0_
                             have HO_8 := n1_
                             have HO_9 := n2_
                             have HB := n3_
                             clear n0_ n1_ n2_ n3_
                             (try clear hb)
                             (try clear hb2)
                             (try clear hk)
                             (try clear hi)
                             refine hK.out _ _ ⟨HS0_, HS1_, HS2_, HS3_⟩ (fun hHeld => ?_)
                             clear hK K
                             refine norm_ (a' := ?_) ?_ ?_
                             rotate_left
                             · show Act.put _ (some 81) _ = _
                               simp only [Act.put, List.setIfInBounds_toArray, List.set_cons_zero, List.set_cons_succ, i64_w, i32_w]
                               rfl
                             refine pure_ (i := 11) (N := some 82) (v := ?_) (a' := ?_) #[true, true, true, true, true, true, true, true, true, true, true, true] rfl rfl (any_of HT_.out (by kernel_rfl)) (fun _ _ _ h => h) (Or.inl ⟨by rfl, ?_⟩) ?_ ?_
                             rotate_left
                             · intro w'
                               go_simp
                               with_reducible rfl
                             rotate_left
                             · simp only [Act.put, List.setIfInBounds_toArray, List.set_cons_zero, List.set_cons_succ, i64_w, i32_w]
                               rfl
                             refine done_ (done_of HT_.out (by kernel_rfl)) ?_
                             try go_wp2_with (first | ((with_reducible refine gate_callee (f := 29) rfl ?_); refine goesL_ (some 85) rfl rfl Tryd.func29 (by kernel_rfl) rfl #[.slice (some ad180) t158.length co18, .int .i64 x20_3] rfl (by (try simp only [List.map_toArray, List.map_cons, List.map_nil]); first | done | rfl | (simp only [List.length_drop, List.length_take]; rfl)) ?_; (with_reducible refine (spec_worth.calls k3 _ _ t158 x20_3 t183 _ ?side1 ?side2 (by first | (with_reducible exact HAMB.out) | exact Amb.below HAMB.out (by repeat (first | (with_reducible first | exact HB.out | apply below_alloc | apply pw_below_drewN | apply below_drew1) | exact HB.out)) | exact Amb.below HAMB.out (by repeat (first | (with_reducible first | exact Below.refl _ _ | apply pw_below_drewN | apply below_drew1 | apply below_alloc)))) A32.out).mono ?_); (case side1 => repeat (first | exact (Kd.R_reads' HO_7.out).2.2 | (with_reducible refine Kd.C_alloc ?_ _) | (with_reducible refine Kd.C_drewN ?_ _) | (with_reducible refine Kd.C_drew ?_))); (case side2 => exact (Kd.R_reads' HO_7.out).2.1); rintro e w47 ⟨rfl, hb⟩; refine ⟨_, rfl, ?_⟩; have n0_ := Aside0.mk (Kd.R_below (by (with_reducible repeat (first | apply Kd.R_alloc | apply Kd.R_drewN | apply Kd.R_drew)); exact HO_7.out) hb); have n1_ := Aside0.mk (Kd.R_below (by (with_reducible repeat (first | apply Kd.R_alloc | apply Kd.R_drewN | apply Kd.R_drew)); exact HO_8.out) hb); have n2_ := Aside0.mk (Kd.R_below (by (with_reducible repeat (first | apply Kd.R_alloc | apply Kd.R_drewN | apply Kd.R_drew)); exact HO_9.out) hb); have n3_ := Aside0.mk (below_step (by repeat (first | (with_reducible first | exact HB.out | apply below_alloc | apply pw_below_drewN | apply below_drew1) | exact HB.out)) hb); clear HO_7; clear HO_8; clear HO_9; clear HB; have HO_7 := n0_; have HO_8 := n1_; have HO_9 := n2_; have HB := n3_; clear n0_ n1_ n2_ n3_; (try clear hb); (try clear hb2); (try clear hk); (try clear hi)))
                             go_roundg k3
                             case measure => have := HK1.out; have := HJ15.out; have := HK3.out; omega
                             case rel => exact ⟨(x11_3), (x18_3), (x19_3), (wrap64 (x20_3 + 1)), (by first | rfl | (simp; done) | (simp [*]; done)), (by first | rfl | (simp; done) | (simp [*]; done)), (by first | rfl | (simp; done) | (simp [*]; done)), (by first | rfl | (simp; done) | (simp [*]; done)), H', ⟨by have := HK1.out; have := HJ15.out; have := HK3.out; omega⟩, ⟨by (with_reducible repeat (first | apply Kd.R_alloc | apply Kd.R_drewN | apply Kd.R_drew)); exact HO_7.out⟩, ⟨by (with_reducible repeat (first | apply Kd.R_alloc | apply Kd.R_drewN | apply Kd.R_drew)); exact HO_8.out⟩, ⟨by (with_reducible repeat (first | apply Kd.R_alloc | apply Kd.R_drewN | apply Kd.R_drew)); exact HO_9.out⟩, ⟨by repeat (first | (with_reducible first | exact HB.out | apply below_alloc | apply pw_below_drewN | apply below_drew1) | exact HB.out)⟩⟩
                       · replace c31 := Bool.eq_false_iff.mpr c31
                         subst c31
                         have H1 : (spec_Scored.l1 k3 a1 t158 t161 x9_1 x10_1 x11_3 x13_1 x14_1 t170 x18_3 x19_3 (wrap64 (x20_3 + 1))) = some (r1, r2, r3) := by rw [if_neg (show ¬ (false = true) by decide)] at H; exact H
                         clear H
                         have H := H1
                         clear H1
                         have H' := Aside0.mk H
                         clear H
                         try go_wp2
                         have n0_ := Aside0.mk (Kd.R_drew HO_7.out)
                         have n1_ := Aside0.mk (Kd.R_drew HO_8.out)
                         have n2_ := Aside0.mk (Kd.R_drew HO_9.out)
                         have n3_ := Aside0.mk (below_drew1 HB.out)
                         clear HO_7
                         clear HO_8
                         clear HO_9
                         clear HB
                         have HO_7 := n0_
                         have HO_8 := n1_
                         have HO_9 := n2_
                         have HB := n3_
                         clear n0_ n1_ n2_ n3_
                         have p180 : 0 ≤ (x20_3 : Int) := of_decide_eq_true (by first | (with_reducible assumption) | assumption)
                         have q180 : x20_3 < (t158.length : Int) := of_decide_eq_true (by first | (with_reducible assumption) | assumption)
                         obtain ⟨ad180, e180, hx180_0, hx180_1⟩ := at_T45 (Kd.R_reads' HO_7.out).2.2 x20_3 p180 q180
                         cases e180
                         replace p180 := eq_true p180
                         replace q180 := eq_true q180
                         have p181 : 0 ≤ (x14_1 : Int) := of_decide_eq_true (by first | (with_reducible assumption) | assumption)
                         have q181 : x14_1 < (t161.length : Int) := of_decide_eq_true (by first | (with_reducible assumption) | assumption)
                         obtain ⟨ad181, e181, hx181_0, hx181_1⟩ := at_T45 (Kd.R_reads' HO_8.out).2.2 x14_1 p181 q181
                         obtain rfl : ad167 = ad181 := (by injection e181)
                         replace p181 := eq_true p181
                         replace q181 := eq_true q181
                         refine start_ (n := 12) (S := fun w' => w'.cell? (ad180.add ((x20_3).toNat * 2)) = some (.int .i32 ((rd_T45 t158 x20_3).f0)) ∧ w'.cell? ⟨(ad180.add ((x20_3).toNat * 2)).block, (ad180.add ((x20_3).toNat * 2)).off + 1, none⟩ = some (.int .i64 ((rd_T45 t158 x20_3).f1)) ∧ w'.cell? (ad167.add ((x14_1).toNat * 2)) = some (.int .i32 ((rd_T45 t161 x14_1).f0)) ∧ w'.cell? ⟨(ad167.add ((x14_1).toNat * 2)).block, (ad167.add ((x14_1).toNat * 2)).off + 1, none⟩ = some (.int .i64 ((rd_T45 t161 x14_1).f1))) (ds := []) #[false, false, false, false, false, false, false, false, false, false, false, false] (by kernel_rfl) rfl rfl ⟨hx180_0, hx180_1, hx181_0, hx181_1⟩ (fun hHeld => ?_); refine with_tabW spec_Scored.tab22 spec_Scored.bits22 (fun HT_ HW_ => ?_)
                         generalize wr.drew = w48 at HO_7 HO_8 HO_9 HB hx180_0 hx180_1 hx181_0 hx181_1 hHeld ⊢
                         refine pure_ (i := 0) (N := some 71) (v := ?_) (a' := ?_) #[true, false, false, false, false, false, false, false, false, false, false, false] rfl rfl (any_of HT_.out (by kernel_rfl)) (fun _ _ _ h => h) (Or.inl ⟨by rfl, ?_⟩) ?_ ?_
                         rotate_left
                         · intro w'
                           go_simp
                           with_reducible rfl
                         rotate_left
                         · simp only [Act.put, List.setIfInBounds_toArray, List.set_cons_zero, List.set_cons_succ, i64_w, i32_w]
                           rfl
                         refine pure_ (i := 1) (N := some 72) (v := ?_) (a' := ?_) #[true, true, false, false, false, false, false, false, false, false, false, false] rfl rfl (any_of HT_.out (by kernel_rfl)) (fun _ _ _ h => h) (Or.inl ⟨by rfl, ?_⟩) ?_ ?_
                         rotate_left
                         · intro w'
                           go_simp
                           with_reducible rfl
                         rotate_left
                         · simp only [Act.put, List.setIfInBounds_toArray, List.set_cons_zero, List.set_cons_succ, i64_w, i32_w]
                           rfl
                         refine pure_ (i := 2) (N := some 73) (v := ?_) (a' := ?_) #[true, true, true, false, false, false, false, false, false, false, false, false] rfl rfl (any_of HT_.out (by kernel_rfl)) (fun _ _ _ h => h) (Or.inl ⟨by rfl, ?_⟩) ?_ ?_
                         rotate_left
                         · intro w'
                           go_simp
                           with_reducible rfl
                         rotate_left
                         · simp only [Act.put, List.setIfInBounds_toArray, List.set_cons_zero, List.set_cons_succ, i64_w, i32_w]
                           rfl
                         refine pure_ (i := 3) (N := some 74) (v := ?_) (a' := ?_) #[true, true, true, true, false, false, false, false, false, false, false, false] rfl rfl (any_of HT_.out (by kernel_rfl)) (fun _ _ _ h => h) (Or.inl ⟨by rfl, ?_⟩) ?_ ?_
                         rotate_left
                         · intro w'
                           go_simp
                           with_reducible rfl
                         rotate_left
                         · simp only [Act.put, List.setIfInBounds_toArray, List.set_cons_zero, List.set_cons_succ, i64_w, i32_w]
                           rfl
                         refine pure_ (i := 5) (N := some 76) (v := ?_) (a' := ?_) #[true, true, true, true, false, true, false, false, false, false, false, false] rfl rfl (any_of HT_.out (by kernel_rfl)) (fun _ _ _ h => h) (Or.inl ⟨by rfl, ?_⟩) ?_ ?_
                         rotate_left
                         · intro w'
                           go_simp
                           with_reducible rfl
                         rotate_left
                         · simp only [Act.put, List.setIfInBounds_toArray, List.set_cons_zero, List.set_cons_succ, i64_w, i32_w]
                           rfl
                         refine pure_ (i := 6) (N := some 77) (v := ?_) (a' := ?_) #[true, true, true, true, false, true, true, false, false, false, false, false] rfl rfl (any_of HT_.out (by kernel_rfl)) (fun _ _ _ h => h) (Or.inl ⟨by rfl, ?_⟩) ?_ ?_
                         rotate_left
                         · intro w'
                           go_simp
                           with_reducible rfl
                         rotate_left
                         · simp only [Act.put, List.setIfInBounds_toArray, List.set_cons_zero, List.set_cons_succ, i64_w, i32_w]
                           rfl
                         refine pure_ (i := 7) (N := some 78) (v := ?_) (a' := ?_) #[true, true, true, true, false, true, true, true, false, false, false, false] rfl rfl (any_of HT_.out (by kernel_rfl)) (fun _ _ _ h => h) (Or.inl ⟨by rfl, ?_⟩) ?_ ?_
                         rotate_left
                         · intro w'
                           go_simp
                           with_reducible rfl
                         rotate_left
                         · simp only [Act.put, List.setIfInBounds_toArray, List.set_cons_zero, List.set_cons_succ, i64_w, i32_w]
                           rfl
                         refine pure_ (i := 8) (N := some 79) (v := ?_) (a' := ?_) #[true, true, true, true, false, true, true, true, true, false, false, false] rfl rfl (any_of HT_.out (by kernel_rfl)) (fun _ _ _ h => h) (Or.inl ⟨by rfl, ?_⟩) ?_ ?_
                         rotate_left
                         · intro w'
                           go_simp
                           with_reducible rfl
                         rotate_left
                         · simp only [Act.put, List.setIfInBounds_toArray, List.set_cons_zero, List.set_cons_succ, i64_w, i32_w]
                           rfl
                         refine take_ (i := 4) (N := some 75) (v := ?_) (a' := ?_) #[true, true, true, true, true, true, true, true, true, false, false, false] rfl rfl (take_ofW HT_.out HW_.out (by kernel_rfl)) (fun _ _ _ h => h) (Or.inl ⟨by rfl, ?_⟩) hHeld ?_ ?_
                         rotate_left
                         · rintro w' ⟨s0, s1, s2, s3⟩
                           go_simp
                           with_reducible rfl
                         rotate_left
                         · simp only [Act.put, List.setIfInBounds_toArray, List.set_cons_zero, List.set_cons_succ, i64_w, i32_w]
                           rfl
                         refine take_ (i := 9) (N := some 80) (v := ?_) (a' := ?_) #[true, true, true, true, true, true, true, true, true, true, false, false] rfl rfl (take_ofW HT_.out HW_.out (by kernel_rfl)) (fun _ _ _ h => h) (Or.inl ⟨by rfl, ?_⟩) hHeld ?_ ?_
                         rotate_left
                         · rintro w' ⟨s0, s1, s2, s3⟩
                           go_simp
                           with_reducible rfl
                         rotate_left
                         · simp only [Act.put, List.setIfInBounds_toArray, List.set_cons_zero, List.set_cons_succ, i64_w, i32_w]
                           rfl
                         refine one_ (i := 10) (N := some 81) #[true, true, true, true, true, true, true, true, true, true, true, false] rfl rfl (one_of HT_.out (by kernel_rfl)) (by decide) (fun K hK => ?_)
                         refine goes_ Tryd.func25 (by kernel_rfl) rfl #[.int .i32 ((rd_T45 t158 x20_3).f0), .int .i32 ((rd_T45 t161 x14_1).f0)] (by rfl) rfl rfl (by (try simp only [List.map_toArray, List.map_cons, List.map_nil]); first | done | rfl | (simp only [List.length_drop, List.length_take]; rfl)) ?_
                         with_reducible refine (spec_Alike.calls k3 ((rd_T45 t158 x20_3).f0) ((rd_T45 t161 x14_1).f0) false _ (by first | (with_reducible exact HAMB.out) | exact Amb.below HAMB.out (by repeat (first | (with_reducible first | exact HB.out | apply below_alloc | apply pw_below_drewN | apply below_drew1) | exact HB.out)) | exact Amb.below HAMB.out (by repeat (first | (with_reducible first | exact Below.refl _ _ | apply pw_below_drewN | apply below_drew1 | apply below_alloc)))) A30.out).mono ?_
                         rintro e w49 ⟨rfl, hb⟩
                         have HS0_ := (hb.cell (World.block_lt_of_cell? _ _ (hHeld.1))).trans (hHeld.1)
                         have HS1_ := (hb.cell (World.block_lt_of_cell? _ _ (hHeld.2.1))).trans (hHeld.2.1)
                         have HS2_ := (hb.cell (World.block_lt_of_cell? _ _ (hHeld.2.2.1))).trans (hHeld.2.2.1)
                         have HS3_ := (hb.cell (World.block_lt_of_cell? _ _ (hHeld.2.2.2))).trans (hHeld.2.2.2)
                         refine ⟨_, rfl, ?_⟩
                         have n0_ := Aside0.mk (Kd.R_below (by (with_reducible repeat (first | apply Kd.R_alloc | apply Kd.R_drewN | apply Kd.R_drew)); exact HO_7.out) hb)
                         have n1_ := Aside0.mk (Kd.R_below (by (with_reducible repeat (first | apply Kd.R_alloc | apply Kd.R_drewN | apply Kd.R_drew)); exact HO_8.out) hb)
                         have n2_ := Aside0.mk (Kd.R_below (by (with_reducible repeat (first | apply Kd.R_alloc | apply Kd.R_drewN | apply Kd.R_drew)); exact HO_9.out) hb)
                         have n3_ := Aside0.mk (below_step (by repeat (first | (with_reducible first | exact HB.out | apply below_alloc | apply pw_below_drewN | apply below_drew1) | exact HB.out)) hb)
                         clear HO_7
                         clear HO_8
                         clear HO_9
                         clear HB
                         have HO_7 := n0_
                         have HO_8 := n1_
                         have HO_9 := n2_
                         have HB := n3_
                         clear n0_ n1_ n2_ n3_
                         (try clear hb)
                         (try clear hb2)
                         (try clear hk)
                         (try clear hi)
                         refine hK.out _ _ ⟨HS0_, HS1_, HS2_, HS3_⟩ (fun hHeld => ?_)
                         clear hK K
                         refine norm_ (a' := ?_) ?_ ?_
                         rotate_left
                         · show Act.put _ (some 81) _ = _
                           simp only [Act.put, List.setIfInBounds_toArray, List.set_cons_zero, List.set_cons_succ, i64_w, i32_w]
                           rfl
                         refine pure_ (i := 11) (N := some 82) (v := ?_) (a' := ?_) #[true, true, true, true, true, true, true, true, true, true, true, true] rfl rfl (any_of HT_.out (by kernel_rfl)) (fun _ _ _ h => h) (Or.inl ⟨by rfl, ?_⟩) ?_ ?_
                         rotate_left
                         · intro w'
                           go_simp
                           with_reducible rfl
                         rotate_left
                         · simp only [Act.put, List.setIfInBounds_toArray, List.set_cons_zero, List.set_cons_succ, i64_w, i32_w]
                           rfl
                         refine done_ (done_of HT_.out (by kernel_rfl)) ?_
                         try go_wp2
                         go_roundg k3
                         case measure => have := HK1.out; have := HJ15.out; have := HK3.out; omega
                         case rel => exact ⟨(x11_3), (x18_3), (x19_3), (wrap64 (x20_3 + 1)), (by first | rfl | (simp; done) | (simp [*]; done)), (by first | rfl | (simp; done) | (simp [*]; done)), (by first | rfl | (simp; done) | (simp [*]; done)), (by first | rfl | (simp; done) | (simp [*]; done)), H', ⟨by have := HK1.out; have := HJ15.out; have := HK3.out; omega⟩, ⟨by (with_reducible repeat (first | apply Kd.R_alloc | apply Kd.R_drewN | apply Kd.R_drew)); exact HO_7.out⟩, ⟨by (with_reducible repeat (first | apply Kd.R_alloc | apply Kd.R_drewN | apply Kd.R_drew)); exact HO_8.out⟩, ⟨by (with_reducible repeat (first | apply Kd.R_alloc | apply Kd.R_drewN | apply Kd.R_drew)); exact HO_9.out⟩, ⟨by repeat (first | (with_reducible first | exact HB.out | apply below_alloc | apply pw_below_drewN | apply below_drew1) | exact HB.out)⟩⟩
                     · rw [if_neg c29] at H
                       exact absurd H (by simp)
                   · rw [if_neg c28] at H
                     exact absurd H (by simp)
                 · rw [if_neg c27] at H
                   exact absurd H (by simp)
               · rw [if_neg c26] at H
                 exact absurd H (by simp)
             · rw [if_neg c25] at H
               have c25b0 : decide (x20_3 ≤ t170) = false := decide_eq_false c25
               clear c25
               by_cases c50 : x14_1 = 0
               · rw [if_pos c50] at H
                 have c50b0 : (x14_1 == 0) = true := beq_iff_eq.mpr c50
                 have c50b1 : (x14_1 != 0) = false := bne_eq_false_iff_eq.mpr c50
                 clear c50
                 by_cases c51 : 0 ≤ x19_3
                 · rw [if_pos c51] at H
                   have c51b0 : decide (0 ≤ x19_3) = true := decide_eq_true c51
                   clear c51
                   by_cases c52 : x19_3 < (t158.length : Int)
                   · rw [if_pos c52] at H
                     have c52b0 : decide (x19_3 < (t158.length : Int)) = true := decide_eq_true c52
                     clear c52
                     obtain ⟨ji53, hji53⟩ : ∃ j_ : Int, (mn (wrap64 (5 * ((rd_T45 t158 x19_3).f1))) 15) = j_ := ⟨_, rfl⟩
                     replace H : (if x9_1.length < 17592186044416 then (spec_Scored.l0 k3 a1 t158 t161 (x9_1 ++ [(rd_T45 t158 x19_3).f1]) (wrap64 (x10_1 + (wrap64 (x18_3 - (ji53))))) x11_3 (wrap64 (t170 + 1)) x19_3 (wrap64 (x14_1 + 1))) else (none)) = some (r1, r2, r3) := by first | (rw [hji53] at H; exact H) | (simp only [hji53] at H ⊢; exact H)
                     have hji53_ : (if 15 < (wrap64 (5 * ((rd_T45 t158 x19_3).f1))) then 15 else (wrap64 (5 * ((rd_T45 t158 x19_3).f1)))) = ji53 := hji53
                     by_cases c54 : x9_1.length < 17592186044416
                     · rw [if_pos c54] at H
                       have LMc54 := Aside0.mk c54
                       clear c54
                       obtain ⟨y173, hy173⟩ : ∃ y_ : List Int, y_ = (x9_1 ++ [(rd_T45 t158 x19_3).f1]) := ⟨_, rfl⟩
                       replace H : (spec_Scored.l0 k3 a1 t158 t161 y173 (wrap64 (x10_1 + (wrap64 (x18_3 - (ji53))))) x11_3 (wrap64 (t170 + 1)) x19_3 (wrap64 (x14_1 + 1))) = some (r1, r2, r3) := by first | (rw [hy173]; with_reducible exact H) | (have H2_ := (Option.bind_some _ _).symm.trans H; rw [hy173]; with_reducible exact H2_) | (have H2_ := (Option.bind_some _ _).symm.trans H; with_reducible exact H2_) | with_reducible exact H | (rw [hy173]; exact H) | exact H
                       have Ny173 := Aside0.mk hy173
                       clear hy173
                       have H' := Aside0.mk H
                       clear H
                       have p171 : 0 ≤ (x19_3 : Int) := of_decide_eq_true (by first | (with_reducible assumption) | assumption)
                       have q171 : x19_3 < (t158.length : Int) := of_decide_eq_true (by first | (with_reducible assumption) | assumption)
                       obtain ⟨ad171, e171, hx171_0, hx171_1⟩ := at_T45 (Kd.R_reads' HO_7.out).2.2 x19_3 p171 q171
                       cases e171
                       replace p171 := eq_true p171
                       replace q171 := eq_true q171
                       have p172 : 0 ≤ (x19_3 : Int) := of_decide_eq_true (by first | (with_reducible assumption) | assumption)
                       have q172 : x19_3 < (t158.length : Int) := of_decide_eq_true (by first | (with_reducible assumption) | assumption)
                       obtain ⟨ad172, e172, hx172_0, hx172_1⟩ := at_T45 (Kd.R_reads' HO_7.out).2.2 x19_3 p172 q172
                       obtain rfl : ad171 = ad172 := (by injection e172)
                       replace p172 := eq_true p172
                       replace q172 := eq_true q172
                       go_wp2_with (first | ((with_reducible refine gate_builtin (b := .append) (xs := #[.tmp 119, .tmp 125]) rfl ?_); at_builtin; refine Kd.R_append (Kd.int .i64) (w0 := w) w.heap.size rfl (.tmp 119) (.tmp 125) 31 3 (.int .i64 0) 8 rfl Tryd.underlying31 info3 rfl (by decide) (by omega) u9 x9_1 ((rd_T45 t158 x19_3).f1) [.int .i64 ((rd_T45 t158 x19_3).f1)] (fun _ => True) (fun _ => False) rfl rfl ?aP (fun _ hk => hk.elim) ?aF ?aO ?aB ?aS ?aL ?_; (case aP => exact rfl); (case aB => exact (by repeat (first | (with_reducible first | exact HB.out | apply below_alloc | apply pw_below_drewN | apply below_drew1) | exact HB.out))); (case aF => exact (fun _ _ => trivial)); (case aO => exact (by (with_reducible repeat (first | apply Kd.R_alloc | apply Kd.R_drewN | apply Kd.R_drew)); exact HO_9.out)); (case aS => exact (below_size (by repeat (first | (with_reducible first | exact HB.out | apply below_alloc | apply pw_below_drewN | apply below_drew1) | exact HB.out)))); (case aL => have := LMc54.out; omega); intro v174 w55 ho hb hg hat; rw [← Ny173.out] at ho; have n0_ := Aside0.mk (Kd.R_over' (by (with_reducible repeat (first | apply Kd.R_alloc | apply Kd.R_drewN | apply Kd.R_drew)); exact HO_7.out) (Kd.R_typed (by (with_reducible repeat (first | apply Kd.R_alloc | apply Kd.R_drewN | apply Kd.R_drew)); exact HO_9.out)) (by decide) hg); have n1_ := Aside0.mk (Kd.R_over' (by (with_reducible repeat (first | apply Kd.R_alloc | apply Kd.R_drewN | apply Kd.R_drew)); exact HO_8.out) (Kd.R_typed (by (with_reducible repeat (first | apply Kd.R_alloc | apply Kd.R_drewN | apply Kd.R_drew)); exact HO_9.out)) (by decide) hg); have n2_ := Aside0.mk (hb); have n3_ := Aside0.mk (ho); clear HO_7; clear HO_8; clear HB; clear HO_9; have HO_7 := n0_; have HO_8 := n1_; have HB := n2_; have HO175 := n3_; clear n0_ n1_ n2_ n3_; clear ho hb hg hat))
                       first | go_roundg k3 | (simp only [← hji53]; go_roundg k3)
                       case measure => have := HK1.out; have := HJ15.out; have := HK3.out; omega
                       case rel => exact ⟨(y173), (wrap64 (x10_1 + (wrap64 (x18_3 - (ji53))))), (x11_3), (wrap64 (t170 + 1)), (x19_3), (wrap64 (x14_1 + 1)), (by first | rfl | (simp; done) | (simp only [← hji53] <;> (first | rfl | simp)) | (simp [*]; done)), (by first | rfl | (simp; done) | (simp [*]; done)), (by first | rfl | (simp; done) | (simp [*]; done)), (by first | rfl | (simp; done) | (simp [*]; done)), (by first | rfl | (simp; done) | (simp [*]; done)), H', ⟨by have := HK1.out; have := HJ15.out; have := HK3.out; omega⟩, ⟨by (with_reducible repeat (first | apply Kd.R_alloc | apply Kd.R_drewN | apply Kd.R_drew)); exact HO_7.out⟩, ⟨by (with_reducible repeat (first | apply Kd.R_alloc | apply Kd.R_drewN | apply Kd.R_drew)); exact HO_8.out⟩, ⟨by (with_reducible repeat (first | apply Kd.R_alloc | apply Kd.R_drewN | apply Kd.R_drew)); exact HO175.out⟩, ⟨by repeat (first | (with_reducible first | exact HB.out | apply below_alloc | apply pw_below_drewN | apply below_drew1) | exact HB.out)⟩⟩
                     · rw [if_neg c54] at H
                       exact absurd H (by simp)
                   · rw [if_neg c52] at H
                     exact absurd H (by simp)
                 · rw [if_neg c51] at H
                   exact absurd H (by simp)
               · rw [if_neg c50] at H
                 have c50b0 : (x14_1 == 0) = false := beq_eq_false_iff_ne.mpr c50
                 have c50b1 : (x14_1 != 0) = true := bne_iff_ne.mpr c50
                 by_cases c56 : 0 ≤ x19_3
                 · rw [if_pos c56] at H
                   have c56b0 : decide (0 ≤ x19_3) = true := decide_eq_true c56
                   clear c56
                   by_cases c57 : x19_3 < (t158.length : Int)
                   · rw [if_pos c57] at H
                     have c57b0 : decide (x19_3 < (t158.length : Int)) = true := decide_eq_true c57
                     clear c57
                     by_cases c58 : x9_1.length < 17592186044416
                     · rw [if_pos c58] at H
                       have LMc58 := Aside0.mk c58
                       clear c58
                       obtain ⟨y177, hy177⟩ : ∃ y_ : List Int, y_ = (x9_1 ++ [(rd_T45 t158 x19_3).f1]) := ⟨_, rfl⟩
                       replace H : (spec_Scored.l0 k3 a1 t158 t161 y177 (wrap64 (x10_1 + x18_3)) x11_3 (wrap64 (t170 + 1)) x19_3 (wrap64 (x14_1 + 1))) = some (r1, r2, r3) := by first | (rw [hy177]; with_reducible exact H) | (have H2_ := (Option.bind_some _ _).symm.trans H; rw [hy177]; with_reducible exact H2_) | (have H2_ := (Option.bind_some _ _).symm.trans H; with_reducible exact H2_) | with_reducible exact H | (rw [hy177]; exact H) | exact H
                       have Ny177 := Aside0.mk hy177
                       clear hy177
                       have H' := Aside0.mk H
                       clear H
                       have p176 : 0 ≤ (x19_3 : Int) := of_decide_eq_true (by first | (with_reducible assumption) | assumption)
                       have q176 : x19_3 < (t158.length : Int) := of_decide_eq_true (by first | (with_reducible assumption) | assumption)
                       obtain ⟨ad176, e176, hx176_0, hx176_1⟩ := at_T45 (Kd.R_reads' HO_7.out).2.2 x19_3 p176 q176
                       cases e176
                       replace p176 := eq_true p176
                       replace q176 := eq_true q176
                       go_wp2_with (first | ((with_reducible refine gate_builtin (b := .append) (xs := #[.tmp 119, .tmp 125]) rfl ?_); at_builtin; refine Kd.R_append (Kd.int .i64) (w0 := w) w.heap.size rfl (.tmp 119) (.tmp 125) 31 3 (.int .i64 0) 8 rfl Tryd.underlying31 info3 rfl (by decide) (by omega) u9 x9_1 ((rd_T45 t158 x19_3).f1) [.int .i64 ((rd_T45 t158 x19_3).f1)] (fun _ => True) (fun _ => False) rfl rfl ?aP (fun _ hk => hk.elim) ?aF ?aO ?aB ?aS ?aL ?_; (case aP => exact rfl); (case aB => exact (by repeat (first | (with_reducible first | exact HB.out | apply below_alloc | apply pw_below_drewN | apply below_drew1) | exact HB.out))); (case aF => exact (fun _ _ => trivial)); (case aO => exact (by (with_reducible repeat (first | apply Kd.R_alloc | apply Kd.R_drewN | apply Kd.R_drew)); exact HO_9.out)); (case aS => exact (below_size (by repeat (first | (with_reducible first | exact HB.out | apply below_alloc | apply pw_below_drewN | apply below_drew1) | exact HB.out)))); (case aL => have := LMc58.out; omega); intro v178 w59 ho hb hg hat; rw [← Ny177.out] at ho; have n0_ := Aside0.mk (Kd.R_over' (by (with_reducible repeat (first | apply Kd.R_alloc | apply Kd.R_drewN | apply Kd.R_drew)); exact HO_7.out) (Kd.R_typed (by (with_reducible repeat (first | apply Kd.R_alloc | apply Kd.R_drewN | apply Kd.R_drew)); exact HO_9.out)) (by decide) hg); have n1_ := Aside0.mk (Kd.R_over' (by (with_reducible repeat (first | apply Kd.R_alloc | apply Kd.R_drewN | apply Kd.R_drew)); exact HO_8.out) (Kd.R_typed (by (with_reducible repeat (first | apply Kd.R_alloc | apply Kd.R_drewN | apply Kd.R_drew)); exact HO_9.out)) (by decide) hg); have n2_ := Aside0.mk (hb); have n3_ := Aside0.mk (ho); clear HO_7; clear HO_8; clear HB; clear HO_9; have HO_7 := n0_; have HO_8 := n1_; have HB := n2_; have HO179 := n3_; clear n0_ n1_ n2_ n3_; clear ho hb hg hat))
                       go_roundg k3
                       case measure => have := HK1.out; have := HJ15.out; have := HK3.out; omega
                       case rel => exact ⟨(y177), (wrap64 (x10_1 + x18_3)), (x11_3), (wrap64 (t170 + 1)), (x19_3), (wrap64 (x14_1 + 1)), (by first | rfl | (simp; done) | (simp [*]; done)), (by first | rfl | (simp; done) | (simp [*]; done)), (by first | rfl | (simp; done) | (simp [*]; done)), (by first | rfl | (simp; done) | (simp [*]; done)), (by first | rfl | (simp; done) | (simp [*]; done)), H', ⟨by have := HK1.out; have := HJ15.out; have := HK3.out; omega⟩, ⟨by (with_reducible repeat (first | apply Kd.R_alloc | apply Kd.R_drewN | apply Kd.R_drew)); exact HO_7.out⟩, ⟨by (with_reducible repeat (first | apply Kd.R_alloc | apply Kd.R_drewN | apply Kd.R_drew)); exact HO_8.out⟩, ⟨by (with_reducible repeat (first | apply Kd.R_alloc | apply Kd.R_drewN | apply Kd.R_drew)); exact HO179.out⟩, ⟨by repeat (first | (with_reducible first | exact HB.out | apply below_alloc | apply pw_below_drewN | apply below_drew1) | exact HB.out)⟩⟩
                     · rw [if_neg c58] at H
                       exact absurd H (by simp)
                   · rw [if_neg c57] at H
                     exact absurd H (by simp)
                 · rw [if_neg c56] at H
                   exact absurd H (by simp)
     · rw [if_neg c10] at H
       exact absurd H (by simp)
   · rw [if_neg c9] at H
     have c9b0 : decide (x14_1 < (t161.length : Int)) = false := decide_eq_false c9
     clear c9
     simp only [Option.some.injEq, Prod.mk.injEq] at H
     obtain ⟨rfl, rfl, rfl⟩ := H
     obtain ⟨Ao60, co60, eo60⟩ := Kd.R_slice HO_8.out
     subst eo60
     obtain ⟨Ao61, co61, eo61⟩ := Kd.R_slice HO_9.out
     subst eo61
     go_wp2
     go_ret3
     exact ⟨_, by first | rfl | (simp [errW_none, errW_some] <;> rfl) | (simp [*, errW_none, errW_some] <;> rfl), by (with_reducible repeat (first | apply Kd.R_alloc | apply Kd.R_drewN | apply Kd.R_drew)); exact HO_9.out, by repeat (first | (with_reducible first | exact HB.out | apply below_alloc | apply pw_below_drewN | apply below_drew1) | exact HB.out)⟩

end Go.Proofs.YtgeimklpcfepaaaDoor.P
