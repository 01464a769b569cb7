-- written by a program of this session (wip/tools), out of the translation
import Derived.Test.YtgeimklpcfepaaaDoorP0
import Derived.Test.YtgeimklpcfepaaaDoorP6
import Derived.Test.YtgeimklpcfepaaaDoorExtLetters
import Derived.Test.YtgeimklpcfepaaaDoorP3
import Derived.Test.YtgeimklpcfepaaaDoorP8
import Derived.Test.YtgeimklpcfepaaaDoorP2
import Derived.Test.YtgeimklpcfepaaaDoorExtBest
import Derived.Test.YtgeimklpcfepaaaDoorExtFindS
import Derived.Test.YtgeimklpcfepaaaDoorP11
namespace Go.Proofs.YtgeimklpcfepaaaDoor.P
open Go.RowKit Go.Proofs.YtgeimklpcfepaaaDoorW.PrintWords Go.Proofs.YtgeimklpcfepaaaDoorW.PrintLast Go.Proofs.YtgeimklpcfepaaaDoorW.PrintMore
attribute [local go_sem] max2_int min2_int max_two min_two max_three min_three max_four min_four   -- for this text's walks alone
set_option linter.unusedVariables false
set_option linter.unusedSimpArgs false

/-! ### spec_AllAlike: function 14 -/
def spec_AllAlike.l0 : Nat → List (S45) → List (S45) → Int → Option (Bool)
  | 0, _, _, _ => none
  | k + 1, x5, x6, x7 => if x7 < (x5.length : Int) then (if 0 ≤ x7 then (if x7 < (x6.length : Int) then ((spec_Alike.f k ((rd_T45 x5 x7).f0) ((rd_T45 x6 x7).f0)).bind fun t234 => (if t234 = true then (spec_AllAlike.l0 k x5 x6 (wrap64 (x7 + 1))) else (some false))) else (none)) else (none)) else (some true)
def spec_AllAlike.f (k : Nat) (a0 : ByteArray) (a1 : ByteArray) : Option (Bool) := (spec_Letters.f a0).bind fun t226 => ((spec_Letters.f a1).bind fun t229 => (if (t226.length : Int) = (t229.length : Int) then (spec_AllAlike.l0 k t226 t229 0) else (some false)))
theorem spec_AllAlike.mono_l : ∀ k, (∀ y0 y1 y2, LeO (spec_AllAlike.l0 k y0 y1 y2) (spec_AllAlike.l0 (k + 1) y0 y1 y2))
  | 0 => fun _ _ _ r h => by simp [spec_AllAlike.l0] at h
  | k + 1 => by
    have ih0 := spec_AllAlike.mono_l k
    · intro y0 y1 y2
      unfold spec_AllAlike.l0
      repeat' first
      | (with_reducible exact ih0 _ _ _)
      | (with_reducible exact spec_Alike.mono _ _ _)
      | (with_reducible exact LeO.refl _)
      | (with_reducible exact LeO.none _)
      | (with_reducible refine LeO.ite ?_ ?_)
      | (with_reducible refine LeO.bind ?_ (fun _ => ?_))
      | exact ih0 _ _ _
      | exact spec_Alike.mono _ _ _
      | exact LeO.none _
      | refine LeO.ite ?_ ?_
      | refine LeO.bind ?_ (fun _ => ?_)
theorem spec_AllAlike.mono : ∀ a0 a1 k, LeO (spec_AllAlike.f k a0 a1) (spec_AllAlike.f (k + 1) a0 a1) := by
  intro a0 a1 k
  have ih0 := spec_AllAlike.mono_l k
  unfold spec_AllAlike.f
  repeat' first
      | (with_reducible exact ih0 _ _ _)
      | (with_reducible exact spec_Alike.mono _ _ _)
      | (with_reducible exact LeO.refl _)
      | (with_reducible exact LeO.none _)
      | (with_reducible refine LeO.ite ?_ ?_)
      | (with_reducible refine LeO.bind ?_ (fun _ => ?_))
      | exact ih0 _ _ _
      | exact spec_Alike.mono _ _ _
      | exact LeO.none _
      | refine LeO.ite ?_ ?_
      | refine LeO.bind ?_ (fun _ => ?_)
def spec_AllAlike.T7 : Bool × List (List Nat × List Nat) := (true, [([], []), ([], []), ([0, 1], [0, 1]), ([2], [2]), ([3], [3]), ([], []), ([], []), ([5, 6], [5, 6]), ([7], [7]), ([8], [8]), ([4, 9], [4, 9]), ([10], [10])])
def spec_AllAlike.B7 : List Nat := [0, 0, 3, 7, 15, 0, 0, 96, 224, 480, 1023, 2047]
theorem spec_AllAlike.tab7 : rtab .any (opsOf Tryd.f14 7) = spec_AllAlike.T7 := by kernel_rfl
theorem spec_AllAlike.bits7 : waitsOk spec_AllAlike.T7.2 spec_AllAlike.B7 = true := by kernel_rfl
set_option maxHeartbeats 8000000 in
set_option maxRecDepth 100000 in
theorem spec_AllAlike.calls (k : Nat) (a0 : ByteArray) (a1 : ByteArray) (r : Bool) (w : World) (hA_ : Amb w) (h : spec_AllAlike.f k a0 a1 = some r) :
    Calls Tryd.prog 14 #[.string a0, .string a1] w fun e w' => e = .returned (.bool r) ∧ Below w.heap.size w w' := by
  have HAMB := Aside0.mk hA_
  clear hA_
  have HB := Aside0.mk (Below.refl w.heap.size w)
  have H : ((spec_Letters.f a0).bind fun t226 => ((spec_Letters.f a1).bind fun t229 => (if (t226.length : Int) = (t229.length : Int) then (spec_AllAlike.l0 k t226 t229 0) else (some false)))) = some r := h
  clear h
  replace H := Option.bind_eq_some_iff.mp H
  obtain ⟨t226, A30, H⟩ := H
  replace H : ((spec_Letters.f a1).bind fun t229 => (if (t226.length : Int) = (t229.length : Int) then (spec_AllAlike.l0 k t226 t229 0) else (some false))) = some r := H
  have A3 := Aside0.mk A30
  clear A30
  replace H := Option.bind_eq_some_iff.mp H
  obtain ⟨t229, A40, H⟩ := H
  replace H : (if (t226.length : Int) = (t229.length : Int) then (spec_AllAlike.l0 k t226 t229 0) else (some false)) = some r := H
  have A4 := Aside0.mk A40
  clear A40
  by_cases c5 : (t226.length : Int) = (t229.length : Int)
  · rw [if_pos c5] at H
    have c5b0 : ((t226.length : Int) == (t229.length : Int)) = true := beq_iff_eq.mpr c5
    have c5b1 : ((t226.length : Int) != (t229.length : Int)) = false := bne_eq_false_iff_eq.mpr c5
    have c5b2 : (t226.length == t229.length) = true := by first | simpa using c5 | (simp at c5 ⊢; omega)
    clear c5
    have H' := Aside0.mk H
    clear H
    go_enter Tryd.func14, Tryd.ntmps14
    go_wp2_with (first | ((with_reducible refine gate_callee (f := 19) rfl ?_); refine goesL_ (some 9) rfl rfl Tryd.func19 (by kernel_rfl) rfl #[.string a0] rfl (by (try simp only [List.map_toArray, List.map_cons, List.map_nil]); first | done | rfl | (simp only [List.length_drop, List.length_take]; rfl)) ?_; (with_reducible refine (spec_Letters.calls a0 t226 _ A3.out).mono ?_); rintro e w6 ⟨v227, rfl, ho0, hb⟩; refine ⟨_, rfl, ?_⟩; have n0_ := Aside0.mk (Kd.R_lower ho0 (below_size (by repeat (first | (with_reducible first | exact HB.out | apply below_alloc | apply pw_below_drewN | apply below_drew1) | exact HB.out)))); have n1_ := Aside0.mk (below_step (by repeat (first | (with_reducible first | exact HB.out | apply below_alloc | apply pw_below_drewN | apply below_drew1) | exact HB.out)) hb); clear HB; have HO228 := n0_; have HB := n1_; clear n0_ n1_; (try clear hb); (try clear hb2); (try clear hk); (try clear hi); (try clear ho0)) | ((with_reducible refine gate_callee (f := 19) rfl ?_); refine goesL_ (some 11) rfl rfl Tryd.func19 (by kernel_rfl) rfl #[.string a1] rfl (by (try simp only [List.map_toArray, List.map_cons, List.map_nil]); first | done | rfl | (simp only [List.length_drop, List.length_take]; rfl)) ?_; (with_reducible refine (spec_Letters.calls a1 t229 _ A4.out).mono ?_); rintro e w7 ⟨v230, rfl, ho0, hb⟩; refine ⟨_, rfl, ?_⟩; have n0_ := Aside0.mk (Kd.R_elder' (by (with_reducible repeat (first | apply Kd.R_alloc | apply Kd.R_drewN | apply Kd.R_drew)); exact HO228.out) (Kd.R_base ho0) hb); have n1_ := Aside0.mk (Kd.R_lower (Kd.R_new' ho0 (Kd.R_lt (by (with_reducible repeat (first | apply Kd.R_alloc | apply Kd.R_drewN | apply Kd.R_drew)); exact HO228.out))) (below_size (by repeat (first | (with_reducible first | exact HB.out | apply below_alloc | apply pw_below_drewN | apply below_drew1) | exact HB.out)))); have n2_ := Aside0.mk (below_step (by repeat (first | (with_reducible first | exact HB.out | apply below_alloc | apply pw_below_drewN | apply below_drew1) | exact HB.out)) hb); clear HO228; clear HB; have HO228 := n0_; have HO231 := n1_; have HB := n2_; clear n0_ n1_ n2_; (try clear hb); (try clear hb2); (try clear hk); (try clear hi); (try clear ho0); obtain ⟨Ao8, co8, eo8⟩ := Kd.R_slice HO228.out; subst eo8; obtain ⟨Ao9, co9, eo9⟩ := Kd.R_slice HO231.out; subst eo9))
    go_loopg [7] k (fun kq v7 w' => ∃ (x7_1 : Int), v7 = .int .i64 x7_1 ∧ Aside0 (spec_AllAlike.l0 kq t226 t229 x7_1 = some r) ∧ Aside0 (kq ≤ k) ∧ Aside0 (Kd.R k45 45 w' w.heap.size (fun k_ => some k_ ≠ ((.slice Ao9 t229.length co9) : Value).ownBlock) (.slice Ao8 t226.length co8) t226) ∧ Aside0 (Kd.R k45 45 w' w.heap.size (fun k_ => some k_ ≠ ((.slice Ao8 t226.length co8) : Value).ownBlock) (.slice Ao9 t229.length co9) t229) ∧ Aside0 (Below w.heap.size w w'))
    case atStart => exact ⟨(0), (by first | rfl | (simp; done) | (simp [*]; done)), H', ⟨Nat.le_refl _⟩, ⟨by (with_reducible repeat (first | apply Kd.R_alloc | apply Kd.R_drewN | apply Kd.R_drew)); exact Kd.R_mono HO228.out (fun _ hk => hk.2)⟩, ⟨by (with_reducible repeat (first | apply Kd.R_alloc | apply Kd.R_drewN | apply Kd.R_drew)); exact Kd.R_mono HO231.out (fun _ hk => hk.2)⟩, ⟨by repeat (first | (with_reducible first | exact HB.out | apply below_alloc | apply pw_below_drewN | apply below_drew1) | exact HB.out)⟩⟩
    case round =>
      clear H'
      try clear c1
      try clear p2
      try clear c5
      try clear c5b0
      try clear c5b1
      try clear c5b2
      obtain ⟨x7_1, rfl, HA, HK1, HO_5, HO_6, HB⟩ := hrel
      cases gk with
      | zero => exact absurd HA.out (by simp [spec_AllAlike.l0])
      | succ k1 =>
        have H := HA.out
        clear HA
        simp only [spec_AllAlike.l0] at H
        by_cases c10 : x7_1 < (t226.length : Int)
        · rw [if_pos c10] at H
          have c10b0 : decide (x7_1 < (t226.length : Int)) = true := decide_eq_true c10
          clear c10
          by_cases c11 : 0 ≤ x7_1
          · rw [if_pos c11] at H
            have c11b0 : decide (0 ≤ x7_1) = true := decide_eq_true c11
            clear c11
            by_cases c12 : x7_1 < (t229.length : Int)
            · rw [if_pos c12] at H
              have c12b0 : decide (x7_1 < (t229.length : Int)) = true := decide_eq_true c12
              clear c12
              replace H := Option.bind_eq_some_iff.mp H
              obtain ⟨t234, A130, H⟩ := H
              replace H : (if t234 = true then (spec_AllAlike.l0 k1 t226 t229 (wrap64 (x7_1 + 1))) else (some false)) = some r := H
              have A13 := Aside0.mk A130
              clear A130
              by_cases c14 : t234 = true
              · subst c14
                have H1 : (spec_AllAlike.l0 k1 t226 t229 (wrap64 (x7_1 + 1))) = some r := by rw [if_pos rfl] at H; exact H
                clear H
                have H := H1
                clear H1
                have H' := Aside0.mk H
                clear H
                try go_wp2
                have n0_ := Aside0.mk (Kd.R_drew HO_5.out)
                have n1_ := Aside0.mk (Kd.R_drew HO_6.out)
                have n2_ := Aside0.mk (below_drew1 HB.out)
                clear HO_5
                clear HO_6
                clear HB
                have HO_5 := n0_
                have HO_6 := n1_
                have HB := n2_
                clear n0_ n1_ n2_
                have p232 : 0 ≤ (x7_1 : Int) := of_decide_eq_true (by first | (with_reducible assumption) | assumption)
                have q232 : x7_1 < (t226.length : Int) := of_decide_eq_true (by first | (with_reducible assumption) | assumption)
                obtain ⟨ad232, e232, hx232_0, hx232_1⟩ := at_T45 (Kd.R_reads' HO_5.out).2.2 x7_1 p232 q232
                cases e232
                replace p232 := eq_true p232
                replace q232 := eq_true q232
                have p233 : 0 ≤ (x7_1 : Int) := of_decide_eq_true (by first | (with_reducible assumption) | assumption)
                have q233 : x7_1 < (t229.length : Int) := of_decide_eq_true (by first | (with_reducible assumption) | assumption)
                obtain ⟨ad233, e233, hx233_0, hx233_1⟩ := at_T45 (Kd.R_reads' HO_6.out).2.2 x7_1 p233 q233
                cases e233
                replace p233 := eq_true p233
                replace q233 := eq_true q233
                refine start_ (n := 12) (S := fun w' => w'.cell? (ad232.add ((x7_1).toNat * 2)) = some (.int .i32 ((rd_T45 t226 x7_1).f0)) ∧ w'.cell? ⟨(ad232.add ((x7_1).toNat * 2)).block, (ad232.add ((x7_1).toNat * 2)).off + 1, none⟩ = some (.int .i64 ((rd_T45 t226 x7_1).f1)) ∧ w'.cell? (ad233.add ((x7_1).toNat * 2)) = some (.int .i32 ((rd_T45 t229 x7_1).f0)) ∧ w'.cell? ⟨(ad233.add ((x7_1).toNat * 2)).block, (ad233.add ((x7_1).toNat * 2)).off + 1, none⟩ = some (.int .i64 ((rd_T45 t229 x7_1).f1))) (ds := []) #[false, false, false, false, false, false, false, false, false, false, false, false] (by kernel_rfl) rfl rfl ⟨hx232_0, hx232_1, hx233_0, hx233_1⟩ (fun hHeld => ?_); refine with_tabW spec_AllAlike.tab7 spec_AllAlike.bits7 (fun HT_ HW_ => ?_)
                generalize wr.drew = w15 at HO_5 HO_6 HB hx232_0 hx232_1 hx233_0 hx233_1 hHeld ⊢
                refine pure_ (i := 0) (N := some 23) (v := ?_) (a' := ?_) #[true, false, false, false, false, false, false, false, false, false, false, false] rfl rfl (any_of HT_.out (by kernel_rfl)) (fun _ _ _ h => h) (Or.inl ⟨by rfl, ?_⟩) ?_ ?_
                rotate_left
                · intro w'
                  go_simp
                  with_reducible rfl
                rotate_left
                · simp only [Act.put, List.setIfInBounds_toArray, List.set_cons_zero, List.set_cons_succ, i64_w, i32_w]
                  rfl
                refine pure_ (i := 1) (N := some 24) (v := ?_) (a' := ?_) #[true, true, false, false, false, false, false, false, false, false, false, false] rfl rfl (any_of HT_.out (by kernel_rfl)) (fun _ _ _ h => h) (Or.inl ⟨by rfl, ?_⟩) ?_ ?_
                rotate_left
                · intro w'
                  go_simp
                  with_reducible rfl
                rotate_left
                · simp only [Act.put, List.setIfInBounds_toArray, List.set_cons_zero, List.set_cons_succ, i64_w, i32_w]
                  rfl
                refine pure_ (i := 2) (N := some 25) (v := ?_) (a' := ?_) #[true, true, true, false, false, false, false, false, false, false, false, false] rfl rfl (any_of HT_.out (by kernel_rfl)) (fun _ _ _ h => h) (Or.inl ⟨by rfl, ?_⟩) ?_ ?_
                rotate_left
                · intro w'
                  go_simp
                  with_reducible rfl
                rotate_left
                · simp only [Act.put, List.setIfInBounds_toArray, List.set_cons_zero, List.set_cons_succ, i64_w, i32_w]
                  rfl
                refine pure_ (i := 3) (N := some 26) (v := ?_) (a' := ?_) #[true, true, true, true, false, false, false, false, false, false, false, false] rfl rfl (any_of HT_.out (by kernel_rfl)) (fun _ _ _ h => h) (Or.inl ⟨by rfl, ?_⟩) ?_ ?_
                rotate_left
                · intro w'
                  go_simp
                  with_reducible rfl
                rotate_left
                · simp only [Act.put, List.setIfInBounds_toArray, List.set_cons_zero, List.set_cons_succ, i64_w, i32_w]
                  rfl
                refine pure_ (i := 5) (N := some 28) (v := ?_) (a' := ?_) #[true, true, true, true, false, true, false, false, false, false, false, false] rfl rfl (any_of HT_.out (by kernel_rfl)) (fun _ _ _ h => h) (Or.inl ⟨by rfl, ?_⟩) ?_ ?_
                rotate_left
                · intro w'
                  go_simp
                  with_reducible rfl
                rotate_left
                · simp only [Act.put, List.setIfInBounds_toArray, List.set_cons_zero, List.set_cons_succ, i64_w, i32_w]
                  rfl
                refine pure_ (i := 6) (N := some 29) (v := ?_) (a' := ?_) #[true, true, true, true, false, true, true, false, false, false, false, false] rfl rfl (any_of HT_.out (by kernel_rfl)) (fun _ _ _ h => h) (Or.inl ⟨by rfl, ?_⟩) ?_ ?_
                rotate_left
                · intro w'
                  go_simp
                  with_reducible rfl
                rotate_left
                · simp only [Act.put, List.setIfInBounds_toArray, List.set_cons_zero, List.set_cons_succ, i64_w, i32_w]
                  rfl
                refine pure_ (i := 7) (N := some 30) (v := ?_) (a' := ?_) #[true, true, true, true, false, true, true, true, false, false, false, false] rfl rfl (any_of HT_.out (by kernel_rfl)) (fun _ _ _ h => h) (Or.inl ⟨by rfl, ?_⟩) ?_ ?_
                rotate_left
                · intro w'
                  go_simp
                  with_reducible rfl
                rotate_left
                · simp only [Act.put, List.setIfInBounds_toArray, List.set_cons_zero, List.set_cons_succ, i64_w, i32_w]
                  rfl
                refine pure_ (i := 8) (N := some 31) (v := ?_) (a' := ?_) #[true, true, true, true, false, true, true, true, true, false, false, false] rfl rfl (any_of HT_.out (by kernel_rfl)) (fun _ _ _ h => h) (Or.inl ⟨by rfl, ?_⟩) ?_ ?_
                rotate_left
                · intro w'
                  go_simp
                  with_reducible rfl
                rotate_left
                · simp only [Act.put, List.setIfInBounds_toArray, List.set_cons_zero, List.set_cons_succ, i64_w, i32_w]
                  rfl
                refine take_ (i := 4) (N := some 27) (v := ?_) (a' := ?_) #[true, true, true, true, true, true, true, true, true, false, false, false] rfl rfl (take_ofW HT_.out HW_.out (by kernel_rfl)) (fun _ _ _ h => h) (Or.inl ⟨by rfl, ?_⟩) hHeld ?_ ?_
                rotate_left
                · rintro w' ⟨s0, s1, s2, s3⟩
                  go_simp
                  with_reducible rfl
                rotate_left
                · simp only [Act.put, List.setIfInBounds_toArray, List.set_cons_zero, List.set_cons_succ, i64_w, i32_w]
                  rfl
                refine take_ (i := 9) (N := some 32) (v := ?_) (a' := ?_) #[true, true, true, true, true, true, true, true, true, true, false, false] rfl rfl (take_ofW HT_.out HW_.out (by kernel_rfl)) (fun _ _ _ h => h) (Or.inl ⟨by rfl, ?_⟩) hHeld ?_ ?_
                rotate_left
                · rintro w' ⟨s0, s1, s2, s3⟩
                  go_simp
                  with_reducible rfl
                rotate_left
                · simp only [Act.put, List.setIfInBounds_toArray, List.set_cons_zero, List.set_cons_succ, i64_w, i32_w]
                  rfl
                refine one_ (i := 10) (N := some 33) #[true, true, true, true, true, true, true, true, true, true, true, false] rfl rfl (one_of HT_.out (by kernel_rfl)) (by decide) (fun K hK => ?_)
                refine goes_ Tryd.func25 (by kernel_rfl) rfl #[.int .i32 ((rd_T45 t226 x7_1).f0), .int .i32 ((rd_T45 t229 x7_1).f0)] (by rfl) rfl rfl (by (try simp only [List.map_toArray, List.map_cons, List.map_nil]); first | done | rfl | (simp only [List.length_drop, List.length_take]; rfl)) ?_
                with_reducible refine (spec_Alike.calls k1 ((rd_T45 t226 x7_1).f0) ((rd_T45 t229 x7_1).f0) true _ (by first | (with_reducible exact HAMB.out) | exact Amb.below HAMB.out (by repeat (first | (with_reducible first | exact HB.out | apply below_alloc | apply pw_below_drewN | apply below_drew1) | exact HB.out)) | exact Amb.below HAMB.out (by repeat (first | (with_reducible first | exact Below.refl _ _ | apply pw_below_drewN | apply below_drew1 | apply below_alloc)))) A13.out).mono ?_
                rintro e w16 ⟨rfl, hb⟩
                have HS0_ := (hb.cell (World.block_lt_of_cell? _ _ (hHeld.1))).trans (hHeld.1)
                have HS1_ := (hb.cell (World.block_lt_of_cell? _ _ (hHeld.2.1))).trans (hHeld.2.1)
                have HS2_ := (hb.cell (World.block_lt_of_cell? _ _ (hHeld.2.2.1))).trans (hHeld.2.2.1)
                have HS3_ := (hb.cell (World.block_lt_of_cell? _ _ (hHeld.2.2.2))).trans (hHeld.2.2.2)
                refine ⟨_, rfl, ?_⟩
                have n0_ := Aside0.mk (Kd.R_below (by (with_reducible repeat (first | apply Kd.R_alloc | apply Kd.R_drewN | apply Kd.R_drew)); exact HO_5.out) hb)
                have n1_ := Aside0.mk (Kd.R_below (by (with_reducible repeat (first | apply Kd.R_alloc | apply Kd.R_drewN | apply Kd.R_drew)); exact HO_6.out) hb)
                have n2_ := Aside0.mk (below_step (by repeat (first | (with_reducible first | exact HB.out | apply below_alloc | apply pw_below_drewN | apply below_drew1) | exact HB.out)) hb)
                clear HO_5
                clear HO_6
                clear HB
                have HO_5 := n0_
                have HO_6 := n1_
                have HB := n2_
                clear n0_ n1_ n2_
                (try clear hb)
                (try clear hb2)
                (try clear hk)
                (try clear hi)
                refine hK.out _ _ ⟨HS0_, HS1_, HS2_, HS3_⟩ (fun hHeld => ?_)
                clear hK K
                refine norm_ (a' := ?_) ?_ ?_
                rotate_left
                · show Act.put _ (some 33) _ = _
                  simp only [Act.put, List.setIfInBounds_toArray, List.set_cons_zero, List.set_cons_succ, i64_w, i32_w]
                  rfl
                refine pure_ (i := 11) (N := some 34) (v := ?_) (a' := ?_) #[true, true, true, true, true, true, true, true, true, true, true, true] rfl rfl (any_of HT_.out (by kernel_rfl)) (fun _ _ _ h => h) (Or.inl ⟨by rfl, ?_⟩) ?_ ?_
                rotate_left
                · intro w'
                  go_simp
                  with_reducible rfl
                rotate_left
                · simp only [Act.put, List.setIfInBounds_toArray, List.set_cons_zero, List.set_cons_succ, i64_w, i32_w]
                  rfl
                refine done_ (done_of HT_.out (by kernel_rfl)) ?_
                try go_wp2
                go_roundg k1
                case measure => have := HK1.out; omega
                case rel => exact ⟨(wrap64 (x7_1 + 1)), (by first | rfl | (simp; done) | (simp [*]; done)), H', ⟨by have := HK1.out; omega⟩, ⟨by (with_reducible repeat (first | apply Kd.R_alloc | apply Kd.R_drewN | apply Kd.R_drew)); exact HO_5.out⟩, ⟨by (with_reducible repeat (first | apply Kd.R_alloc | apply Kd.R_drewN | apply Kd.R_drew)); exact HO_6.out⟩, ⟨by repeat (first | (with_reducible first | exact HB.out | apply below_alloc | apply pw_below_drewN | apply below_drew1) | exact HB.out)⟩⟩
              · replace c14 := Bool.eq_false_iff.mpr c14
                subst c14
                have H1 : (some false) = some r := by rw [if_neg (show ¬ (false = true) by decide)] at H; exact H
                clear H
                have H := H1
                clear H1
                obtain rfl := Option.some.inj H
                try go_wp2
                have n0_ := Aside0.mk (Kd.R_drew HO_5.out)
                have n1_ := Aside0.mk (Kd.R_drew HO_6.out)
                have n2_ := Aside0.mk (below_drew1 HB.out)
                clear HO_5
                clear HO_6
                clear HB
                have HO_5 := n0_
                have HO_6 := n1_
                have HB := n2_
                clear n0_ n1_ n2_
                have p232 : 0 ≤ (x7_1 : Int) := of_decide_eq_true (by first | (with_reducible assumption) | assumption)
                have q232 : x7_1 < (t226.length : Int) := of_decide_eq_true (by first | (with_reducible assumption) | assumption)
                obtain ⟨ad232, e232, hx232_0, hx232_1⟩ := at_T45 (Kd.R_reads' HO_5.out).2.2 x7_1 p232 q232
                cases e232
                replace p232 := eq_true p232
                replace q232 := eq_true q232
                have p233 : 0 ≤ (x7_1 : Int) := of_decide_eq_true (by first | (with_reducible assumption) | assumption)
                have q233 : x7_1 < (t229.length : Int) := of_decide_eq_true (by first | (with_reducible assumption) | assumption)
                obtain ⟨ad233, e233, hx233_0, hx233_1⟩ := at_T45 (Kd.R_reads' HO_6.out).2.2 x7_1 p233 q233
                cases e233
                replace p233 := eq_true p233
                replace q233 := eq_true q233
                refine start_ (n := 12) (S := fun w' => w'.cell? (ad232.add ((x7_1).toNat * 2)) = some (.int .i32 ((rd_T45 t226 x7_1).f0)) ∧ w'.cell? ⟨(ad232.add ((x7_1).toNat * 2)).block, (ad232.add ((x7_1).toNat * 2)).off + 1, none⟩ = some (.int .i64 ((rd_T45 t226 x7_1).f1)) ∧ w'.cell? (ad233.add ((x7_1).toNat * 2)) = some (.int .i32 ((rd_T45 t229 x7_1).f0)) ∧ w'.cell? ⟨(ad233.add ((x7_1).toNat * 2)).block, (ad233.add ((x7_1).toNat * 2)).off + 1, none⟩ = some (.int .i64 ((rd_T45 t229 x7_1).f1))) (ds := []) #[false, false, false, false, false, false, false, false, false, false, false, false] (by kernel_rfl) rfl rfl ⟨hx232_0, hx232_1, hx233_0, hx233_1⟩ (fun hHeld => ?_); refine with_tabW spec_AllAlike.tab7 spec_AllAlike.bits7 (fun HT_ HW_ => ?_)
                generalize wr.drew = w17 at HO_5 HO_6 HB hx232_0 hx232_1 hx233_0 hx233_1 hHeld ⊢
                refine pure_ (i := 0) (N := some 23) (v := ?_) (a' := ?_) #[true, false, false, false, false, false, false, false, false, false, false, false] rfl rfl (any_of HT_.out (by kernel_rfl)) (fun _ _ _ h => h) (Or.inl ⟨by rfl, ?_⟩) ?_ ?_
                rotate_left
                · intro w'
                  go_simp
                  with_reducible rfl
                rotate_left
                · simp only [Act.put, List.setIfInBounds_toArray, List.set_cons_zero, List.set_cons_succ, i64_w, i32_w]
                  rfl
                refine pure_ (i := 1) (N := some 24) (v := ?_) (a' := ?_) #[true, true, false, false, false, false, false, false, false, false, false, false] rfl rfl (any_of HT_.out (by kernel_rfl)) (fun _ _ _ h => h) (Or.inl ⟨by rfl, ?_⟩) ?_ ?_
                rotate_left
                · intro w'
                  go_simp
                  with_reducible rfl
                rotate_left
                · simp only [Act.put, List.setIfInBounds_toArray, List.set_cons_zero, List.set_cons_succ, i64_w, i32_w]
                  rfl
                refine pure_ (i := 2) (N := some 25) (v := ?_) (a' := ?_) #[true, true, true, false, false, false, false, false, false, false, false, false] rfl rfl (any_of HT_.out (by kernel_rfl)) (fun _ _ _ h => h) (Or.inl ⟨by rfl, ?_⟩) ?_ ?_
                rotate_left
                · intro w'
                  go_simp
                  with_reducible rfl
                rotate_left
                · simp only [Act.put, List.setIfInBounds_toArray, List.set_cons_zero, List.set_cons_succ, i64_w, i32_w]
                  rfl
                refine pure_ (i := 3) (N := some 26) (v := ?_) (a' := ?_) #[true, true, true, true, false, false, false, false, false, false, false, false] rfl rfl (any_of HT_.out (by kernel_rfl)) (fun _ _ _ h => h) (Or.inl ⟨by rfl, ?_⟩) ?_ ?_
                rotate_left
                · intro w'
                  go_simp
                  with_reducible rfl
                rotate_left
                · simp only [Act.put, List.setIfInBounds_toArray, List.set_cons_zero, List.set_cons_succ, i64_w, i32_w]
                  rfl
                refine pure_ (i := 5) (N := some 28) (v := ?_) (a' := ?_) #[true, true, true, true, false, true, false, false, false, false, false, false] rfl rfl (any_of HT_.out (by kernel_rfl)) (fun _ _ _ h => h) (Or.inl ⟨by rfl, ?_⟩) ?_ ?_
                rotate_left
                · intro w'
                  go_simp
                  with_reducible rfl
                rotate_left
                · simp only [Act.put, List.setIfInBounds_toArray, List.set_cons_zero, List.set_cons_succ, i64_w, i32_w]
                  rfl
                refine pure_ (i := 6) (N := some 29) (v := ?_) (a' := ?_) #[true, true, true, true, false, true, true, false, false, false, false, false] rfl rfl (any_of HT_.out (by kernel_rfl)) (fun _ _ _ h => h) (Or.inl ⟨by rfl, ?_⟩) ?_ ?_
                rotate_left
                · intro w'
                  go_simp
                  with_reducible rfl
                rotate_left
                · simp only [Act.put, List.setIfInBounds_toArray, List.set_cons_zero, List.set_cons_succ, i64_w, i32_w]
                  rfl
                refine pure_ (i := 7) (N := some 30) (v := ?_) (a' := ?_) #[true, true, true, true, false, true, true, true, false, false, false, false] rfl rfl (any_of HT_.out (by kernel_rfl)) (fun _ _ _ h => h) (Or.inl ⟨by rfl, ?_⟩) ?_ ?_
                rotate_left
                · intro w'
                  go_simp
                  with_reducible rfl
                rotate_left
                · simp only [Act.put, List.setIfInBounds_toArray, List.set_cons_zero, List.set_cons_succ, i64_w, i32_w]
                  rfl
                refine pure_ (i := 8) (N := some 31) (v := ?_) (a' := ?_) #[true, true, true, true, false, true, true, true, true, false, false, false] rfl rfl (any_of HT_.out (by kernel_rfl)) (fun _ _ _ h => h) (Or.inl ⟨by rfl, ?_⟩) ?_ ?_
                rotate_left
                · intro w'
                  go_simp
                  with_reducible rfl
                rotate_left
                · simp only [Act.put, List.setIfInBounds_toArray, List.set_cons_zero, List.set_cons_succ, i64_w, i32_w]
                  rfl
                refine take_ (i := 4) (N := some 27) (v := ?_) (a' := ?_) #[true, true, true, true, true, true, true, true, true, false, false, false] rfl rfl (take_ofW HT_.out HW_.out (by kernel_rfl)) (fun _ _ _ h => h) (Or.inl ⟨by rfl, ?_⟩) hHeld ?_ ?_
                rotate_left
                · rintro w' ⟨s0, s1, s2, s3⟩
                  go_simp
                  with_reducible rfl
                rotate_left
                · simp only [Act.put, List.setIfInBounds_toArray, List.set_cons_zero, List.set_cons_succ, i64_w, i32_w]
                  rfl
                refine take_ (i := 9) (N := some 32) (v := ?_) (a' := ?_) #[true, true, true, true, true, true, true, true, true, true, false, false] rfl rfl (take_ofW HT_.out HW_.out (by kernel_rfl)) (fun _ _ _ h => h) (Or.inl ⟨by rfl, ?_⟩) hHeld ?_ ?_
                rotate_left
                · rintro w' ⟨s0, s1, s2, s3⟩
                  go_simp
                  with_reducible rfl
                rotate_left
                · simp only [Act.put, List.setIfInBounds_toArray, List.set_cons_zero, List.set_cons_succ, i64_w, i32_w]
                  rfl
                refine one_ (i := 10) (N := some 33) #[true, true, true, true, true, true, true, true, true, true, true, false] rfl rfl (one_of HT_.out (by kernel_rfl)) (by decide) (fun K hK => ?_)
                refine goes_ Tryd.func25 (by kernel_rfl) rfl #[.int .i32 ((rd_T45 t226 x7_1).f0), .int .i32 ((rd_T45 t229 x7_1).f0)] (by rfl) rfl rfl (by (try simp only [List.map_toArray, List.map_cons, List.map_nil]); first | done | rfl | (simp only [List.length_drop, List.length_take]; rfl)) ?_
                with_reducible refine (spec_Alike.calls k1 ((rd_T45 t226 x7_1).f0) ((rd_T45 t229 x7_1).f0) false _ (by first | (with_reducible exact HAMB.out) | exact Amb.below HAMB.out (by repeat (first | (with_reducible first | exact HB.out | apply below_alloc | apply pw_below_drewN | apply below_drew1) | exact HB.out)) | exact Amb.below HAMB.out (by repeat (first | (with_reducible first | exact Below.refl _ _ | apply pw_below_drewN | apply below_drew1 | apply below_alloc)))) A13.out).mono ?_
                rintro e w18 ⟨rfl, hb⟩
                have HS0_ := (hb.cell (World.block_lt_of_cell? _ _ (hHeld.1))).trans (hHeld.1)
                have HS1_ := (hb.cell (World.block_lt_of_cell? _ _ (hHeld.2.1))).trans (hHeld.2.1)
                have HS2_ := (hb.cell (World.block_lt_of_cell? _ _ (hHeld.2.2.1))).trans (hHeld.2.2.1)
                have HS3_ := (hb.cell (World.block_lt_of_cell? _ _ (hHeld.2.2.2))).trans (hHeld.2.2.2)
                refine ⟨_, rfl, ?_⟩
                have n0_ := Aside0.mk (Kd.R_below (by (with_reducible repeat (first | apply Kd.R_alloc | apply Kd.R_drewN | apply Kd.R_drew)); exact HO_5.out) hb)
                have n1_ := Aside0.mk (Kd.R_below (by (with_reducible repeat (first | apply Kd.R_alloc | apply Kd.R_drewN | apply Kd.R_drew)); exact HO_6.out) hb)
                have n2_ := Aside0.mk (below_step (by repeat (first | (with_reducible first | exact HB.out | apply below_alloc | apply pw_below_drewN | apply below_drew1) | exact HB.out)) hb)
                clear HO_5
                clear HO_6
                clear HB
                have HO_5 := n0_
                have HO_6 := n1_
                have HB := n2_
                clear n0_ n1_ n2_
                (try clear hb)
                (try clear hb2)
                (try clear hk)
                (try clear hi)
                refine hK.out _ _ ⟨HS0_, HS1_, HS2_, HS3_⟩ (fun hHeld => ?_)
                clear hK K
                refine norm_ (a' := ?_) ?_ ?_
                rotate_left
                · show Act.put _ (some 33) _ = _
                  simp only [Act.put, List.setIfInBounds_toArray, List.set_cons_zero, List.set_cons_succ, i64_w, i32_w]
                  rfl
                refine pure_ (i := 11) (N := some 34) (v := ?_) (a' := ?_) #[true, true, true, true, true, true, true, true, true, true, true, true] rfl rfl (any_of HT_.out (by kernel_rfl)) (fun _ _ _ h => h) (Or.inl ⟨by rfl, ?_⟩) ?_ ?_
                rotate_left
                · intro w'
                  go_simp
                  with_reducible rfl
                rotate_left
                · simp only [Act.put, List.setIfInBounds_toArray, List.set_cons_zero, List.set_cons_succ, i64_w, i32_w]
                  rfl
                refine done_ (done_of HT_.out (by kernel_rfl)) ?_
                try go_wp2
                go_ret
                exact ⟨by first | rfl | (simp [errW_none, errW_some] <;> rfl) | (simp [*, errW_none, errW_some] <;> rfl), by repeat (first | (with_reducible first | exact HB.out | apply below_alloc | apply pw_below_drewN | apply below_drew1) | exact HB.out)⟩
            · rw [if_neg c12] at H
              exact absurd H (by simp)
          · rw [if_neg c11] at H
            exact absurd H (by simp)
        · rw [if_neg c10] at H
          have c10b0 : decide (x7_1 < (t226.length : Int)) = false := decide_eq_false c10
          clear c10
          obtain rfl := Option.some.inj H
          go_wp2
          go_ret
          exact ⟨by first | rfl | (simp [errW_none, errW_some] <;> rfl) | (simp [*, errW_none, errW_some] <;> rfl), by repeat (first | (with_reducible first | exact HB.out | apply below_alloc | apply pw_below_drewN | apply below_drew1) | exact HB.out)⟩
  · rw [if_neg c5] at H
    have c5b0 : ((t226.length : Int) == (t229.length : Int)) = false := beq_eq_false_iff_ne.mpr c5
    have c5b1 : ((t226.length : Int) != (t229.length : Int)) = true := bne_iff_ne.mpr c5
    have c5b2 : (t226.length == t229.length) = false := by first | simpa using c5 | (simp at c5 ⊢; omega)
    obtain rfl := Option.some.inj H
    go_enter Tryd.func14, Tryd.ntmps14
    go_wp2_with (first | ((with_reducible refine gate_callee (f := 19) rfl ?_); refine goesL_ (some 9) rfl rfl Tryd.func19 (by kernel_rfl) rfl #[.string a0] rfl (by (try simp only [List.map_toArray, List.map_cons, List.map_nil]); first | done | rfl | (simp only [List.length_drop, List.length_take]; rfl)) ?_; (with_reducible refine (spec_Letters.calls a0 t226 _ A3.out).mono ?_); rintro e w19 ⟨v227, rfl, ho0, hb⟩; refine ⟨_, rfl, ?_⟩; have n0_ := Aside0.mk (Kd.R_lower ho0 (below_size (by repeat (first | (with_reducible first | exact HB.out | apply below_alloc | apply pw_below_drewN | apply below_drew1) | exact HB.out)))); have n1_ := Aside0.mk (below_step (by repeat (first | (with_reducible first | exact HB.out | apply below_alloc | apply pw_below_drewN | apply below_drew1) | exact HB.out)) hb); clear HB; have HO228 := n0_; have HB := n1_; clear n0_ n1_; (try clear hb); (try clear hb2); (try clear hk); (try clear hi); (try clear ho0)) | ((with_reducible refine gate_callee (f := 19) rfl ?_); refine goesL_ (some 11) rfl rfl Tryd.func19 (by kernel_rfl) rfl #[.string a1] rfl (by (try simp only [List.map_toArray, List.map_cons, List.map_nil]); first | done | rfl | (simp only [List.length_drop, List.length_take]; rfl)) ?_; (with_reducible refine (spec_Letters.calls a1 t229 _ A4.out).mono ?_); rintro e w20 ⟨v230, rfl, ho0, hb⟩; refine ⟨_, rfl, ?_⟩; have n0_ := Aside0.mk (Kd.R_elder' (by (with_reducible repeat (first | apply Kd.R_alloc | apply Kd.R_drewN | apply Kd.R_drew)); exact HO228.out) (Kd.R_base ho0) hb); have n1_ := Aside0.mk (Kd.R_lower (Kd.R_new' ho0 (Kd.R_lt (by (with_reducible repeat (first | apply Kd.R_alloc | apply Kd.R_drewN | apply Kd.R_drew)); exact HO228.out))) (below_size (by repeat (first | (with_reducible first | exact HB.out | apply below_alloc | apply pw_below_drewN | apply below_drew1) | exact HB.out)))); have n2_ := Aside0.mk (below_step (by repeat (first | (with_reducible first | exact HB.out | apply below_alloc | apply pw_below_drewN | apply below_drew1) | exact HB.out)) hb); clear HO228; clear HB; have HO228 := n0_; have HO231 := n1_; have HB := n2_; clear n0_ n1_ n2_; (try clear hb); (try clear hb2); (try clear hk); (try clear hi); (try clear ho0); obtain ⟨Ao21, co21, eo21⟩ := Kd.R_slice HO228.out; subst eo21; obtain ⟨Ao22, co22, eo22⟩ := Kd.R_slice HO231.out; subst eo22))
    go_ret
    exact ⟨by first | rfl | (simp [errW_none, errW_some] <;> rfl) | (simp [*, errW_none, errW_some] <;> rfl), by repeat (first | (with_reducible first | exact HB.out | apply below_alloc | apply pw_below_drewN | apply below_drew1) | exact HB.out)⟩

-- NOT PRINTED: function 49 (sort_insertionSort)

-- NOT PRINTED: function 52 (sort_swapRange)

-- NOT PRINTED: function 51 (sort_rotate)

-- NOT PRINTED: function 50 (sort_symMerge)

-- NOT PRINTED: function 46 (sort_stable)

-- NOT PRINTED: function 43 (sort_Stable)

-- NOT PRINTED: function 31 (sahilm_FindFrom)

-- TOLD BY HAND: function 26 (sahilm_Find)

end Go.Proofs.YtgeimklpcfepaaaDoor.P
namespace Go.Proofs.YtgeimklpcfepaaaDoor.P
open Go.RowKit Go.Proofs.YtgeimklpcfepaaaDoorW.PrintWords Go.Proofs.YtgeimklpcfepaaaDoorW.PrintLast Go.Proofs.YtgeimklpcfepaaaDoorW.PrintMore
attribute [local go_sem] max2_int min2_int max_two min_two max_three min_three max_four min_four   -- for this text's walks alone
set_option linter.unusedVariables false
set_option linter.unusedSimpArgs false

/-! ### laws_FnCases: function 5 -/
mutual
def laws_FnCases.j0 : Nat → ByteArray → ByteArray → List ByteArray → Bool → Option (Bool)
  | 0, _, _, _, _ => none
  | k + 1, x0, x1, x2, x20 => if x20 = true then (some true) else ((spec_Short.f k x0 x2).bind fun t246 => (if t246 = true then ((spec_Short.f k x1 x2).bind fun t247 => (if t247 = true then ((spec_AllAlike.f k x0 x1).bind fun t248 => (laws_FnCases.j1 k x0 x1 x2 (!t248))) else (laws_FnCases.j1 k x0 x1 x2 true))) else (laws_FnCases.j1 k x0 x1 x2 true)))
def laws_FnCases.j1 : Nat → ByteArray → ByteArray → List ByteArray → Bool → Option (Bool)
  | 0, _, _, _, _ => none
  | k + 1, x0, x1, x2, x36 => if x36 = true then (some true) else ((impl_Find.f k x0 x2).bind fun t249 => ((impl_Find.f k x1 x2).bind fun t252 => ((spec_SameFound.f k t249 t252).bind fun t255 => (if t255 = true then ((spec_Found.f k x1 x2).bind fun t256 => ((spec_Best.f t256).bind fun t259 => ((spec_SameFound.f k t249 t259).bind fun t262 => (some t262)))) else (some false)))))
end
def laws_FnCases.f (k : Nat) (a0 : ByteArray) (a1 : ByteArray) (l2 : List ByteArray) : Option (Bool) := if (a0.size : Int) > 2147483647 then (laws_FnCases.j0 k a0 a1 l2 true) else (if (a1.size : Int) > 2147483647 then (laws_FnCases.j0 k a0 a1 l2 true) else ((laws_zzFits1.f k l2).bind fun t245 => (laws_FnCases.j0 k a0 a1 l2 (!t245))))
theorem laws_FnCases.mono_l : ∀ k, (∀ y0 y1 y2 y3, LeO (laws_FnCases.j0 k y0 y1 y2 y3) (laws_FnCases.j0 (k + 1) y0 y1 y2 y3)) ∧ (∀ y0 y1 y2 y3, LeO (laws_FnCases.j1 k y0 y1 y2 y3) (laws_FnCases.j1 (k + 1) y0 y1 y2 y3))
  | 0 => ⟨fun _ _ _ _ r h => by simp [laws_FnCases.j0] at h, fun _ _ _ _ r h => by simp [laws_FnCases.j1] at h⟩
  | k + 1 => by
    obtain ⟨ih0, ih1⟩ := laws_FnCases.mono_l k
    refine ⟨?_, ?_⟩
    · intro y0 y1 y2 y3
      unfold laws_FnCases.j0
      repeat' first
      | (with_reducible exact ih0 _ _ _ _)
      | (with_reducible exact ih1 _ _ _ _)
      | (with_reducible exact impl_Find.mono _ _ _)
      | (with_reducible exact laws_zzFits1.mono _ _)
      | (with_reducible exact spec_AllAlike.mono _ _ _)
      | (with_reducible exact spec_Found.mono _ _ _)
      | (with_reducible exact spec_SameFound.mono _ _ _)
      | (with_reducible exact spec_Short.mono _ _ _)
      | (with_reducible exact LeO.refl _)
      | (with_reducible exact LeO.none _)
      | (with_reducible refine LeO.ite ?_ ?_)
      | (with_reducible refine LeO.bind ?_ (fun _ => ?_))
      | exact ih0 _ _ _ _
      | exact ih1 _ _ _ _
      | exact impl_Find.mono _ _ _
      | exact laws_zzFits1.mono _ _
      | exact spec_AllAlike.mono _ _ _
      | exact spec_Found.mono _ _ _
      | exact spec_SameFound.mono _ _ _
      | exact spec_Short.mono _ _ _
      | exact LeO.none _
      | refine LeO.ite ?_ ?_
      | refine LeO.bind ?_ (fun _ => ?_)
    · intro y0 y1 y2 y3
      unfold laws_FnCases.j1
      repeat' first
      | (with_reducible exact ih0 _ _ _ _)
      | (with_reducible exact ih1 _ _ _ _)
      | (with_reducible exact impl_Find.mono _ _ _)
      | (with_reducible exact laws_zzFits1.mono _ _)
      | (with_reducible exact spec_AllAlike.mono _ _ _)
      | (with_reducible exact spec_Found.mono _ _ _)
      | (with_reducible exact spec_SameFound.mono _ _ _)
      | (with_reducible exact spec_Short.mono _ _ _)
      | (with_reducible exact LeO.refl _)
      | (with_reducible exact LeO.none _)
      | (with_reducible refine LeO.ite ?_ ?_)
      | (with_reducible refine LeO.bind ?_ (fun _ => ?_))
      | exact ih0 _ _ _ _
      | exact ih1 _ _ _ _
      | exact impl_Find.mono _ _ _
      | exact laws_zzFits1.mono _ _
      | exact spec_AllAlike.mono _ _ _
      | exact spec_Found.mono _ _ _
      | exact spec_SameFound.mono _ _ _
      | exact spec_Short.mono _ _ _
      | exact LeO.none _
      | refine LeO.ite ?_ ?_
      | refine LeO.bind ?_ (fun _ => ?_)
theorem laws_FnCases.mono : ∀ a0 a1 a2 k, LeO (laws_FnCases.f k a0 a1 a2) (laws_FnCases.f (k + 1) a0 a1 a2) := by
  intro a0 a1 a2 k
  obtain ⟨ih0, ih1⟩ := laws_FnCases.mono_l k
  unfold laws_FnCases.f
  repeat' first
      | (with_reducible exact ih0 _ _ _ _)
      | (with_reducible exact ih1 _ _ _ _)
      | (with_reducible exact impl_Find.mono _ _ _)
      | (with_reducible exact laws_zzFits1.mono _ _)
      | (with_reducible exact spec_AllAlike.mono _ _ _)
      | (with_reducible exact spec_Found.mono _ _ _)
      | (with_reducible exact spec_SameFound.mono _ _ _)
      | (with_reducible exact spec_Short.mono _ _ _)
      | (with_reducible exact LeO.refl _)
      | (with_reducible exact LeO.none _)
      | (with_reducible refine LeO.ite ?_ ?_)
      | (with_reducible refine LeO.bind ?_ (fun _ => ?_))
      | exact ih0 _ _ _ _
      | exact ih1 _ _ _ _
      | exact impl_Find.mono _ _ _
      | exact laws_zzFits1.mono _ _
      | exact spec_AllAlike.mono _ _ _
      | exact spec_Found.mono _ _ _
      | exact spec_SameFound.mono _ _ _
      | exact spec_Short.mono _ _ _
      | exact LeO.none _
      | refine LeO.ite ?_ ?_
      | refine LeO.bind ?_ (fun _ => ?_)
set_option maxHeartbeats 8000000 in
set_option maxRecDepth 100000 in
theorem laws_FnCases.calls (k : Nat) (a0 : ByteArray) (a1 : ByteArray) (A2 : Option Addr) (c2 : Nat) (l2 : List ByteArray) (r : Bool) (w : World) (hr2 : Kd.C Kd.string w A2 l2.length l2) (hc2 : l2.length ≤ c2) (hA_ : Amb w) (h : laws_FnCases.f k a0 a1 l2 = some r) :
    Calls Tryd.prog 5 #[.string a0, .string a1, .slice A2 l2.length c2] w fun e w' => e = .returned (.bool r) ∧ Below w.heap.size w w' := by
  have HR2 := Aside0.mk hr2
  have HC2 := Aside0.mk hc2
  clear hr2 hc2
  have HAMB := Aside0.mk hA_
  clear hA_
  have HB := Aside0.mk (Below.refl w.heap.size w)
  have H : (if (a0.size : Int) > 2147483647 then (laws_FnCases.j0 k a0 a1 l2 true) else (if (a1.size : Int) > 2147483647 then (laws_FnCases.j0 k a0 a1 l2 true) else ((laws_zzFits1.f k l2).bind fun t245 => (laws_FnCases.j0 k a0 a1 l2 (!t245))))) = some r := h
  clear h
  have HC4 := Aside0.mk H
  clear H
  go_enter Tryd.func5, Tryd.ntmps5
  go_upto_region 1 with (fail)
  go_cut [20] (fun v20 wc => ∃ (kq : Nat) (x20_3 : Bool), v20 = .bool x20_3 ∧ Aside0 (laws_FnCases.j0 kq a0 a1 l2 x20_3 = some r) ∧ Aside0 (kq ≤ k) ∧ Aside0 (Below w.heap.size w wc))
  case first =>
    have H := HC4.out
    clear HC4
    by_cases c5 : (a0.size : Int) > 2147483647
    · rw [if_pos c5] at H
      have c5b0 : decide (2147483647 < (a0.size : Int)) = true := decide_eq_true c5
      have c5b1 : decide (2147483647 < a0.size) = true := decide_eq_true (by omega)
      clear c5
      (first | rw [c5b0] | (simp only [i64_w, i32_w]; rw [c5b0]) | skip)
      have H' := Aside0.mk H
      clear H
      go_wp2
      go_meet
      case rel => exact ⟨_, (true), (by first | rfl | (simp; done) | (simp [*]; done)), H', ⟨by first | omega | exact Nat.le_refl _⟩, ⟨by repeat (first | (with_reducible first | exact HB.out | apply below_alloc | apply pw_below_drewN | apply below_drew1) | exact HB.out)⟩⟩
    · rw [if_neg c5] at H
      have c5b0 : decide (2147483647 < (a0.size : Int)) = false := decide_eq_false c5
      have c5b1 : decide (2147483647 < a0.size) = false := decide_eq_false (by omega)
      clear c5
      (first | rw [c5b0] | (simp only [i64_w, i32_w]; rw [c5b0]) | skip)
      by_cases c6 : (a1.size : Int) > 2147483647
      · rw [if_pos c6] at H
        have c6b0 : decide (2147483647 < (a1.size : Int)) = true := decide_eq_true c6
        have c6b1 : decide (2147483647 < a1.size) = true := decide_eq_true (by omega)
        clear c6
        have H' := Aside0.mk H
        clear H
        go_wp2
        go_meet
        case rel => exact ⟨_, (true), (by first | rfl | (simp; done) | (simp [*]; done)), H', ⟨by first | omega | exact Nat.le_refl _⟩, ⟨by repeat (first | (with_reducible first | exact HB.out | apply below_alloc | apply pw_below_drewN | apply below_drew1) | exact HB.out)⟩⟩
      · rw [if_neg c6] at H
        have c6b0 : decide (2147483647 < (a1.size : Int)) = false := decide_eq_false c6
        have c6b1 : decide (2147483647 < a1.size) = false := decide_eq_false (by omega)
        clear c6
        replace H := Option.bind_eq_some_iff.mp H
        obtain ⟨t245, A70, H⟩ := H
        replace H : (laws_FnCases.j0 k a0 a1 l2 (!t245)) = some r := H
        have A7 := Aside0.mk A70
        clear A70
        have H' := Aside0.mk H
        clear H
        go_wp2_with (first | (go_at_call 8; (with_reducible refine (laws_zzFits1.calls k _ _ l2 t245 _ ?side1 ?side2 A7.out).mono ?_); (case side1 => repeat (first | exact (Kd.C_below HR2.out HB.out) | (with_reducible refine Kd.C_alloc ?_ _) | (with_reducible refine Kd.C_drewN ?_ _) | (with_reducible refine Kd.C_drew ?_))); (case side2 => exact HC2.out); rintro e w' ⟨rfl, ⟨nd, rfl⟩⟩))
        go_meet
        case rel => exact ⟨_, (!t245), (by first | rfl | (simp; done) | (simp [*]; done)), H', ⟨by first | omega | exact Nat.le_refl _⟩, ⟨by repeat (first | (with_reducible first | exact HB.out | apply below_alloc | apply pw_below_drewN | apply below_drew1) | exact HB.out)⟩⟩
  case rest =>
    clear HC4
    try clear c2
    try clear p2
    try clear c5
    try clear c5b0
    try clear c5b1
    try clear c6
    try clear c6b0
    try clear c6b1
    obtain ⟨kq, x20_3, rfl, HA, HJ3, HB⟩ := hcut
    cases kq with
    | zero => exact absurd HA.out (by simp [laws_FnCases.j0])
    | succ kj3 =>
      have H := HA.out
      clear HA
      simp only [laws_FnCases.j0] at H
      by_cases c8 : x20_3 = true
      · subst c8
        have H1 : (some true) = some r := by rw [if_pos rfl] at H; exact H
        clear H
        have H := H1
        clear H1
        obtain rfl := Option.some.inj H
        go_wp2
        go_ret
        exact ⟨by first | rfl | (simp [errW_none, errW_some] <;> rfl) | (simp [*, errW_none, errW_some] <;> rfl), by repeat (first | (with_reducible first | exact HB.out | apply below_alloc | apply pw_below_drewN | apply below_drew1) | exact HB.out)⟩
      · replace c8 := Bool.eq_false_iff.mpr c8
        subst c8
        have H1 : ((spec_Short.f kj3 a0 l2).bind fun t246 => (if t246 = true then ((spec_Short.f kj3 a1 l2).bind fun t247 => (if t247 = true then ((spec_AllAlike.f kj3 a0 a1).bind fun t248 => (laws_FnCases.j1 kj3 a0 a1 l2 (!t248))) else (laws_FnCases.j1 kj3 a0 a1 l2 true))) else (laws_FnCases.j1 kj3 a0 a1 l2 true))) = some r := by rw [if_neg (show ¬ (false = true) by decide)] at H; exact H
        clear H
        have H := H1
        clear H1
        have HC9 := Aside0.mk H
        clear H
        go_upto_region 3 with (fail)
        go_cut [36] (fun v36 wc => ∃ (kq : Nat) (x36_8 : Bool), v36 = .bool x36_8 ∧ Aside0 (laws_FnCases.j1 kq a0 a1 l2 x36_8 = some r) ∧ Aside0 (kq ≤ kj3) ∧ Aside0 (Below w.heap.size w wc))
        case first =>
          have H := HC9.out
          clear HC9
          replace H := Option.bind_eq_some_iff.mp H
          obtain ⟨t246, A100, H⟩ := H
          replace H : (if t246 = true then ((spec_Short.f kj3 a1 l2).bind fun t247 => (if t247 = true then ((spec_AllAlike.f kj3 a0 a1).bind fun t248 => (laws_FnCases.j1 kj3 a0 a1 l2 (!t248))) else (laws_FnCases.j1 kj3 a0 a1 l2 true))) else (laws_FnCases.j1 kj3 a0 a1 l2 true)) = some r := H
          have A10 := Aside0.mk A100
          clear A100
          by_cases c11 : t246 = true
          · subst c11
            have H1 : ((spec_Short.f kj3 a1 l2).bind fun t247 => (if t247 = true then ((spec_AllAlike.f kj3 a0 a1).bind fun t248 => (laws_FnCases.j1 kj3 a0 a1 l2 (!t248))) else (laws_FnCases.j1 kj3 a0 a1 l2 true))) = some r := by rw [if_pos rfl] at H; exact H
            clear H
            have H := H1
            clear H1
            replace H := Option.bind_eq_some_iff.mp H
            obtain ⟨t247, A120, H⟩ := H
            replace H : (if t247 = true then ((spec_AllAlike.f kj3 a0 a1).bind fun t248 => (laws_FnCases.j1 kj3 a0 a1 l2 (!t248))) else (laws_FnCases.j1 kj3 a0 a1 l2 true)) = some r := H
            have A12 := Aside0.mk A120
            clear A120
            by_cases c13 : t247 = true
            · subst c13
              have H1 : ((spec_AllAlike.f kj3 a0 a1).bind fun t248 => (laws_FnCases.j1 kj3 a0 a1 l2 (!t248))) = some r := by rw [if_pos rfl] at H; exact H
              clear H
              have H := H1
              clear H1
              replace H := Option.bind_eq_some_iff.mp H
              obtain ⟨t248, A140, H⟩ := H
              replace H : (laws_FnCases.j1 kj3 a0 a1 l2 (!t248)) = some r := H
              have A14 := Aside0.mk A140
              clear A140
              have H' := Aside0.mk H
              clear H
              go_wp2_with (first | ((with_reducible refine gate_callee (f := 9) rfl ?_); refine goesL_ (some 23) rfl rfl Tryd.func9 (by kernel_rfl) rfl #[.string a0, .slice A2 l2.length c2] rfl (by (try simp only [List.map_toArray, List.map_cons, List.map_nil]); first | done | rfl | (simp only [List.length_drop, List.length_take]; rfl)) ?_; (with_reducible refine (spec_Short.calls kj3 a0 _ _ l2 true _ ?side1 ?side2 A10.out).mono ?_); (case side1 => repeat (first | exact (Kd.C_below HR2.out HB.out) | (with_reducible refine Kd.C_alloc ?_ _) | (with_reducible refine Kd.C_drewN ?_ _) | (with_reducible refine Kd.C_drew ?_))); (case side2 => exact HC2.out); rintro e w15 ⟨rfl, hb⟩; refine ⟨_, rfl, ?_⟩; have n0_ := Aside0.mk (below_step (by repeat (first | (with_reducible first | exact HB.out | apply below_alloc | apply pw_below_drewN | apply below_drew1) | exact HB.out)) hb); clear HB; have HB := n0_; clear n0_; (try clear hb); (try clear hb2); (try clear hk); (try clear hi)) | (go_at_call 9; (with_reducible refine (spec_Short.calls kj3 a1 _ _ l2 true _ ?side1 ?side2 A12.out).mono ?_); (case side1 => repeat (first | exact (Kd.C_below HR2.out HB.out) | (with_reducible refine Kd.C_alloc ?_ _) | (with_reducible refine Kd.C_drewN ?_ _) | (with_reducible refine Kd.C_drew ?_))); (case side2 => exact HC2.out); rintro e w16 ⟨rfl, hb⟩; have n0_ := Aside0.mk (below_step (by repeat (first | (with_reducible first | exact HB.out | apply below_alloc | apply pw_below_drewN | apply below_drew1) | exact HB.out)) hb); clear HB; have HB := n0_; clear n0_; (try clear hb); (try clear hb2); (try clear hk); (try clear hi)) | (go_at_call 14; (with_reducible refine (spec_AllAlike.calls kj3 a0 a1 t248 _ (by first | (with_reducible exact HAMB.out) | exact Amb.below HAMB.out (by repeat (first | (with_reducible first | exact HB.out | apply below_alloc | apply pw_below_drewN | apply below_drew1) | exact HB.out)) | exact Amb.below HAMB.out (by repeat (first | (with_reducible first | exact Below.refl _ _ | apply pw_below_drewN | apply below_drew1 | apply below_alloc)))) A14.out).mono ?_); rintro e w17 ⟨rfl, hb⟩; have n0_ := Aside0.mk (below_step (by repeat (first | (with_reducible first | exact HB.out | apply below_alloc | apply pw_below_drewN | apply below_drew1) | exact HB.out)) hb); clear HB; have HB := n0_; clear n0_; (try clear hb); (try clear hb2); (try clear hk); (try clear hi)))
              go_meet
              case rel => exact ⟨_, (!t248), (by first | rfl | (simp; done) | (simp [*]; done)), H', ⟨by have := HJ3.out; first | omega | exact Nat.le_refl _⟩, ⟨by repeat (first | (with_reducible first | exact HB.out | apply below_alloc | apply pw_below_drewN | apply below_drew1) | exact HB.out)⟩⟩
            · replace c13 := Bool.eq_false_iff.mpr c13
              subst c13
              have H1 : (laws_FnCases.j1 kj3 a0 a1 l2 true) = some r := by rw [if_neg (show ¬ (false = true) by decide)] at H; exact H
              clear H
              have H := H1
              clear H1
              have H' := Aside0.mk H
              clear H
              go_wp2_with (first | ((with_reducible refine gate_callee (f := 9) rfl ?_); refine goesL_ (some 23) rfl rfl Tryd.func9 (by kernel_rfl) rfl #[.string a0, .slice A2 l2.length c2] rfl (by (try simp only [List.map_toArray, List.map_cons, List.map_nil]); first | done | rfl | (simp only [List.length_drop, List.length_take]; rfl)) ?_; (with_reducible refine (spec_Short.calls kj3 a0 _ _ l2 true _ ?side1 ?side2 A10.out).mono ?_); (case side1 => repeat (first | exact (Kd.C_below HR2.out HB.out) | (with_reducible refine Kd.C_alloc ?_ _) | (with_reducible refine Kd.C_drewN ?_ _) | (with_reducible refine Kd.C_drew ?_))); (case side2 => exact HC2.out); rintro e w18 ⟨rfl, hb⟩; refine ⟨_, rfl, ?_⟩; have n0_ := Aside0.mk (below_step (by repeat (first | (with_reducible first | exact HB.out | apply below_alloc | apply pw_below_drewN | apply below_drew1) | exact HB.out)) hb); clear HB; have HB := n0_; clear n0_; (try clear hb); (try clear hb2); (try clear hk); (try clear hi)) | (go_at_call 9; (with_reducible refine (spec_Short.calls kj3 a1 _ _ l2 false _ ?side1 ?side2 A12.out).mono ?_); (case side1 => repeat (first | exact (Kd.C_below HR2.out HB.out) | (with_reducible refine Kd.C_alloc ?_ _) | (with_reducible refine Kd.C_drewN ?_ _) | (with_reducible refine Kd.C_drew ?_))); (case side2 => exact HC2.out); rintro e w19 ⟨rfl, hb⟩; have n0_ := Aside0.mk (below_step (by repeat (first | (with_reducible first | exact HB.out | apply below_alloc | apply pw_below_drewN | apply below_drew1) | exact HB.out)) hb); clear HB; have HB := n0_; clear n0_; (try clear hb); (try clear hb2); (try clear hk); (try clear hi)))
              go_meet
              case rel => exact ⟨_, (true), (by first | rfl | (simp; done) | (simp [*]; done)), H', ⟨by have := HJ3.out; first | omega | exact Nat.le_refl _⟩, ⟨by repeat (first | (with_reducible first | exact HB.out | apply below_alloc | apply pw_below_drewN | apply below_drew1) | exact HB.out)⟩⟩
          · replace c11 := Bool.eq_false_iff.mpr c11
            subst c11
            have H1 : (laws_FnCases.j1 kj3 a0 a1 l2 true) = some r := by rw [if_neg (show ¬ (false = true) by decide)] at H; exact H
            clear H
            have H := H1
            clear H1
            have H' := Aside0.mk H
            clear H
            go_wp2_with (first | ((with_reducible refine gate_callee (f := 9) rfl ?_); refine goesL_ (some 23) rfl rfl Tryd.func9 (by kernel_rfl) rfl #[.string a0, .slice A2 l2.length c2] rfl (by (try simp only [List.map_toArray, List.map_cons, List.map_nil]); first | done | rfl | (simp only [List.length_drop, List.length_take]; rfl)) ?_; (with_reducible refine (spec_Short.calls kj3 a0 _ _ l2 false _ ?side1 ?side2 A10.out).mono ?_); (case side1 => repeat (first | exact (Kd.C_below HR2.out HB.out) | (with_reducible refine Kd.C_alloc ?_ _) | (with_reducible refine Kd.C_drewN ?_ _) | (with_reducible refine Kd.C_drew ?_))); (case side2 => exact HC2.out); rintro e w20 ⟨rfl, hb⟩; refine ⟨_, rfl, ?_⟩; have n0_ := Aside0.mk (below_step (by repeat (first | (with_reducible first | exact HB.out | apply below_alloc | apply pw_below_drewN | apply below_drew1) | exact HB.out)) hb); clear HB; have HB := n0_; clear n0_; (try clear hb); (try clear hb2); (try clear hk); (try clear hi)))
            go_meet
            case rel => exact ⟨_, (true), (by first | rfl | (simp; done) | (simp [*]; done)), H', ⟨by have := HJ3.out; first | omega | exact Nat.le_refl _⟩, ⟨by repeat (first | (with_reducible first | exact HB.out | apply below_alloc | apply pw_below_drewN | apply below_drew1) | exact HB.out)⟩⟩
        case rest =>
          clear HC9
          try clear c1
          try clear c2
          try clear p2
          try clear c5
          try clear c5b0
          try clear c5b1
          try clear c6
          try clear c6b0
          try clear c6b1
          try clear c8
          try clear c9
          try clear c11
          try clear c13
          try clear p2
          obtain ⟨kq, x36_8, rfl, HA, HJ8, HB⟩ := hcut
          cases kq with
          | zero => exact absurd HA.out (by simp [laws_FnCases.j1])
          | succ kj8 =>
            have H := HA.out
            clear HA
            simp only [laws_FnCases.j1] at H
            by_cases c21 : x36_8 = true
            · subst c21
              have H1 : (some true) = some r := by rw [if_pos rfl] at H; exact H
              clear H
              have H := H1
              clear H1
              obtain rfl := Option.some.inj H
              go_wp2
              go_ret
              exact ⟨by first | rfl | (simp [errW_none, errW_some] <;> rfl) | (simp [*, errW_none, errW_some] <;> rfl), by repeat (first | (with_reducible first | exact HB.out | apply below_alloc | apply pw_below_drewN | apply below_drew1) | exact HB.out)⟩
            · replace c21 := Bool.eq_false_iff.mpr c21
              subst c21
              have H1 : ((impl_Find.f kj8 a0 l2).bind fun t249 => ((impl_Find.f kj8 a1 l2).bind fun t252 => ((spec_SameFound.f kj8 t249 t252).bind fun t255 => (if t255 = true then ((spec_Found.f kj8 a1 l2).bind fun t256 => ((spec_Best.f t256).bind fun t259 => ((spec_SameFound.f kj8 t249 t259).bind fun t262 => (some t262)))) else (some false))))) = some r := by rw [if_neg (show ¬ (false = true) by decide)] at H; exact H
              clear H
              have H := H1
              clear H1
              replace H := Option.bind_eq_some_iff.mp H
              obtain ⟨t249, A220, H⟩ := H
              replace H : ((impl_Find.f kj8 a1 l2).bind fun t252 => ((spec_SameFound.f kj8 t249 t252).bind fun t255 => (if t255 = true then ((spec_Found.f kj8 a1 l2).bind fun t256 => ((spec_Best.f t256).bind fun t259 => ((spec_SameFound.f kj8 t249 t259).bind fun t262 => (some t262)))) else (some false)))) = some r := H
              have A22 := Aside0.mk A220
              clear A220
              replace H := Option.bind_eq_some_iff.mp H
              obtain ⟨t252, A230, H⟩ := H
              replace H : ((spec_SameFound.f kj8 t249 t252).bind fun t255 => (if t255 = true then ((spec_Found.f kj8 a1 l2).bind fun t256 => ((spec_Best.f t256).bind fun t259 => ((spec_SameFound.f kj8 t249 t259).bind fun t262 => (some t262)))) else (some false))) = some r := H
              have A23 := Aside0.mk A230
              clear A230
              replace H := Option.bind_eq_some_iff.mp H
              obtain ⟨t255, A240, H⟩ := H
              replace H : (if t255 = true then ((spec_Found.f kj8 a1 l2).bind fun t256 => ((spec_Best.f t256).bind fun t259 => ((spec_SameFound.f kj8 t249 t259).bind fun t262 => (some t262)))) else (some false)) = some r := H
              have A24 := Aside0.mk A240
              clear A240
              by_cases c25 : t255 = true
              · subst c25
                have H1 : ((spec_Found.f kj8 a1 l2).bind fun t256 => ((spec_Best.f t256).bind fun t259 => ((spec_SameFound.f kj8 t249 t259).bind fun t262 => (some t262)))) = some r := by rw [if_pos rfl] at H; exact H
                clear H
                have H := H1
                clear H1
                replace H := Option.bind_eq_some_iff.mp H
                obtain ⟨t256, A260, H⟩ := H
                replace H : ((spec_Best.f t256).bind fun t259 => ((spec_SameFound.f kj8 t249 t259).bind fun t262 => (some t262))) = some r := H
                have A26 := Aside0.mk A260
                clear A260
                replace H := Option.bind_eq_some_iff.mp H
                obtain ⟨t259, A270, H⟩ := H
                replace H : ((spec_SameFound.f kj8 t249 t259).bind fun t262 => (some t262)) = some r := H
                have A27 := Aside0.mk A270
                clear A270
                replace H := Option.bind_eq_some_iff.mp H
                obtain ⟨t262, A280, H⟩ := H
                replace H : (some t262) = some r := H
                have A28 := Aside0.mk A280
                clear A280
                obtain rfl := Option.some.inj H
                go_wp2_with (first | ((with_reducible refine gate_callee (f := 15) rfl ?_); refine goesL_ (some 39) rfl rfl Tryd.func15 (by kernel_rfl) rfl #[.string a0, .slice A2 l2.length c2] rfl (by (try simp only [List.map_toArray, List.map_cons, List.map_nil]); first | done | rfl | (simp only [List.length_drop, List.length_take]; rfl)) ?_; (with_reducible refine (impl_Find.calls kj8 a0 _ _ l2 t249 _ ?side1 ?side2 (by first | (with_reducible exact HAMB.out) | exact Amb.below HAMB.out (by repeat (first | (with_reducible first | exact HB.out | apply below_alloc | apply pw_below_drewN | apply below_drew1) | exact HB.out)) | exact Amb.below HAMB.out (by repeat (first | (with_reducible first | exact Below.refl _ _ | apply pw_below_drewN | apply below_drew1 | apply below_alloc)))) A22.out).mono ?_); (case side1 => repeat (first | exact (Kd.C_below HR2.out HB.out) | (with_reducible refine Kd.C_alloc ?_ _) | (with_reducible refine Kd.C_drewN ?_ _) | (with_reducible refine Kd.C_drew ?_))); (case side2 => exact HC2.out); rintro e w29 ⟨v250, rfl, ho0, hb⟩; refine ⟨_, rfl, ?_⟩; have n0_ := Aside0.mk (Kd.S_lower ho0 (below_size (by repeat (first | (with_reducible first | exact HB.out | apply below_alloc | apply pw_below_drewN | apply below_drew1) | exact HB.out)))); have n1_ := Aside0.mk (below_step (by repeat (first | (with_reducible first | exact HB.out | apply below_alloc | apply pw_below_drewN | apply below_drew1) | exact HB.out)) hb); clear HB; have HO251 := n0_; have HB := n1_; clear n0_ n1_; (try clear hb); (try clear hb2); (try clear hk); (try clear hi); (try clear ho0)) | ((with_reducible refine gate_callee (f := 15) rfl ?_); refine goesL_ (some 43) rfl rfl Tryd.func15 (by kernel_rfl) rfl #[.string a1, .slice A2 l2.length c2] rfl (by (try simp only [List.map_toArray, List.map_cons, List.map_nil]); first | done | rfl | (simp only [List.length_drop, List.length_take]; rfl)) ?_; (with_reducible refine (impl_Find.calls kj8 a1 _ _ l2 t252 _ ?side1 ?side2 (by first | (with_reducible exact HAMB.out) | exact Amb.below HAMB.out (by repeat (first | (with_reducible first | exact HB.out | apply below_alloc | apply pw_below_drewN | apply below_drew1) | exact HB.out)) | exact Amb.below HAMB.out (by repeat (first | (with_reducible first | exact Below.refl _ _ | apply pw_below_drewN | apply below_drew1 | apply below_alloc)))) A23.out).mono ?_); (case side1 => repeat (first | exact (Kd.C_below HR2.out HB.out) | (with_reducible refine Kd.C_alloc ?_ _) | (with_reducible refine Kd.C_drewN ?_ _) | (with_reducible refine Kd.C_drew ?_))); (case side2 => exact HC2.out); rintro e w30 ⟨v253, rfl, ho0, hb⟩; refine ⟨_, rfl, ?_⟩; have n0_ := Aside0.mk (Kd.S_elder' (by (with_reducible repeat (first | apply Kd.S_alloc | apply Kd.S_drewN | apply Kd.S_drew)); exact HO251.out) (Kd.S_base ho0) hb); have n1_ := Aside0.mk (Kd.S_lower (Kd.S_new' ho0 (Kd.S_lt (by (with_reducible repeat (first | apply Kd.S_alloc | apply Kd.S_drewN | apply Kd.S_drew)); exact HO251.out))) (below_size (by repeat (first | (with_reducible first | exact HB.out | apply below_alloc | apply pw_below_drewN | apply below_drew1) | exact HB.out)))); have n2_ := Aside0.mk (below_step (by repeat (first | (with_reducible first | exact HB.out | apply below_alloc | apply pw_below_drewN | apply below_drew1) | exact HB.out)) hb); clear HO251; clear HB; have HO251 := n0_; have HO254 := n1_; have HB := n2_; clear n0_ n1_ n2_; (try clear hb); (try clear hb2); (try clear hk); (try clear hi); (try clear ho0); obtain ⟨Ao31, co31, eo31⟩ := Kd.S_slice HO251.out; subst eo31; obtain ⟨Ao32, co32, eo32⟩ := Kd.S_slice HO254.out; subst eo32) | ((with_reducible refine gate_callee (f := 10) rfl ?_); refine goesL_ (some 44) rfl rfl Tryd.func10 (by kernel_rfl) rfl #[.slice Ao31 t249.length co31, .slice Ao32 t252.length co32] rfl (by (try simp only [List.map_toArray, List.map_cons, List.map_nil]); first | done | rfl | (simp only [List.length_drop, List.length_take]; rfl)) ?_; (with_reducible refine (spec_SameFound.calls kj8 _ _ t249 _ _ t252 true _ ?side1 ?side2 ?side3 ?side4 A24.out).mono ?_); (case side1 => repeat (first | exact (Kd.S_reads' HO251.out).2.2 | (with_reducible refine Kd.C_alloc ?_ _) | (with_reducible refine Kd.C_drewN ?_ _) | (with_reducible refine Kd.C_drew ?_))); (case side2 => exact (Kd.S_reads' HO251.out).2.1); (case side3 => repeat (first | exact (Kd.S_reads' HO254.out).2.2 | (with_reducible refine Kd.C_alloc ?_ _) | (with_reducible refine Kd.C_drewN ?_ _) | (with_reducible refine Kd.C_drew ?_))); (case side4 => exact (Kd.S_reads' HO254.out).2.1); rintro e w' ⟨rfl, ⟨nd, rfl⟩⟩; refine ⟨_, rfl, ?_⟩) | (go_at_call 12; (with_reducible refine (spec_Found.calls kj8 a1 _ _ l2 t256 _ ?side1 ?side2 (by first | (with_reducible exact HAMB.out) | exact Amb.below HAMB.out (by repeat (first | (with_reducible first | exact HB.out | apply below_alloc | apply pw_below_drewN | apply below_drew1) | exact HB.out)) | exact Amb.below HAMB.out (by repeat (first | (with_reducible first | exact Below.refl _ _ | apply pw_below_drewN | apply below_drew1 | apply below_alloc)))) A26.out).mono ?_); (case side1 => repeat (first | exact (Kd.C_below HR2.out (by repeat (first | (with_reducible first | exact HB.out | apply below_alloc | apply pw_below_drewN | apply below_drew1) | exact HB.out))) | (with_reducible refine Kd.C_alloc ?_ _) | (with_reducible refine Kd.C_drewN ?_ _) | (with_reducible refine Kd.C_drew ?_))); (case side2 => exact HC2.out); rintro e w33 ⟨v257, rfl, ho0, hb⟩; have n0_ := Aside0.mk (Kd.S_elder' (by (with_reducible repeat (first | apply Kd.S_alloc | apply Kd.S_drewN | apply Kd.S_drew)); exact HO251.out) (Kd.S_base ho0) hb); have n1_ := Aside0.mk (Kd.S_elder' (by (with_reducible repeat (first | apply Kd.S_alloc | apply Kd.S_drewN | apply Kd.S_drew)); exact HO254.out) (Kd.S_base ho0) hb); have n2_ := Aside0.mk (Kd.S_lower (Kd.S_new' (Kd.S_new' ho0 (Kd.S_lt (by (with_reducible repeat (first | apply Kd.S_alloc | apply Kd.S_drewN | apply Kd.S_drew)); exact HO251.out))) (Kd.S_lt (by (with_reducible repeat (first | apply Kd.S_alloc | apply Kd.S_drewN | apply Kd.S_drew)); exact HO254.out))) (below_size (by repeat (first | (with_reducible first | exact HB.out | apply below_alloc | apply pw_below_drewN | apply below_drew1) | exact HB.out)))); have n3_ := Aside0.mk (below_step (by repeat (first | (with_reducible first | exact HB.out | apply below_alloc | apply pw_below_drewN | apply below_drew1) | exact HB.out)) hb); clear HO251; clear HO254; clear HB; have HO251 := n0_; have HO254 := n1_; have HO258 := n2_; have HB := n3_; clear n0_ n1_ n2_ n3_; (try clear hb); (try clear hb2); (try clear hk); (try clear hi); (try clear ho0); obtain ⟨Ao34, co34, eo34⟩ := Kd.S_slice HO258.out; subst eo34) | (go_at_call 16; (with_reducible refine (spec_Best.calls _ _ t256 t259 _ ?side1 ?side2 A27.out).mono ?_); (case side1 => repeat (first | exact (Kd.S_reads' HO258.out).2.2 | (with_reducible refine Kd.C_alloc ?_ _) | (with_reducible refine Kd.C_drewN ?_ _) | (with_reducible refine Kd.C_drew ?_))); (case side2 => exact (Kd.S_reads' HO258.out).2.1); rintro e w35 ⟨v260, rfl, ⟨Ao36, co36, rfl, hbl_, hbc_⟩, hb⟩; have HL261 := Aside0.mk hbl_; clear hbl_; have n0_ := Aside0.mk (Kd.S_below (by (with_reducible repeat (first | apply Kd.S_alloc | apply Kd.S_drewN | apply Kd.S_drew)); exact HO251.out) hb); have n1_ := Aside0.mk (Kd.S_below (by (with_reducible repeat (first | apply Kd.S_alloc | apply Kd.S_drewN | apply Kd.S_drew)); exact HO254.out) hb); have n2_ := Aside0.mk (Kd.S_below (by (with_reducible repeat (first | apply Kd.S_alloc | apply Kd.S_drewN | apply Kd.S_drew)); exact HO258.out) hb); have n3_ := Aside0.mk hbc_; have n4_ := Aside0.mk (below_step (by repeat (first | (with_reducible first | exact HB.out | apply below_alloc | apply pw_below_drewN | apply below_drew1) | exact HB.out)) hb); clear HO251; clear HO254; clear HO258; clear HB; have HO251 := n0_; have HO254 := n1_; have HO258 := n2_; have HO261 := n3_; have HB := n4_; clear n0_ n1_ n2_ n3_ n4_; (try clear hb); (try clear hb2); (try clear hk); (try clear hi); (try clear hbc_)) | (go_at_call 10; (with_reducible refine (spec_SameFound.calls kj8 _ _ t249 _ _ t259 t262 _ ?side1 ?side2 ?side3 ?side4 A28.out).mono ?_); (case side1 => repeat (first | exact (Kd.S_reads' HO251.out).2.2 | (with_reducible refine Kd.C_alloc ?_ _) | (with_reducible refine Kd.C_drewN ?_ _) | (with_reducible refine Kd.C_drew ?_))); (case side2 => exact (Kd.S_reads' HO251.out).2.1); (case side3 => repeat (first | exact HO261.out | (with_reducible refine Kd.C_alloc ?_ _) | (with_reducible refine Kd.C_drewN ?_ _) | (with_reducible refine Kd.C_drew ?_))); (case side4 => exact HL261.out); rintro e w' ⟨rfl, ⟨nd, rfl⟩⟩))
                go_ret
                exact ⟨by first | rfl | (simp [errW_none, errW_some] <;> rfl) | (simp [*, errW_none, errW_some] <;> rfl), by repeat (first | (with_reducible first | exact HB.out | apply below_alloc | apply pw_below_drewN | apply below_drew1) | exact HB.out)⟩
              · replace c25 := Bool.eq_false_iff.mpr c25
                subst c25
                have H1 : (some false) = some r := by rw [if_neg (show ¬ (false = true) by decide)] at H; exact H
                clear H
                have H := H1
                clear H1
                obtain rfl := Option.some.inj H
                go_wp2_with (first | ((with_reducible refine gate_callee (f := 15) rfl ?_); refine goesL_ (some 39) rfl rfl Tryd.func15 (by kernel_rfl) rfl #[.string a0, .slice A2 l2.length c2] rfl (by (try simp only [List.map_toArray, List.map_cons, List.map_nil]); first | done | rfl | (simp only [List.length_drop, List.length_take]; rfl)) ?_; (with_reducible refine (impl_Find.calls kj8 a0 _ _ l2 t249 _ ?side1 ?side2 (by first | (with_reducible exact HAMB.out) | exact Amb.below HAMB.out (by repeat (first | (with_reducible first | exact HB.out | apply below_alloc | apply pw_below_drewN | apply below_drew1) | exact HB.out)) | exact Amb.below HAMB.out (by repeat (first | (with_reducible first | exact Below.refl _ _ | apply pw_below_drewN | apply below_drew1 | apply below_alloc)))) A22.out).mono ?_); (case side1 => repeat (first | exact (Kd.C_below HR2.out HB.out) | (with_reducible refine Kd.C_alloc ?_ _) | (with_reducible refine Kd.C_drewN ?_ _) | (with_reducible refine Kd.C_drew ?_))); (case side2 => exact HC2.out); rintro e w37 ⟨v250, rfl, ho0, hb⟩; refine ⟨_, rfl, ?_⟩; have n0_ := Aside0.mk (Kd.S_lower ho0 (below_size (by repeat (first | (with_reducible first | exact HB.out | apply below_alloc | apply pw_below_drewN | apply below_drew1) | exact HB.out)))); have n1_ := Aside0.mk (below_step (by repeat (first | (with_reducible first | exact HB.out | apply below_alloc | apply pw_below_drewN | apply below_drew1) | exact HB.out)) hb); clear HB; have HO251 := n0_; have HB := n1_; clear n0_ n1_; (try clear hb); (try clear hb2); (try clear hk); (try clear hi); (try clear ho0)) | ((with_reducible refine gate_callee (f := 15) rfl ?_); refine goesL_ (some 43) rfl rfl Tryd.func15 (by kernel_rfl) rfl #[.string a1, .slice A2 l2.length c2] rfl (by (try simp only [List.map_toArray, List.map_cons, List.map_nil]); first | done | rfl | (simp only [List.length_drop, List.length_take]; rfl)) ?_; (with_reducible refine (impl_Find.calls kj8 a1 _ _ l2 t252 _ ?side1 ?side2 (by first | (with_reducible exact HAMB.out) | exact Amb.below HAMB.out (by repeat (first | (with_reducible first | exact HB.out | apply below_alloc | apply pw_below_drewN | apply below_drew1) | exact HB.out)) | exact Amb.below HAMB.out (by repeat (first | (with_reducible first | exact Below.refl _ _ | apply pw_below_drewN | apply below_drew1 | apply below_alloc)))) A23.out).mono ?_); (case side1 => repeat (first | exact (Kd.C_below HR2.out HB.out) | (with_reducible refine Kd.C_alloc ?_ _) | (with_reducible refine Kd.C_drewN ?_ _) | (with_reducible refine Kd.C_drew ?_))); (case side2 => exact HC2.out); rintro e w38 ⟨v253, rfl, ho0, hb⟩; refine ⟨_, rfl, ?_⟩; have n0_ := Aside0.mk (Kd.S_elder' (by (with_reducible repeat (first | apply Kd.S_alloc | apply Kd.S_drewN | apply Kd.S_drew)); exact HO251.out) (Kd.S_base ho0) hb); have n1_ := Aside0.mk (Kd.S_lower (Kd.S_new' ho0 (Kd.S_lt (by (with_reducible repeat (first | apply Kd.S_alloc | apply Kd.S_drewN | apply Kd.S_drew)); exact HO251.out))) (below_size (by repeat (first | (with_reducible first | exact HB.out | apply below_alloc | apply pw_below_drewN | apply below_drew1) | exact HB.out)))); have n2_ := Aside0.mk (below_step (by repeat (first | (with_reducible first | exact HB.out | apply below_alloc | apply pw_below_drewN | apply below_drew1) | exact HB.out)) hb); clear HO251; clear HB; have HO251 := n0_; have HO254 := n1_; have HB := n2_; clear n0_ n1_ n2_; (try clear hb); (try clear hb2); (try clear hk); (try clear hi); (try clear ho0); obtain ⟨Ao39, co39, eo39⟩ := Kd.S_slice HO251.out; subst eo39; obtain ⟨Ao40, co40, eo40⟩ := Kd.S_slice HO254.out; subst eo40) | ((with_reducible refine gate_callee (f := 10) rfl ?_); refine goesL_ (some 44) rfl rfl Tryd.func10 (by kernel_rfl) rfl #[.slice Ao39 t249.length co39, .slice Ao40 t252.length co40] rfl (by (try simp only [List.map_toArray, List.map_cons, List.map_nil]); first | done | rfl | (simp only [List.length_drop, List.length_take]; rfl)) ?_; (with_reducible refine (spec_SameFound.calls kj8 _ _ t249 _ _ t252 false _ ?side1 ?side2 ?side3 ?side4 A24.out).mono ?_); (case side1 => repeat (first | exact (Kd.S_reads' HO251.out).2.2 | (with_reducible refine Kd.C_alloc ?_ _) | (with_reducible refine Kd.C_drewN ?_ _) | (with_reducible refine Kd.C_drew ?_))); (case side2 => exact (Kd.S_reads' HO251.out).2.1); (case side3 => repeat (first | exact (Kd.S_reads' HO254.out).2.2 | (with_reducible refine Kd.C_alloc ?_ _) | (with_reducible refine Kd.C_drewN ?_ _) | (with_reducible refine Kd.C_drew ?_))); (case side4 => exact (Kd.S_reads' HO254.out).2.1); rintro e w' ⟨rfl, ⟨nd, rfl⟩⟩; refine ⟨_, rfl, ?_⟩))
                go_ret
                exact ⟨by first | rfl | (simp [errW_none, errW_some] <;> rfl) | (simp [*, errW_none, errW_some] <;> rfl), by repeat (first | (with_reducible first | exact HB.out | apply below_alloc | apply pw_below_drewN | apply below_drew1) | exact HB.out)⟩

end Go.Proofs.YtgeimklpcfepaaaDoor.P
