-- written by a program of this session (wip/tools), out of the translation
import Derived.Test.YtgeimklpcfepaaaDoorP0
import Derived.Test.YtgeimklpcfepaaaDoorP3
import Derived.Test.YtgeimklpcfepaaaDoorFindFrom
import Derived.Test.YtgeimklpcfepaaaDoorExtFold
import Derived.Test.YtgeimklpcfepaaaDoorP6
import Derived.Test.YtgeimklpcfepaaaDoorP7
import Derived.Test.YtgeimklpcfepaaaDoorExtLetters
namespace Go.Proofs.YtgeimklpcfepaaaDoor.P
open Go.RowKit Go.Proofs.YtgeimklpcfepaaaDoorW.PrintWords Go.Proofs.YtgeimklpcfepaaaDoorW.PrintLast Go.Proofs.YtgeimklpcfepaaaDoorW.PrintMore
attribute [local go_sem] max2_int min2_int max_two min_two max_three min_three max_four min_four   -- for this text's walks alone
set_option linter.unusedVariables false
set_option linter.unusedSimpArgs false

/-! ### impl_FindNoSort: function 11 -/
def impl_FindNoSort.f (k : Nat) (a0 : ByteArray) (l1 : List ByteArray) : Option ((List (S33))) := (impl_areShort.f k a0 l1).bind fun t135 => (if t135 = true then (if ([] : List ByteArray).length + l1.length < 8796093022208 then ((sahilm_FindNoSort.f a0 (([] : List ByteArray) ++ l1)).bind fun t139 => ((impl_told.f k t139).bind fun t142 => (some t142))) else (none)) else (some ([] : List (S33))))
theorem impl_FindNoSort.mono : ∀ a0 a1 k, LeO (impl_FindNoSort.f k a0 a1) (impl_FindNoSort.f (k + 1) a0 a1) := by
  intro a0 a1 k
  unfold impl_FindNoSort.f
  repeat' first
      | (with_reducible exact impl_areShort.mono _ _ _)
      | (with_reducible exact impl_told.mono _ _)
      | (with_reducible exact LeO.refl _)
      | (with_reducible exact LeO.none _)
      | (with_reducible refine LeO.ite ?_ ?_)
      | (with_reducible refine LeO.bind ?_ (fun _ => ?_))
      | exact impl_areShort.mono _ _ _
      | exact impl_told.mono _ _
      | exact LeO.none _
      | refine LeO.ite ?_ ?_
      | refine LeO.bind ?_ (fun _ => ?_)
set_option maxHeartbeats 8000000 in
set_option maxRecDepth 100000 in
theorem impl_FindNoSort.calls (k : Nat) (a0 : ByteArray) (A1 : Option Addr) (c1 : Nat) (l1 : List ByteArray) (r : List (S33)) (w : World) (hr1 : Kd.C Kd.string w A1 l1.length l1) (hc1 : l1.length ≤ c1) (hA_ : Amb w) (h : impl_FindNoSort.f k a0 l1 = some r) :
    Calls Tryd.prog 11 #[.string a0, .slice A1 l1.length c1] w fun e w' => ∃ v0_ : Value, e = .returned (v0_) ∧ Kd.S k33 33 w' w.heap.size (fun _ => True) v0_ r ∧ Below w.heap.size w w' := by
  have HR1 := Aside0.mk hr1
  have HC1 := Aside0.mk hc1
  clear hr1 hc1
  have HAMB := Aside0.mk hA_
  clear hA_
  have HB := Aside0.mk (Below.refl w.heap.size w)
  have H : ((impl_areShort.f k a0 l1).bind fun t135 => (if t135 = true then (if ([] : List ByteArray).length + l1.length < 8796093022208 then ((sahilm_FindNoSort.f a0 (([] : List ByteArray) ++ l1)).bind fun t139 => ((impl_told.f k t139).bind fun t142 => (some t142))) else (none)) else (some ([] : List (S33))))) = some r := h
  clear h
  replace H := Option.bind_eq_some_iff.mp H
  obtain ⟨t135, A30, H⟩ := H
  replace H : (if t135 = true then (if ([] : List ByteArray).length + l1.length < 8796093022208 then ((sahilm_FindNoSort.f a0 (([] : List ByteArray) ++ l1)).bind fun t139 => ((impl_told.f k t139).bind fun t142 => (some t142))) else (none)) else (some ([] : List (S33)))) = some r := H
  have A3 := Aside0.mk A30
  clear A30
  by_cases c4 : t135 = true
  · subst c4
    have H1 : (if ([] : List ByteArray).length + l1.length < 8796093022208 then ((sahilm_FindNoSort.f a0 (([] : List ByteArray) ++ l1)).bind fun t139 => ((impl_told.f k t139).bind fun t142 => (some t142))) else (none)) = some r := by rw [if_pos rfl] at H; exact H
    clear H
    have H := H1
    clear H1
    by_cases c5 : ([] : List ByteArray).length + l1.length < 8796093022208
    · rw [if_pos c5] at H
      have LMc5 := Aside0.mk c5
      clear c5
      obtain ⟨y136, hy136⟩ : ∃ y_ : List ByteArray, y_ = (([] : List ByteArray) ++ l1) := ⟨_, rfl⟩
      replace H : ((sahilm_FindNoSort.f a0 y136).bind fun t139 => ((impl_told.f k t139).bind fun t142 => (some t142))) = some r := by first | (rw [hy136]; with_reducible exact H) | (have H2_ := (Option.bind_some _ _).symm.trans H; rw [hy136]; with_reducible exact H2_) | (have H2_ := (Option.bind_some _ _).symm.trans H; with_reducible exact H2_) | with_reducible exact H | (rw [hy136]; exact H) | exact H
      have Ny136 := Aside0.mk hy136
      clear hy136
      replace H := Option.bind_eq_some_iff.mp H
      obtain ⟨t139, A60, H⟩ := H
      replace H : ((impl_told.f k t139).bind fun t142 => (some t142)) = some r := H
      have A6 := Aside0.mk A60
      clear A60
      replace H := Option.bind_eq_some_iff.mp H
      obtain ⟨t142, A70, H⟩ := H
      replace H : (some t142) = some r := H
      have A7 := Aside0.mk A70
      clear A70
      obtain rfl := Option.some.inj H
      go_enter Tryd.func11, Tryd.ntmps11
      go_wp2_with (first | ((with_reducible refine gate_callee (f := 20) rfl ?_); refine goesL_ (some 7) rfl rfl Tryd.func20 (by kernel_rfl) rfl #[.string a0, .slice A1 l1.length c1] rfl (by (try simp only [List.map_toArray, List.map_cons, List.map_nil]); first | done | rfl | (simp only [List.length_drop, List.length_take]; rfl)) ?_; (with_reducible refine (impl_areShort.calls k a0 _ _ l1 true _ ?side1 ?side2 A3.out).mono ?_); (case side1 => repeat (first | exact HR1.out | (with_reducible refine Kd.C_alloc ?_ _) | (with_reducible refine Kd.C_drewN ?_ _) | (with_reducible refine Kd.C_drew ?_))); (case side2 => exact HC1.out); rintro e w' ⟨rfl, ⟨nd, rfl⟩⟩; refine ⟨_, rfl, ?_⟩) | ((with_reducible refine gate_builtin (b := .append) (xs := #[.const (.slice none 0 0), .tmp 10]) rfl ?_); at_builtin; refine Kd.R_append_rows Kd.string (w0 := w) w.heap.size rfl (.const (.slice none 0 0)) (.tmp 10) 22 9 (.string ⟨#[]⟩) 16 rfl Tryd.underlying22 info9 rfl (by decide) (by omega) (.slice none 0 0) ([] : List ByteArray) l1 _ _ _ (fun _ => True) (fun _ => False) rfl rfl ?aO ?aR (fun _ _ h => h) (fun _ h => h.elim) ?aF ?aB ?aS ?aL ?_; (case aR => repeat (first | exact HR1.out | (with_reducible refine Kd.C_alloc ?_ _) | (with_reducible refine Kd.C_drewN ?_ _) | (with_reducible refine Kd.C_drew ?_))); (case aB => exact (by repeat (first | (with_reducible first | exact HB.out | apply below_alloc | apply pw_below_drewN | apply below_drew1) | exact HB.out))); (case aF => exact (fun _ _ => trivial)); (case aO => exact ((Kd.R_nil _ _ _ _ (fun _ => True)))); (case aS => exact (below_size (by repeat (first | (with_reducible first | exact HB.out | apply below_alloc | apply pw_below_drewN | apply below_drew1) | exact HB.out)))); (case aL => have := LMc5.out; omega); intro v137 w8 ho hb hg hat; rw [← Ny136.out] at ho; have n0_ := Aside0.mk (hb); have n1_ := Aside0.mk (ho); clear HB; have HB := n0_; have HO138 := n1_; clear n0_ n1_; clear ho hb hg hat; obtain ⟨Ao9, co9, eo9⟩ := Kd.R_slice HO138.out; subst eo9) | ((with_reducible refine gate_callee (f := 22) rfl ?_); refine goesL_ (some 12) rfl rfl Tryd.func22 (by kernel_rfl) rfl #[.string a0, .slice Ao9 y136.length co9] rfl (by (try simp only [List.map_toArray, List.map_cons, List.map_nil]); first | done | rfl | (simp only [List.length_drop, List.length_take]; rfl)) ?_; (with_reducible refine (sahilm_FindNoSort.calls a0 _ _ y136 t139 _ ?side1 ?side2 (by first | (with_reducible exact HAMB.out) | exact Amb.below HAMB.out (by repeat (first | (with_reducible first | exact HB.out | apply below_alloc | apply pw_below_drewN | apply below_drew1) | exact HB.out)) | exact Amb.below HAMB.out (by repeat (first | (with_reducible first | exact Below.refl _ _ | apply pw_below_drewN | apply below_drew1 | apply below_alloc)))) A6.out).mono ?_); (case side1 => repeat (first | exact (Kd.R_reads' HO138.out).2.2 | (with_reducible refine Kd.C_alloc ?_ _) | (with_reducible refine Kd.C_drewN ?_ _) | (with_reducible refine Kd.C_drew ?_))); (case side2 => exact (Kd.R_reads' HO138.out).2.1); rintro e w10 ⟨v140, rfl, ho0, hb⟩; refine ⟨_, rfl, ?_⟩; have n0_ := Aside0.mk (Kd.R_below (by (with_reducible repeat (first | apply Kd.R_alloc | apply Kd.R_drewN | apply Kd.R_drew)); exact HO138.out) hb); have n1_ := Aside0.mk (Kd.R_lower ho0 (below_size (by repeat (first | (with_reducible first | exact HB.out | apply below_alloc | apply pw_below_drewN | apply below_drew1) | exact HB.out)))); have n2_ := Aside0.mk (below_step (by repeat (first | (with_reducible first | exact HB.out | apply below_alloc | apply pw_below_drewN | apply below_drew1) | exact HB.out)) hb); clear HO138; clear HB; have HO138 := n0_; have HO141 := n1_; have HB := n2_; clear n0_ n1_ n2_; (try clear hb); (try clear hb2); (try clear hk); (try clear hi); (try clear ho0); obtain ⟨Ao11, co11, eo11⟩ := Kd.R_slice HO141.out; subst eo11) | ((with_reducible refine gate_callee (f := 21) rfl ?_); refine goesL_ (some 13) rfl rfl Tryd.func21 (by kernel_rfl) rfl #[.slice Ao11 t139.length co11] rfl (by (try simp only [List.map_toArray, List.map_cons, List.map_nil]); first | done | rfl | (simp only [List.length_drop, List.length_take]; rfl)) ?_; (with_reducible refine (impl_told.calls k _ _ t139 t142 _ ?side1 ?side2 A7.out).mono ?_); (case side1 => repeat (first | exact (Kd.R_reads' HO141.out).2.2 | (with_reducible refine Kd.C_alloc ?_ _) | (with_reducible refine Kd.C_drewN ?_ _) | (with_reducible refine Kd.C_drew ?_))); (case side2 => exact (Kd.R_reads' HO141.out).2.1); rintro e w12 ⟨v143, rfl, ho0, hb⟩; refine ⟨_, rfl, ?_⟩; have n0_ := Aside0.mk (Kd.R_below (by (with_reducible repeat (first | apply Kd.R_alloc | apply Kd.R_drewN | apply Kd.R_drew)); exact HO138.out) hb); have n1_ := Aside0.mk (Kd.R_below (by (with_reducible repeat (first | apply Kd.R_alloc | apply Kd.R_drewN | apply Kd.R_drew)); exact HO141.out) hb); have n2_ := Aside0.mk (Kd.S_lower ho0 (below_size (by repeat (first | (with_reducible first | exact HB.out | apply below_alloc | apply pw_below_drewN | apply below_drew1) | exact HB.out)))); have n3_ := Aside0.mk (below_step (by repeat (first | (with_reducible first | exact HB.out | apply below_alloc | apply pw_below_drewN | apply below_drew1) | exact HB.out)) hb); clear HO138; clear HO141; clear HB; have HO138 := n0_; have HO141 := n1_; have HO144 := n2_; have HB := n3_; clear n0_ n1_ n2_ n3_; (try clear hb); (try clear hb2); (try clear hk); (try clear hi); (try clear ho0)))
      go_ret
      exact ⟨_, by first | rfl | (simp [errW_none, errW_some] <;> rfl) | (simp [*, errW_none, errW_some] <;> rfl), by (with_reducible repeat (first | apply Kd.S_alloc | apply Kd.S_drewN | apply Kd.S_drew)); exact HO144.out, by repeat (first | (with_reducible first | exact HB.out | apply below_alloc | apply pw_below_drewN | apply below_drew1) | exact HB.out)⟩
    · rw [if_neg c5] at H
      exact absurd H (by simp)
  · replace c4 := Bool.eq_false_iff.mpr c4
    subst c4
    have H1 : (some ([] : List (S33))) = some r := by rw [if_neg (show ¬ (false = true) by decide)] at H; exact H
    clear H
    have H := H1
    clear H1
    obtain rfl := Option.some.inj H
    go_enter Tryd.func11, Tryd.ntmps11
    go_wp2_with (first | ((with_reducible refine gate_callee (f := 20) rfl ?_); refine goesL_ (some 7) rfl rfl Tryd.func20 (by kernel_rfl) rfl #[.string a0, .slice A1 l1.length c1] rfl (by (try simp only [List.map_toArray, List.map_cons, List.map_nil]); first | done | rfl | (simp only [List.length_drop, List.length_take]; rfl)) ?_; (with_reducible refine (impl_areShort.calls k a0 _ _ l1 false _ ?side1 ?side2 A3.out).mono ?_); (case side1 => repeat (first | exact HR1.out | (with_reducible refine Kd.C_alloc ?_ _) | (with_reducible refine Kd.C_drewN ?_ _) | (with_reducible refine Kd.C_drew ?_))); (case side2 => exact HC1.out); rintro e w' ⟨rfl, ⟨nd, rfl⟩⟩; refine ⟨_, rfl, ?_⟩))
    go_ret
    exact ⟨_, by first | rfl | (simp [errW_none, errW_some] <;> rfl) | (simp [*, errW_none, errW_some] <;> rfl), by first | exact Kd.S_nil _ _ _ _ _ | exact Kd.N_nil _ _ _ _ _ | exact Kd.V_nil _ _ _ _ _ | exact Kd.Q_nil _ _ _ _ _ | exact Kd.R_nil _ _ _ _ _, by repeat (first | (with_reducible first | exact HB.out | apply below_alloc | apply pw_below_drewN | apply below_drew1) | exact HB.out)⟩

end Go.Proofs.YtgeimklpcfepaaaDoor.P
namespace Go.Proofs.YtgeimklpcfepaaaDoor.P
open Go.RowKit Go.Proofs.YtgeimklpcfepaaaDoorW.PrintWords Go.Proofs.YtgeimklpcfepaaaDoorW.PrintLast Go.Proofs.YtgeimklpcfepaaaDoorW.PrintMore
attribute [local go_sem] max2_int min2_int max_two min_two max_three min_three max_four min_four   -- for this text's walks alone
set_option linter.unusedVariables false
set_option linter.unusedSimpArgs false

/-! ### spec_Found: function 12 -/
def spec_Found.l0 : Nat → ByteArray → List ByteArray → List (S33) → Int → Option ((List (S33)))
  | 0, _, _, _, _ => none
  | k + 1, x0, x1, x5, x6 => if x6 < (x1.length : Int) then (if 0 ≤ x6 then ((spec_Scored.f k x0 (rdOf ByteArray.empty x1 x6)).bind fun bt188 => (if bt188.2.2 = true then (if x5.length < 2513169434916 then (spec_Found.l0 k x0 x1 (x5 ++ [(⟨rdOf ByteArray.empty x1 x6, x6, bt188.1, bt188.2.1⟩ : S33)]) (wrap64 (x6 + 1))) else (none)) else (spec_Found.l0 k x0 x1 x5 (wrap64 (x6 + 1))))) else (none)) else (some x5)
def spec_Found.f (k : Nat) (a0 : ByteArray) (l1 : List ByteArray) : Option ((List (S33))) := (some (([] : List (S33)) : List (S33))).bind fun y184 => (if a0.toList = ([] : List UInt8) then (some y184) else (spec_Found.l0 k a0 l1 y184 0))
theorem spec_Found.mono_l : ∀ k, (∀ y0 y1 y2 y3, LeO (spec_Found.l0 k y0 y1 y2 y3) (spec_Found.l0 (k + 1) y0 y1 y2 y3))
  | 0 => fun _ _ _ _ r h => by simp [spec_Found.l0] at h
  | k + 1 => by
    have ih0 := spec_Found.mono_l k
    · intro y0 y1 y2 y3
      unfold spec_Found.l0
      repeat' first
      | (with_reducible exact ih0 _ _ _ _)
      | (with_reducible exact spec_Scored.mono _ _ _)
      | (with_reducible exact LeO.refl _)
      | (with_reducible exact LeO.none _)
      | (with_reducible refine LeO.ite ?_ ?_)
      | (with_reducible refine LeO.bind ?_ (fun _ => ?_))
      | exact ih0 _ _ _ _
      | exact spec_Scored.mono _ _ _
      | exact LeO.none _
      | refine LeO.ite ?_ ?_
      | refine LeO.bind ?_ (fun _ => ?_)
theorem spec_Found.mono : ∀ a0 a1 k, LeO (spec_Found.f k a0 a1) (spec_Found.f (k + 1) a0 a1) := by
  intro a0 a1 k
  have ih0 := spec_Found.mono_l k
  unfold spec_Found.f
  repeat' first
      | (with_reducible exact ih0 _ _ _ _)
      | (with_reducible exact spec_Scored.mono _ _ _)
      | (with_reducible exact LeO.refl _)
      | (with_reducible exact LeO.none _)
      | (with_reducible refine LeO.ite ?_ ?_)
      | (with_reducible refine LeO.bind ?_ (fun _ => ?_))
      | exact ih0 _ _ _ _
      | exact spec_Scored.mono _ _ _
      | exact LeO.none _
      | refine LeO.ite ?_ ?_
      | refine LeO.bind ?_ (fun _ => ?_)
set_option maxHeartbeats 8000000 in
set_option maxRecDepth 100000 in
theorem spec_Found.calls (k : Nat) (a0 : ByteArray) (A1 : Option Addr) (c1 : Nat) (l1 : List ByteArray) (r : List (S33)) (w : World) (hr1 : Kd.C Kd.string w A1 l1.length l1) (hc1 : l1.length ≤ c1) (hA_ : Amb w) (h : spec_Found.f k a0 l1 = some r) :
    Calls Tryd.prog 12 #[.string a0, .slice A1 l1.length c1] w fun e w' => ∃ v0_ : Value, e = .returned (v0_) ∧ Kd.S k33 33 w' w.heap.size (fun _ => True) v0_ r ∧ Below w.heap.size w w' := by
  have hu33 := Tryd.underlying33
  have HR1 := Aside0.mk hr1
  have HC1 := Aside0.mk hc1
  clear hr1 hc1
  have HAMB := Aside0.mk hA_
  clear hA_
  have HB := Aside0.mk (Below.refl w.heap.size w)
  have H : ((some (([] : List (S33)) : List (S33))).bind fun y184 => (if a0.toList = ([] : List UInt8) then (some y184) else (spec_Found.l0 k a0 l1 y184 0))) = some r := h
  clear h
  obtain ⟨y184, hy184⟩ : ∃ y_ : List (S33), y_ = (([] : List (S33))) := ⟨_, rfl⟩
  replace H : (if a0.toList = ([] : List UInt8) then (some y184) else (spec_Found.l0 k a0 l1 y184 0)) = some r := by first | (rw [hy184]; with_reducible exact H) | (have H2_ := (Option.bind_some _ _).symm.trans H; rw [hy184]; with_reducible exact H2_) | (have H2_ := (Option.bind_some _ _).symm.trans H; with_reducible exact H2_) | with_reducible exact H | (rw [hy184]; exact H) | exact H
  have Ny184 := Aside0.mk hy184
  clear hy184
  by_cases c3 : a0.toList = ([] : List UInt8)
  · rw [if_pos c3] at H
    have c3b0 : (a0.toList == ([] : List UInt8)) = true := beq_iff_eq.mpr c3
    have c3b1 : (a0.toList != ([] : List UInt8)) = false := bne_eq_false_iff_eq.mpr c3
    clear c3
    obtain rfl := Option.some.inj H
    go_enter Tryd.func12, Tryd.ntmps12
    go_wp2_with (first | ((with_reducible refine gate_dst (N := 10) rfl ?_); refine Kd.S_lit k33 _ 33 ?hg (N := 10) ?hd (xs := ([] : List (S33))) (inner := []) (ok := fun _ => True) (okp := fun _ => True) ?hr ?hp (fun _ hk => hk) trivial (Below.refl _ _) (Nat.le_refl _) (by simp) ?_; (case hd => rfl); (case hg => rfl); (case hr => first | (go_simp; done) | (go_simp; rfl)); (case hp => exact (Reps.none _ _)); intro v185 w4 ho5 hb hg_ hnew_; clear hg_ hnew_; (first | rw [← Ny184.out] at ho5 | (simp only [Int.reduceToNat] at ho5; rw [← Ny184.out] at ho5)); have n0_ := Aside0.mk (Kd.S_lower ho5 (below_size (by repeat (first | (with_reducible first | exact HB.out | apply below_alloc | apply pw_below_drewN | apply below_drew1) | exact HB.out)))); have n1_ := Aside0.mk (below_step (by repeat (first | (with_reducible first | exact HB.out | apply below_alloc | apply pw_below_drewN | apply below_drew1) | exact HB.out)) hb); clear HB; have HO186 := n0_; have HB := n1_; clear n0_ n1_; clear hb ho5))
    go_ret
    exact ⟨_, by first | rfl | (simp [errW_none, errW_some] <;> rfl) | (simp [*, errW_none, errW_some] <;> rfl), by (with_reducible repeat (first | apply Kd.S_alloc | apply Kd.S_drewN | apply Kd.S_drew)); exact HO186.out, by repeat (first | (with_reducible first | exact HB.out | apply below_alloc | apply pw_below_drewN | apply below_drew1) | exact HB.out)⟩
  · rw [if_neg c3] at H
    have c3b0 : (a0.toList == ([] : List UInt8)) = false := beq_eq_false_iff_ne.mpr c3
    have c3b1 : (a0.toList != ([] : List UInt8)) = true := bne_iff_ne.mpr c3
    have H' := Aside0.mk H
    clear H
    go_enter Tryd.func12, Tryd.ntmps12
    go_wp2_with (first | ((with_reducible refine gate_dst (N := 10) rfl ?_); refine Kd.S_lit k33 _ 33 ?hg (N := 10) ?hd (xs := ([] : List (S33))) (inner := []) (ok := fun _ => True) (okp := fun _ => True) ?hr ?hp (fun _ hk => hk) trivial (Below.refl _ _) (Nat.le_refl _) (by simp) ?_; (case hd => rfl); (case hg => rfl); (case hr => first | (go_simp; done) | (go_simp; rfl)); (case hp => exact (Reps.none _ _)); intro v185 w6 ho7 hb hg_ hnew_; clear hg_ hnew_; (first | rw [← Ny184.out] at ho7 | (simp only [Int.reduceToNat] at ho7; rw [← Ny184.out] at ho7)); have n0_ := Aside0.mk (Kd.S_lower ho7 (below_size (by repeat (first | (with_reducible first | exact HB.out | apply below_alloc | apply pw_below_drewN | apply below_drew1) | exact HB.out)))); have n1_ := Aside0.mk (below_step (by repeat (first | (with_reducible first | exact HB.out | apply below_alloc | apply pw_below_drewN | apply below_drew1) | exact HB.out)) hb); clear HB; have HO186 := n0_; have HB := n1_; clear n0_ n1_; clear hb ho7))
    go_loopg [5, 6] k (fun kq v5 v6 w' => ∃ (x5_1 : List (S33)) (x6_1 : Int), v6 = .int .i64 x6_1 ∧ Aside0 (spec_Found.l0 kq a0 l1 x5_1 x6_1 = some r) ∧ Aside0 (kq ≤ k) ∧ Aside0 (Kd.S k33 33 w' w.heap.size (fun _ => True) v5 x5_1) ∧ Aside0 (Below w.heap.size w w'))
    case atStart => exact ⟨(y184), (0), (by first | rfl | (simp; done) | (simp [*]; done)), H', ⟨Nat.le_refl _⟩, ⟨by (with_reducible repeat (first | apply Kd.S_alloc | apply Kd.S_drewN | apply Kd.S_drew)); exact HO186.out⟩, ⟨by repeat (first | (with_reducible first | exact HB.out | apply below_alloc | apply pw_below_drewN | apply below_drew1) | exact HB.out)⟩⟩
    case round =>
      clear H'
      try clear c1
      try clear p2
      try clear c3
      try clear c3b0
      try clear c3b1
      obtain ⟨x5_1, x6_1, rfl, HA, HK1, HO_5, HB⟩ := hrel
      cases gk with
      | zero => exact absurd HA.out (by simp [spec_Found.l0])
      | succ k1 =>
        have H := HA.out
        clear HA
        simp only [spec_Found.l0] at H
        by_cases c8 : x6_1 < (l1.length : Int)
        · rw [if_pos c8] at H
          have c8b0 : decide (x6_1 < (l1.length : Int)) = true := decide_eq_true c8
          clear c8
          by_cases c9 : 0 ≤ x6_1
          · rw [if_pos c9] at H
            have c9b0 : decide (0 ≤ x6_1) = true := decide_eq_true c9
            clear c9
            replace H := Option.bind_eq_some_iff.mp H
            obtain ⟨⟨t188, t189, t190⟩, A100, H⟩ := H
            replace H : (if t190 = true then (if x5_1.length < 2513169434916 then (spec_Found.l0 k1 a0 l1 (x5_1 ++ [(⟨rdOf ByteArray.empty l1 x6_1, x6_1, t188, t189⟩ : S33)]) (wrap64 (x6_1 + 1))) else (none)) else (spec_Found.l0 k1 a0 l1 x5_1 (wrap64 (x6_1 + 1)))) = some r := H
            have A10 := Aside0.mk A100
            clear A100
            by_cases c11 : t190 = true
            · subst c11
              have H1 : (if x5_1.length < 2513169434916 then (spec_Found.l0 k1 a0 l1 (x5_1 ++ [(⟨rdOf ByteArray.empty l1 x6_1, x6_1, t188, t189⟩ : S33)]) (wrap64 (x6_1 + 1))) else (none)) = some r := by rw [if_pos rfl] at H; exact H
              clear H
              have H := H1
              clear H1
              by_cases c12 : x5_1.length < 2513169434916
              · rw [if_pos c12] at H
                have LMc12 := Aside0.mk c12
                clear c12
                obtain ⟨y194, hy194⟩ : ∃ y_ : List (S33), y_ = (x5_1 ++ [(⟨rdOf ByteArray.empty l1 x6_1, x6_1, t188, t189⟩ : S33)]) := ⟨_, rfl⟩
                replace H : (spec_Found.l0 k1 a0 l1 y194 (wrap64 (x6_1 + 1))) = some r := by first | (rw [hy194]; with_reducible exact H) | (have H2_ := (Option.bind_some _ _).symm.trans H; rw [hy194]; with_reducible exact H2_) | (have H2_ := (Option.bind_some _ _).symm.trans H; with_reducible exact H2_) | with_reducible exact H | (rw [hy194]; exact H) | exact H
                have Ny194 := Aside0.mk hy194
                clear hy194
                have H' := Aside0.mk H
                clear H
                have p187 : 0 ≤ (x6_1 : Int) := of_decide_eq_true (by first | (with_reducible assumption) | assumption)
                have q187 : x6_1 < (l1.length : Int) := of_decide_eq_true (by first | (with_reducible assumption) | assumption)
                obtain ⟨ad187, e187, hx187_0⟩ := Kd.at_string HR1.out x6_1 p187 q187
                cases e187
                replace hx187_0 := (HB.out.cell (World.block_lt_of_cell? w _ hx187_0)).trans hx187_0
                replace p187 := eq_true p187
                replace q187 := eq_true q187
                go_wp2_with (first | ((with_reducible refine gate_callee (f := 23) rfl ?_); refine goesL_ (some 26) rfl rfl Tryd.func23 (by kernel_rfl) rfl #[.string a0, .string (rdOf ByteArray.empty l1 x6_1)] rfl (by (try simp only [List.map_toArray, List.map_cons, List.map_nil]); first | done | rfl | (simp only [List.length_drop, List.length_take]; rfl)) ?_; (with_reducible refine (spec_Scored.calls k1 a0 (rdOf ByteArray.empty l1 x6_1) t188 t189 true _ (by first | (with_reducible exact HAMB.out) | exact Amb.below HAMB.out (by repeat (first | (with_reducible first | exact HB.out | apply below_alloc | apply pw_below_drewN | apply below_drew1) | exact HB.out)) | exact Amb.below HAMB.out (by repeat (first | (with_reducible first | exact Below.refl _ _ | apply pw_below_drewN | apply below_drew1 | apply below_alloc)))) A10.out).mono ?_); rintro e w13 ⟨v191, rfl, ho0, hb⟩; refine ⟨_, rfl, ?_⟩; have n0_ := Aside0.mk (Kd.S_elder' (by (with_reducible repeat (first | apply Kd.S_alloc | apply Kd.S_drewN | apply Kd.S_drew)); exact HO_5.out) (Kd.R_base ho0) hb); have n1_ := Aside0.mk (Kd.R_lower ho0 (below_size (by repeat (first | (with_reducible first | exact HB.out | apply below_alloc | apply pw_below_drewN | apply below_drew1) | exact HB.out)))); have n2_ := Aside0.mk (below_step (by repeat (first | (with_reducible first | exact HB.out | apply below_alloc | apply pw_below_drewN | apply below_drew1) | exact HB.out)) hb); clear HO_5; clear HB; have HO_5 := n0_; have HO192 := n1_; have HB := n2_; clear n0_ n1_ n2_; (try clear hb); (try clear hb2); (try clear hk); (try clear hi); (try clear ho0); have p193 : 0 ≤ (x6_1 : Int) := of_decide_eq_true (by first | (with_reducible assumption) | assumption); have q193 : x6_1 < (l1.length : Int) := of_decide_eq_true (by first | (with_reducible assumption) | assumption); obtain ⟨ad193, e193, hx193_0⟩ := Kd.at_string HR1.out x6_1 p193 q193; obtain rfl : ad187 = ad193 := (by injection e193); replace hx193_0 := (HB.out.cell (World.block_lt_of_cell? w _ hx193_0)).trans hx193_0; replace p193 := eq_true p193; replace q193 := eq_true q193; obtain ⟨Ao14, co14, eo14⟩ := Kd.R_slice HO192.out; subst eo14) | ((with_reducible refine gate_builtin (b := .append) (xs := #[.tmp 31, .tmp 40]) rfl ?_); at_builtin; refine Kd.S_append k33 (w0 := w) w.heap.size rfl (.tmp 31) (.tmp 40) 26 33 (.agg #[(.string ⟨#[]⟩), (.int .i64 0), (.slice none 0 0), (.int .i64 0)]) 56 rfl Tryd.underlying26 info33 rfl (by decide) (by omega) u5 x5_1 (⟨rdOf ByteArray.empty l1 x6_1, x6_1, t188, t189⟩ : S33) [.string (rdOf ByteArray.empty l1 x6_1), .int .i64 x6_1, .slice Ao14 t188.length co14, .int .i64 t189] (fun _ => True) (fun k_ => some k_ = (.slice Ao14 t188.length co14 : Value).ownBlock) rfl rfl ?aP (fun k_ hk_ => ((Kd.R_mono (ok' := fun k_ => ((fun _ => True)) k_ ∧ some k_ ≠ (u5 : Value).ownBlock) (Kd.R_apart' (HO192.out) (Kd.S_typed HO_5.out) (by decide)) (fun k_ hk => ⟨trivial, hk.2⟩))).1 k_ hk_.symm) ?aF ?aO ?aB ?aS ?aL ?_; (case aP => exact k33_mkM _ _ _ (⟨rdOf ByteArray.empty l1 x6_1, x6_1, t188, t189⟩ : S33) (Kd.R_mono (Kd.R_tight rfl (Kd.R_mono (ok' := fun k_ => ((fun _ => True)) k_ ∧ some k_ ≠ (u5 : Value).ownBlock) (Kd.R_apart' (HO192.out) (Kd.S_typed HO_5.out) (by decide)) (fun k_ hk => ⟨trivial, hk.2⟩))) (fun _ h_ => h_))); (case aB => exact (by repeat (first | (with_reducible first | exact HB.out | apply below_alloc | apply pw_below_drewN | apply below_drew1) | exact HB.out))); (case aF => exact (fun _ _ => trivial)); (case aO => exact (by (with_reducible repeat (first | apply Kd.S_alloc | apply Kd.S_drewN | apply Kd.S_drew)); exact Kd.S_mono HO_5.out (fun k_ hk => ⟨trivial, fun e_ => hk.2 e_⟩))); (case aS => exact (below_size (by repeat (first | (with_reducible first | exact HB.out | apply below_alloc | apply pw_below_drewN | apply below_drew1) | exact HB.out)))); (case aL => have := LMc12.out; omega); intro v195 w15 ho hb hg hat; rw [← Ny194.out] at ho; have n0_ := Aside0.mk (hb); have n1_ := Aside0.mk (ho); clear HB; clear HO_5; clear HO192; have HB := n0_; have HO196 := n1_; clear n0_ n1_; clear ho hb hg hat))
                go_roundg k1
                case measure => have := HK1.out; omega
                case rel => exact ⟨(y194), (wrap64 (x6_1 + 1)), (by first | rfl | (simp; done) | (simp [*]; done)), H', ⟨by have := HK1.out; omega⟩, ⟨by (with_reducible repeat (first | apply Kd.S_alloc | apply Kd.S_drewN | apply Kd.S_drew)); exact HO196.out⟩, ⟨by repeat (first | (with_reducible first | exact HB.out | apply below_alloc | apply pw_below_drewN | apply below_drew1) | exact HB.out)⟩⟩
              · rw [if_neg c12] at H
                exact absurd H (by simp)
            · replace c11 := Bool.eq_false_iff.mpr c11
              subst c11
              have H1 : (spec_Found.l0 k1 a0 l1 x5_1 (wrap64 (x6_1 + 1))) = some r := by rw [if_neg (show ¬ (false = true) by decide)] at H; exact H
              clear H
              have H := H1
              clear H1
              have H' := Aside0.mk H
              clear H
              have p187 : 0 ≤ (x6_1 : Int) := of_decide_eq_true (by first | (with_reducible assumption) | assumption)
              have q187 : x6_1 < (l1.length : Int) := of_decide_eq_true (by first | (with_reducible assumption) | assumption)
              obtain ⟨ad187, e187, hx187_0⟩ := Kd.at_string HR1.out x6_1 p187 q187
              cases e187
              replace hx187_0 := (HB.out.cell (World.block_lt_of_cell? w _ hx187_0)).trans hx187_0
              replace p187 := eq_true p187
              replace q187 := eq_true q187
              go_wp2_with (first | ((with_reducible refine gate_callee (f := 23) rfl ?_); refine goesL_ (some 26) rfl rfl Tryd.func23 (by kernel_rfl) rfl #[.string a0, .string (rdOf ByteArray.empty l1 x6_1)] rfl (by (try simp only [List.map_toArray, List.map_cons, List.map_nil]); first | done | rfl | (simp only [List.length_drop, List.length_take]; rfl)) ?_; (with_reducible refine (spec_Scored.calls k1 a0 (rdOf ByteArray.empty l1 x6_1) t188 t189 false _ (by first | (with_reducible exact HAMB.out) | exact Amb.below HAMB.out (by repeat (first | (with_reducible first | exact HB.out | apply below_alloc | apply pw_below_drewN | apply below_drew1) | exact HB.out)) | exact Amb.below HAMB.out (by repeat (first | (with_reducible first | exact Below.refl _ _ | apply pw_below_drewN | apply below_drew1 | apply below_alloc)))) A10.out).mono ?_); rintro e w16 ⟨v191, rfl, ho0, hb⟩; refine ⟨_, rfl, ?_⟩; have n0_ := Aside0.mk (Kd.S_elder' (by (with_reducible repeat (first | apply Kd.S_alloc | apply Kd.S_drewN | apply Kd.S_drew)); exact HO_5.out) (Kd.R_base ho0) hb); have n1_ := Aside0.mk (Kd.R_lower ho0 (below_size (by repeat (first | (with_reducible first | exact HB.out | apply below_alloc | apply pw_below_drewN | apply below_drew1) | exact HB.out)))); have n2_ := Aside0.mk (below_step (by repeat (first | (with_reducible first | exact HB.out | apply below_alloc | apply pw_below_drewN | apply below_drew1) | exact HB.out)) hb); clear HO_5; clear HB; have HO_5 := n0_; have HO192 := n1_; have HB := n2_; clear n0_ n1_ n2_; (try clear hb); (try clear hb2); (try clear hk); (try clear hi); (try clear ho0)))
              go_roundg k1
              case measure => have := HK1.out; omega
              case rel => exact ⟨(x5_1), (wrap64 (x6_1 + 1)), (by first | rfl | (simp; done) | (simp [*]; done)), H', ⟨by have := HK1.out; omega⟩, ⟨by (with_reducible repeat (first | apply Kd.S_alloc | apply Kd.S_drewN | apply Kd.S_drew)); exact Kd.S_mono HO_5.out (fun _ hk => trivial)⟩, ⟨by repeat (first | (with_reducible first | exact HB.out | apply below_alloc | apply pw_below_drewN | apply below_drew1) | exact HB.out)⟩⟩
          · rw [if_neg c9] at H
            exact absurd H (by simp)
        · rw [if_neg c8] at H
          have c8b0 : decide (x6_1 < (l1.length : Int)) = false := decide_eq_false c8
          clear c8
          obtain rfl := Option.some.inj H
          go_wp2
          go_ret
          exact ⟨_, by first | rfl | (simp [errW_none, errW_some] <;> rfl) | (simp [*, errW_none, errW_some] <;> rfl), by (with_reducible repeat (first | apply Kd.S_alloc | apply Kd.S_drewN | apply Kd.S_drew)); exact HO_5.out, by repeat (first | (with_reducible first | exact HB.out | apply below_alloc | apply pw_below_drewN | apply below_drew1) | exact HB.out)⟩

/-! ### laws_FnFindNoSort: function 3 -/
def laws_FnFindNoSort.j0 : Nat → ByteArray → List ByteArray → Bool → Option (Bool)
  | 0, _, _, _ => none
  | k + 1, x0, x1, x12 => if x12 = true then (some true) else ((spec_Short.f k x0 x1).bind fun t198 => (if t198 = true then ((impl_FindNoSort.f k x0 x1).bind fun t199 => ((spec_Found.f k x0 x1).bind fun t202 => ((spec_SameFound.f k t199 t202).bind fun t205 => (some t205)))) else (some true)))
def laws_FnFindNoSort.f (k : Nat) (a0 : ByteArray) (l1 : List ByteArray) : Option (Bool) := if (a0.size : Int) > 2147483647 then (laws_FnFindNoSort.j0 k a0 l1 true) else ((laws_zzFits1.f k l1).bind fun t197 => (laws_FnFindNoSort.j0 k a0 l1 (!t197)))
theorem laws_FnFindNoSort.mono_l : ∀ k, (∀ y0 y1 y2, LeO (laws_FnFindNoSort.j0 k y0 y1 y2) (laws_FnFindNoSort.j0 (k + 1) y0 y1 y2))
  | 0 => fun _ _ _ r h => by simp [laws_FnFindNoSort.j0] at h
  | k + 1 => by
    have ih0 := laws_FnFindNoSort.mono_l k
    · intro y0 y1 y2
      unfold laws_FnFindNoSort.j0
      repeat' first
      | (with_reducible exact ih0 _ _ _)
      | (with_reducible exact impl_FindNoSort.mono _ _ _)
      | (with_reducible exact laws_zzFits1.mono _ _)
      | (with_reducible exact spec_Found.mono _ _ _)
      | (with_reducible exact spec_SameFound.mono _ _ _)
      | (with_reducible exact spec_Short.mono _ _ _)
      | (with_reducible exact LeO.refl _)
      | (with_reducible exact LeO.none _)
      | (with_reducible refine LeO.ite ?_ ?_)
      | (with_reducible refine LeO.bind ?_ (fun _ => ?_))
      | exact ih0 _ _ _
      | exact impl_FindNoSort.mono _ _ _
      | exact laws_zzFits1.mono _ _
      | exact spec_Found.mono _ _ _
      | exact spec_SameFound.mono _ _ _
      | exact spec_Short.mono _ _ _
      | exact LeO.none _
      | refine LeO.ite ?_ ?_
      | refine LeO.bind ?_ (fun _ => ?_)
theorem laws_FnFindNoSort.mono : ∀ a0 a1 k, LeO (laws_FnFindNoSort.f k a0 a1) (laws_FnFindNoSort.f (k + 1) a0 a1) := by
  intro a0 a1 k
  have ih0 := laws_FnFindNoSort.mono_l k
  unfold laws_FnFindNoSort.f
  repeat' first
      | (with_reducible exact ih0 _ _ _)
      | (with_reducible exact impl_FindNoSort.mono _ _ _)
      | (with_reducible exact laws_zzFits1.mono _ _)
      | (with_reducible exact spec_Found.mono _ _ _)
      | (with_reducible exact spec_SameFound.mono _ _ _)
      | (with_reducible exact spec_Short.mono _ _ _)
      | (with_reducible exact LeO.refl _)
      | (with_reducible exact LeO.none _)
      | (with_reducible refine LeO.ite ?_ ?_)
      | (with_reducible refine LeO.bind ?_ (fun _ => ?_))
      | exact ih0 _ _ _
      | exact impl_FindNoSort.mono _ _ _
      | exact laws_zzFits1.mono _ _
      | exact spec_Found.mono _ _ _
      | exact spec_SameFound.mono _ _ _
      | exact spec_Short.mono _ _ _
      | exact LeO.none _
      | refine LeO.ite ?_ ?_
      | refine LeO.bind ?_ (fun _ => ?_)
set_option maxHeartbeats 8000000 in
set_option maxRecDepth 100000 in
theorem laws_FnFindNoSort.calls (k : Nat) (a0 : ByteArray) (A1 : Option Addr) (c1 : Nat) (l1 : List ByteArray) (r : Bool) (w : World) (hr1 : Kd.C Kd.string w A1 l1.length l1) (hc1 : l1.length ≤ c1) (hA_ : Amb w) (h : laws_FnFindNoSort.f k a0 l1 = some r) :
    Calls Tryd.prog 3 #[.string a0, .slice A1 l1.length c1] w fun e w' => e = .returned (.bool r) ∧ Below w.heap.size w w' := by
  have HR1 := Aside0.mk hr1
  have HC1 := Aside0.mk hc1
  clear hr1 hc1
  have HAMB := Aside0.mk hA_
  clear hA_
  have HB := Aside0.mk (Below.refl w.heap.size w)
  have H : (if (a0.size : Int) > 2147483647 then (laws_FnFindNoSort.j0 k a0 l1 true) else ((laws_zzFits1.f k l1).bind fun t197 => (laws_FnFindNoSort.j0 k a0 l1 (!t197)))) = some r := h
  clear h
  have HC3 := Aside0.mk H
  clear H
  go_enter Tryd.func3, Tryd.ntmps3
  go_upto_region 1 with (fail)
  go_cut [12] (fun v12 wc => ∃ (kq : Nat) (x12_2 : Bool), v12 = .bool x12_2 ∧ Aside0 (laws_FnFindNoSort.j0 kq a0 l1 x12_2 = some r) ∧ Aside0 (kq ≤ k) ∧ Aside0 (Below w.heap.size w wc))
  case first =>
    have H := HC3.out
    clear HC3
    by_cases c4 : (a0.size : Int) > 2147483647
    · rw [if_pos c4] at H
      have c4b0 : decide (2147483647 < (a0.size : Int)) = true := decide_eq_true c4
      have c4b1 : decide (2147483647 < a0.size) = true := decide_eq_true (by omega)
      clear c4
      (first | rw [c4b0] | (simp only [i64_w, i32_w]; rw [c4b0]) | skip)
      have H' := Aside0.mk H
      clear H
      go_wp2
      go_meet
      case rel => exact ⟨_, (true), (by first | rfl | (simp; done) | (simp [*]; done)), H', ⟨by first | omega | exact Nat.le_refl _⟩, ⟨by repeat (first | (with_reducible first | exact HB.out | apply below_alloc | apply pw_below_drewN | apply below_drew1) | exact HB.out)⟩⟩
    · rw [if_neg c4] at H
      have c4b0 : decide (2147483647 < (a0.size : Int)) = false := decide_eq_false c4
      have c4b1 : decide (2147483647 < a0.size) = false := decide_eq_false (by omega)
      clear c4
      (first | rw [c4b0] | (simp only [i64_w, i32_w]; rw [c4b0]) | skip)
      replace H := Option.bind_eq_some_iff.mp H
      obtain ⟨t197, A50, H⟩ := H
      replace H : (laws_FnFindNoSort.j0 k a0 l1 (!t197)) = some r := H
      have A5 := Aside0.mk A50
      clear A50
      have H' := Aside0.mk H
      clear H
      go_wp2_with (first | (go_at_call 8; (with_reducible refine (laws_zzFits1.calls k _ _ l1 t197 _ ?side1 ?side2 A5.out).mono ?_); (case side1 => repeat (first | exact (Kd.C_below HR1.out HB.out) | (with_reducible refine Kd.C_alloc ?_ _) | (with_reducible refine Kd.C_drewN ?_ _) | (with_reducible refine Kd.C_drew ?_))); (case side2 => exact HC1.out); rintro e w' ⟨rfl, ⟨nd, rfl⟩⟩))
      go_meet
      case rel => exact ⟨_, (!t197), (by first | rfl | (simp; done) | (simp [*]; done)), H', ⟨by first | omega | exact Nat.le_refl _⟩, ⟨by repeat (first | (with_reducible first | exact HB.out | apply below_alloc | apply pw_below_drewN | apply below_drew1) | exact HB.out)⟩⟩
  case rest =>
    clear HC3
    try clear c1
    try clear p2
    try clear c3
    try clear c4
    try clear c4b0
    try clear c4b1
    obtain ⟨kq, x12_2, rfl, HA, HJ2, HB⟩ := hcut
    cases kq with
    | zero => exact absurd HA.out (by simp [laws_FnFindNoSort.j0])
    | succ kj2 =>
      have H := HA.out
      clear HA
      simp only [laws_FnFindNoSort.j0] at H
      by_cases c6 : x12_2 = true
      · subst c6
        have H1 : (some true) = some r := by rw [if_pos rfl] at H; exact H
        clear H
        have H := H1
        clear H1
        obtain rfl := Option.some.inj H
        go_wp2
        go_ret
        exact ⟨by first | rfl | (simp [errW_none, errW_some] <;> rfl) | (simp [*, errW_none, errW_some] <;> rfl), by repeat (first | (with_reducible first | exact HB.out | apply below_alloc | apply pw_below_drewN | apply below_drew1) | exact HB.out)⟩
      · replace c6 := Bool.eq_false_iff.mpr c6
        subst c6
        have H1 : ((spec_Short.f kj2 a0 l1).bind fun t198 => (if t198 = true then ((impl_FindNoSort.f kj2 a0 l1).bind fun t199 => ((spec_Found.f kj2 a0 l1).bind fun t202 => ((spec_SameFound.f kj2 t199 t202).bind fun t205 => (some t205)))) else (some true))) = some r := by rw [if_neg (show ¬ (false = true) by decide)] at H; exact H
        clear H
        have H := H1
        clear H1
        replace H := Option.bind_eq_some_iff.mp H
        obtain ⟨t198, A70, H⟩ := H
        replace H : (if t198 = true then ((impl_FindNoSort.f kj2 a0 l1).bind fun t199 => ((spec_Found.f kj2 a0 l1).bind fun t202 => ((spec_SameFound.f kj2 t199 t202).bind fun t205 => (some t205)))) else (some true)) = some r := H
        have A7 := Aside0.mk A70
        clear A70
        by_cases c8 : t198 = true
        · subst c8
          have H1 : ((impl_FindNoSort.f kj2 a0 l1).bind fun t199 => ((spec_Found.f kj2 a0 l1).bind fun t202 => ((spec_SameFound.f kj2 t199 t202).bind fun t205 => (some t205)))) = some r := by rw [if_pos rfl] at H; exact H
          clear H
          have H := H1
          clear H1
          replace H := Option.bind_eq_some_iff.mp H
          obtain ⟨t199, A90, H⟩ := H
          replace H : ((spec_Found.f kj2 a0 l1).bind fun t202 => ((spec_SameFound.f kj2 t199 t202).bind fun t205 => (some t205))) = some r := H
          have A9 := Aside0.mk A90
          clear A90
          replace H := Option.bind_eq_some_iff.mp H
          obtain ⟨t202, A100, H⟩ := H
          replace H : ((spec_SameFound.f kj2 t199 t202).bind fun t205 => (some t205)) = some r := H
          have A10 := Aside0.mk A100
          clear A100
          replace H := Option.bind_eq_some_iff.mp H
          obtain ⟨t205, A110, H⟩ := H
          replace H : (some t205) = some r := H
          have A11 := Aside0.mk A110
          clear A110
          obtain rfl := Option.some.inj H
          go_wp2_with (first | ((with_reducible refine gate_callee (f := 9) rfl ?_); refine goesL_ (some 15) rfl rfl Tryd.func9 (by kernel_rfl) rfl #[.string a0, .slice A1 l1.length c1] rfl (by (try simp only [List.map_toArray, List.map_cons, List.map_nil]); first | done | rfl | (simp only [List.length_drop, List.length_take]; rfl)) ?_; (with_reducible refine (spec_Short.calls kj2 a0 _ _ l1 true _ ?side1 ?side2 A7.out).mono ?_); (case side1 => repeat (first | exact (Kd.C_below HR1.out HB.out) | (with_reducible refine Kd.C_alloc ?_ _) | (with_reducible refine Kd.C_drewN ?_ _) | (with_reducible refine Kd.C_drew ?_))); (case side2 => exact HC1.out); rintro e w12 ⟨rfl, hb⟩; refine ⟨_, rfl, ?_⟩; have n0_ := Aside0.mk (below_step (by repeat (first | (with_reducible first | exact HB.out | apply below_alloc | apply pw_below_drewN | apply below_drew1) | exact HB.out)) hb); clear HB; have HB := n0_; clear n0_; (try clear hb); (try clear hb2); (try clear hk); (try clear hi)) | ((with_reducible refine gate_callee (f := 11) rfl ?_); refine goesL_ (some 19) rfl rfl Tryd.func11 (by kernel_rfl) rfl #[.string a0, .slice A1 l1.length c1] rfl (by (try simp only [List.map_toArray, List.map_cons, List.map_nil]); first | done | rfl | (simp only [List.length_drop, List.length_take]; rfl)) ?_; (with_reducible refine (impl_FindNoSort.calls kj2 a0 _ _ l1 t199 _ ?side1 ?side2 (by first | (with_reducible exact HAMB.out) | exact Amb.below HAMB.out (by repeat (first | (with_reducible first | exact HB.out | apply below_alloc | apply pw_below_drewN | apply below_drew1) | exact HB.out)) | exact Amb.below HAMB.out (by repeat (first | (with_reducible first | exact Below.refl _ _ | apply pw_below_drewN | apply below_drew1 | apply below_alloc)))) A9.out).mono ?_); (case side1 => repeat (first | exact (Kd.C_below HR1.out HB.out) | (with_reducible refine Kd.C_alloc ?_ _) | (with_reducible refine Kd.C_drewN ?_ _) | (with_reducible refine Kd.C_drew ?_))); (case side2 => exact HC1.out); rintro e w13 ⟨v200, rfl, ho0, hb⟩; refine ⟨_, rfl, ?_⟩; have n0_ := Aside0.mk (Kd.S_lower ho0 (below_size (by repeat (first | (with_reducible first | exact HB.out | apply below_alloc | apply pw_below_drewN | apply below_drew1) | exact HB.out)))); have n1_ := Aside0.mk (below_step (by repeat (first | (with_reducible first | exact HB.out | apply below_alloc | apply pw_below_drewN | apply below_drew1) | exact HB.out)) hb); clear HB; have HO201 := n0_; have HB := n1_; clear n0_ n1_; (try clear hb); (try clear hb2); (try clear hk); (try clear hi); (try clear ho0)) | ((with_reducible refine gate_callee (f := 12) rfl ?_); refine goesL_ (some 22) rfl rfl Tryd.func12 (by kernel_rfl) rfl #[.string a0, .slice A1 l1.length c1] rfl (by (try simp only [List.map_toArray, List.map_cons, List.map_nil]); first | done | rfl | (simp only [List.length_drop, List.length_take]; rfl)) ?_; (with_reducible refine (spec_Found.calls kj2 a0 _ _ l1 t202 _ ?side1 ?side2 (by first | (with_reducible exact HAMB.out) | exact Amb.below HAMB.out (by repeat (first | (with_reducible first | exact HB.out | apply below_alloc | apply pw_below_drewN | apply below_drew1) | exact HB.out)) | exact Amb.below HAMB.out (by repeat (first | (with_reducible first | exact Below.refl _ _ | apply pw_below_drewN | apply below_drew1 | apply below_alloc)))) A10.out).mono ?_); (case side1 => repeat (first | exact (Kd.C_below HR1.out HB.out) | (with_reducible refine Kd.C_alloc ?_ _) | (with_reducible refine Kd.C_drewN ?_ _) | (with_reducible refine Kd.C_drew ?_))); (case side2 => exact HC1.out); rintro e w14 ⟨v203, rfl, ho0, hb⟩; refine ⟨_, rfl, ?_⟩; have n0_ := Aside0.mk (Kd.S_elder' (by (with_reducible repeat (first | apply Kd.S_alloc | apply Kd.S_drewN | apply Kd.S_drew)); exact HO201.out) (Kd.S_base ho0) hb); have n1_ := Aside0.mk (Kd.S_lower (Kd.S_new' ho0 (Kd.S_lt (by (with_reducible repeat (first | apply Kd.S_alloc | apply Kd.S_drewN | apply Kd.S_drew)); exact HO201.out))) (below_size (by repeat (first | (with_reducible first | exact HB.out | apply below_alloc | apply pw_below_drewN | apply below_drew1) | exact HB.out)))); have n2_ := Aside0.mk (below_step (by repeat (first | (with_reducible first | exact HB.out | apply below_alloc | apply pw_below_drewN | apply below_drew1) | exact HB.out)) hb); clear HO201; clear HB; have HO201 := n0_; have HO204 := n1_; have HB := n2_; clear n0_ n1_ n2_; (try clear hb); (try clear hb2); (try clear hk); (try clear hi); (try clear ho0); obtain ⟨Ao15, co15, eo15⟩ := Kd.S_slice HO201.out; subst eo15; obtain ⟨Ao16, co16, eo16⟩ := Kd.S_slice HO204.out; subst eo16) | ((with_reducible refine gate_callee (f := 10) rfl ?_); refine goesL_ (some 23) rfl rfl Tryd.func10 (by kernel_rfl) rfl #[.slice Ao15 t199.length co15, .slice Ao16 t202.length co16] rfl (by (try simp only [List.map_toArray, List.map_cons, List.map_nil]); first | done | rfl | (simp only [List.length_drop, List.length_take]; rfl)) ?_; (with_reducible refine (spec_SameFound.calls kj2 _ _ t199 _ _ t202 t205 _ ?side1 ?side2 ?side3 ?side4 A11.out).mono ?_); (case side1 => repeat (first | exact (Kd.S_reads' HO201.out).2.2 | (with_reducible refine Kd.C_alloc ?_ _) | (with_reducible refine Kd.C_drewN ?_ _) | (with_reducible refine Kd.C_drew ?_))); (case side2 => exact (Kd.S_reads' HO201.out).2.1); (case side3 => repeat (first | exact (Kd.S_reads' HO204.out).2.2 | (with_reducible refine Kd.C_alloc ?_ _) | (with_reducible refine Kd.C_drewN ?_ _) | (with_reducible refine Kd.C_drew ?_))); (case side4 => exact (Kd.S_reads' HO204.out).2.1); rintro e w' ⟨rfl, ⟨nd, rfl⟩⟩; refine ⟨_, rfl, ?_⟩))
          go_ret
          exact ⟨by first | rfl | (simp [errW_none, errW_some] <;> rfl) | (simp [*, errW_none, errW_some] <;> rfl), by repeat (first | (with_reducible first | exact HB.out | apply below_alloc | apply pw_below_drewN | apply below_drew1) | exact HB.out)⟩
        · replace c8 := Bool.eq_false_iff.mpr c8
          subst c8
          have H1 : (some true) = some r := by rw [if_neg (show ¬ (false = true) by decide)] at H; exact H
          clear H
          have H := H1
          clear H1
          obtain rfl := Option.some.inj H
          go_wp2_with (first | ((with_reducible refine gate_callee (f := 9) rfl ?_); refine goesL_ (some 15) rfl rfl Tryd.func9 (by kernel_rfl) rfl #[.string a0, .slice A1 l1.length c1] rfl (by (try simp only [List.map_toArray, List.map_cons, List.map_nil]); first | done | rfl | (simp only [List.length_drop, List.length_take]; rfl)) ?_; (with_reducible refine (spec_Short.calls kj2 a0 _ _ l1 false _ ?side1 ?side2 A7.out).mono ?_); (case side1 => repeat (first | exact (Kd.C_below HR1.out HB.out) | (with_reducible refine Kd.C_alloc ?_ _) | (with_reducible refine Kd.C_drewN ?_ _) | (with_reducible refine Kd.C_drew ?_))); (case side2 => exact HC1.out); rintro e w17 ⟨rfl, hb⟩; refine ⟨_, rfl, ?_⟩; have n0_ := Aside0.mk (below_step (by repeat (first | (with_reducible first | exact HB.out | apply below_alloc | apply pw_below_drewN | apply below_drew1) | exact HB.out)) hb); clear HB; have HB := n0_; clear n0_; (try clear hb); (try clear hb2); (try clear hk); (try clear hi)))
          go_ret
          exact ⟨by first | rfl | (simp [errW_none, errW_some] <;> rfl) | (simp [*, errW_none, errW_some] <;> rfl), by repeat (first | (with_reducible first | exact HB.out | apply below_alloc | apply pw_below_drewN | apply below_drew1) | exact HB.out)⟩

/-! ### spec_Within: function 13 -/
def spec_Within.l0 : Nat → List (S45) → Int → List (S45) → Int → Int → Option (Bool)
  | 0, _, _, _, _, _ => none
  | k + 1, x5, x6, x12, x13, x14 => if x14 < x13 then (if 0 ≤ x14 then (if x14 < (x12.length : Int) then ((spec_first.f k x5 x6 ((rd_T45 x12 x14).f0)).bind fun t214 => (if t214 = (x5.length : Int) then (some false) else (spec_Within.l0 k x5 (wrap64 (t214 + 1)) x12 x13 (wrap64 (x14 + 1))))) else (none)) else (none)) else (some true)
def spec_Within.f (k : Nat) (a0 : ByteArray) (a1 : ByteArray) : Option (Bool) := (spec_Letters.f a1).bind fun t206 => ((spec_Letters.f a0).bind fun t209 => (spec_Within.l0 k t206 0 t209 (t209.length : Int) 0))
theorem spec_Within.mono_l : ∀ k, (∀ y0 y1 y2 y3 y4, LeO (spec_Within.l0 k y0 y1 y2 y3 y4) (spec_Within.l0 (k + 1) y0 y1 y2 y3 y4))
  | 0 => fun _ _ _ _ _ r h => by simp [spec_Within.l0] at h
  | k + 1 => by
    have ih0 := spec_Within.mono_l k
    · intro y0 y1 y2 y3 y4
      unfold spec_Within.l0
      repeat' first
      | (with_reducible exact ih0 _ _ _ _ _)
      | (with_reducible exact spec_first.mono _ _ _ _)
      | (with_reducible exact LeO.refl _)
      | (with_reducible exact LeO.none _)
      | (with_reducible refine LeO.ite ?_ ?_)
      | (with_reducible refine LeO.bind ?_ (fun _ => ?_))
      | exact ih0 _ _ _ _ _
      | exact spec_first.mono _ _ _ _
      | exact LeO.none _
      | refine LeO.ite ?_ ?_
      | refine LeO.bind ?_ (fun _ => ?_)
theorem spec_Within.mono : ∀ a0 a1 k, LeO (spec_Within.f k a0 a1) (spec_Within.f (k + 1) a0 a1) := by
  intro a0 a1 k
  have ih0 := spec_Within.mono_l k
  unfold spec_Within.f
  repeat' first
      | (with_reducible exact ih0 _ _ _ _ _)
      | (with_reducible exact spec_first.mono _ _ _ _)
      | (with_reducible exact LeO.refl _)
      | (with_reducible exact LeO.none _)
      | (with_reducible refine LeO.ite ?_ ?_)
      | (with_reducible refine LeO.bind ?_ (fun _ => ?_))
      | exact ih0 _ _ _ _ _
      | exact spec_first.mono _ _ _ _
      | exact LeO.none _
      | refine LeO.ite ?_ ?_
      | refine LeO.bind ?_ (fun _ => ?_)
set_option maxHeartbeats 8000000 in
set_option maxRecDepth 100000 in
theorem spec_Within.calls (k : Nat) (a0 : ByteArray) (a1 : ByteArray) (r : Bool) (w : World) (hA_ : Amb w) (h : spec_Within.f k a0 a1 = some r) :
    Calls Tryd.prog 13 #[.string a0, .string a1] w fun e w' => e = .returned (.bool r) ∧ Below w.heap.size w w' := by
  have hu45 := Tryd.underlying45
  have HAMB := Aside0.mk hA_
  clear hA_
  have HB := Aside0.mk (Below.refl w.heap.size w)
  have H : ((spec_Letters.f a1).bind fun t206 => ((spec_Letters.f a0).bind fun t209 => (spec_Within.l0 k t206 0 t209 (t209.length : Int) 0))) = some r := h
  clear h
  replace H := Option.bind_eq_some_iff.mp H
  obtain ⟨t206, A30, H⟩ := H
  replace H : ((spec_Letters.f a0).bind fun t209 => (spec_Within.l0 k t206 0 t209 (t209.length : Int) 0)) = some r := H
  have A3 := Aside0.mk A30
  clear A30
  replace H := Option.bind_eq_some_iff.mp H
  obtain ⟨t209, A40, H⟩ := H
  replace H : (spec_Within.l0 k t206 0 t209 (t209.length : Int) 0) = some r := H
  have A4 := Aside0.mk A40
  clear A40
  have H' := Aside0.mk H
  clear H
  go_enter Tryd.func13, Tryd.ntmps13
  go_wp2_with (first | ((with_reducible refine gate_callee (f := 19) rfl ?_); refine goesL_ (some 10) rfl rfl Tryd.func19 (by kernel_rfl) rfl #[.string a1] rfl (by (try simp only [List.map_toArray, List.map_cons, List.map_nil]); first | done | rfl | (simp only [List.length_drop, List.length_take]; rfl)) ?_; (with_reducible refine (spec_Letters.calls a1 t206 _ A3.out).mono ?_); rintro e w5 ⟨v207, rfl, ho0, hb⟩; refine ⟨_, rfl, ?_⟩; have n0_ := Aside0.mk (Kd.R_lower ho0 (below_size (by repeat (first | (with_reducible first | exact HB.out | apply below_alloc | apply pw_below_drewN | apply below_drew1) | exact HB.out)))); have n1_ := Aside0.mk (below_step (by repeat (first | (with_reducible first | exact HB.out | apply below_alloc | apply pw_below_drewN | apply below_drew1) | exact HB.out)) hb); clear HB; have HO208 := n0_; have HB := n1_; clear n0_ n1_; (try clear hb); (try clear hb2); (try clear hk); (try clear hi); (try clear ho0)) | ((with_reducible refine gate_callee (f := 19) rfl ?_); refine goesL_ (some 12) rfl rfl Tryd.func19 (by kernel_rfl) rfl #[.string a0] rfl (by (try simp only [List.map_toArray, List.map_cons, List.map_nil]); first | done | rfl | (simp only [List.length_drop, List.length_take]; rfl)) ?_; (with_reducible refine (spec_Letters.calls a0 t209 _ A4.out).mono ?_); rintro e w6 ⟨v210, rfl, ho0, hb⟩; refine ⟨_, rfl, ?_⟩; have n0_ := Aside0.mk (Kd.R_elder' (by (with_reducible repeat (first | apply Kd.R_alloc | apply Kd.R_drewN | apply Kd.R_drew)); exact HO208.out) (Kd.R_base ho0) hb); have n1_ := Aside0.mk (Kd.R_lower (Kd.R_new' ho0 (Kd.R_lt (by (with_reducible repeat (first | apply Kd.R_alloc | apply Kd.R_drewN | apply Kd.R_drew)); exact HO208.out))) (below_size (by repeat (first | (with_reducible first | exact HB.out | apply below_alloc | apply pw_below_drewN | apply below_drew1) | exact HB.out)))); have n2_ := Aside0.mk (below_step (by repeat (first | (with_reducible first | exact HB.out | apply below_alloc | apply pw_below_drewN | apply below_drew1) | exact HB.out)) hb); clear HO208; clear HB; have HO208 := n0_; have HO211 := n1_; have HB := n2_; clear n0_ n1_ n2_; (try clear hb); (try clear hb2); (try clear hk); (try clear hi); (try clear ho0); obtain ⟨Ao7, co7, eo7⟩ := Kd.R_slice HO211.out; subst eo7))
  go_loopg [6, 14] k (fun kq v6 v14 w' => ∃ (x6_1 : Int) (x14_1 : Int), v6 = .int .i64 x6_1 ∧ v14 = .int .i64 x14_1 ∧ Aside0 (spec_Within.l0 kq t206 x6_1 t209 (t209.length : Int) x14_1 = some r) ∧ Aside0 (kq ≤ k) ∧ Aside0 (Kd.R k45 45 w' w.heap.size (fun k_ => some k_ ≠ ((.slice Ao7 t209.length co7) : Value).ownBlock) v207 t206) ∧ Aside0 (Kd.R k45 45 w' w.heap.size (fun k_ => some k_ ≠ (v207 : Value).ownBlock) (.slice Ao7 t209.length co7) t209) ∧ Aside0 (Below w.heap.size w w'))
  case atStart => exact ⟨(0), (0), (by first | rfl | (simp; done) | (simp [*]; done)), (by first | rfl | (simp; done) | (simp [*]; done)), H', ⟨Nat.le_refl _⟩, ⟨by (with_reducible repeat (first | apply Kd.R_alloc | apply Kd.R_drewN | apply Kd.R_drew)); exact Kd.R_mono HO208.out (fun _ hk => hk.2)⟩, ⟨by (with_reducible repeat (first | apply Kd.R_alloc | apply Kd.R_drewN | apply Kd.R_drew)); exact Kd.R_mono HO211.out (fun _ hk => hk.2)⟩, ⟨by repeat (first | (with_reducible first | exact HB.out | apply below_alloc | apply pw_below_drewN | apply below_drew1) | exact HB.out)⟩⟩
  case round =>
    clear H'
    try clear c1
    try clear p2
    obtain ⟨x6_1, x14_1, rfl, rfl, HA, HK1, HO_5, HO_12, HB⟩ := hrel
    cases gk with
    | zero => exact absurd HA.out (by simp [spec_Within.l0])
    | succ k1 =>
      have H := HA.out
      clear HA
      simp only [spec_Within.l0] at H
      by_cases c8 : x14_1 < (t209.length : Int)
      · rw [if_pos c8] at H
        have c8b0 : decide (x14_1 < (t209.length : Int)) = true := decide_eq_true c8
        clear c8
        by_cases c9 : 0 ≤ x14_1
        · rw [if_pos c9] at H
          have c9b0 : decide (0 ≤ x14_1) = true := decide_eq_true c9
          clear c9
          by_cases c10 : x14_1 < (t209.length : Int)
          · rw [if_pos c10] at H
            have c10b0 : decide (x14_1 < (t209.length : Int)) = true := decide_eq_true c10
            clear c10
            replace H := Option.bind_eq_some_iff.mp H
            obtain ⟨t214, A110, H⟩ := H
            replace H : (if t214 = (t206.length : Int) then (some false) else (spec_Within.l0 k1 t206 (wrap64 (t214 + 1)) t209 (t209.length : Int) (wrap64 (x14_1 + 1)))) = some r := H
            have A11 := Aside0.mk A110
            clear A110
            by_cases c12 : t214 = (t206.length : Int)
            · rw [if_pos c12] at H
              have c12b0 : (t214 == (t206.length : Int)) = true := beq_iff_eq.mpr c12
              have c12b1 : (t214 != (t206.length : Int)) = false := bne_eq_false_iff_eq.mpr c12
              clear c12
              obtain rfl := Option.some.inj H
              have p212 : 0 ≤ (x14_1 : Int) := of_decide_eq_true (by first | (with_reducible assumption) | assumption)
              have q212 : x14_1 < (t209.length : Int) := of_decide_eq_true (by first | (with_reducible assumption) | assumption)
              obtain ⟨ad212, e212, hx212_0, hx212_1⟩ := at_T45 (Kd.R_reads' HO_12.out).2.2 x14_1 p212 q212
              cases e212
              replace p212 := eq_true p212
              replace q212 := eq_true q212
              go_wp2_with (first | ((with_reducible refine gate_dst (N := 8) rfl ?_); refine box_event ?hg (N := 8) ?hd (cs := #[.int .i32 0, .int .i64 0]) (t := 45) ?hr ?_; (case hd => rfl); (case hg => rfl); (case hr => first | (go_simp; done) | (go_simp; rfl)); intro gb213 hg w13 hbox hb; have n0_ := Aside0.mk (Kd.R_below (Kd.R_elderB (by (with_reducible repeat (first | apply Kd.R_alloc | apply Kd.R_drewN | apply Kd.R_drew)); exact HO_5.out) gb213 (Nat.le_of_eq hg.symm)) hb); have n1_ := Aside0.mk (Kd.R_below (Kd.R_elderB (by (with_reducible repeat (first | apply Kd.R_alloc | apply Kd.R_drewN | apply Kd.R_drew)); exact HO_12.out) gb213 (Nat.le_of_eq hg.symm)) hb); have n2_ := Aside0.mk (below_step (by repeat (first | (with_reducible first | exact HB.out | apply below_alloc | apply pw_below_drewN | apply below_drew1) | exact HB.out)) hb); have n3_ := Aside0.mk (hbox); have n4_ := Aside0.mk ((by rw [hg]; exact (below_size (by repeat (first | (with_reducible first | exact HB.out | apply below_alloc | apply pw_below_drewN | apply below_drew1) | exact HB.out))) : w.heap.size ≤ gb213)); have n5_ := Aside0.mk ((by rw [hg]; exact (below_size (by repeat (first | (with_reducible first | exact HB.out | apply below_alloc | apply pw_below_drewN | apply below_drew1) | exact HB.out))) : w.heap.size ≤ gb213)); clear HO_5; clear HO_12; clear HB; have HO_5 := n0_; have HO_12 := n1_; have HB := n2_; have BK213 := n3_; have GW213 := n4_; have GE213 := n5_; clear n0_ n1_ n2_ n3_ n4_ n5_; clear hb hbox hg; have hcz14_0 : w13.cell? ⟨gb213, 0, none⟩ = some (.int .i32 0) := (blk_cell BK213.out 0).trans rfl; have hcz14_1 : w13.cell? ⟨gb213, 1, none⟩ = some (.int .i64 0) := (blk_cell BK213.out 1).trans rfl; have hfz14_0 := blk_frozen BK213.out 0; have hfz14_1 := blk_frozen BK213.out 1; obtain ⟨Ao15, co15, eo15⟩ := Kd.R_slice HO_5.out; subst eo15) | ((with_reducible refine gate_callee (f := 24) rfl ?_); refine goesL_ (some 22) rfl rfl Tryd.func24 (by kernel_rfl) rfl #[.slice Ao15 t206.length co15, .int .i64 x6_1, .int .i32 ((rd_T45 t209 x14_1).f0)] rfl (by (try simp only [List.map_toArray, List.map_cons, List.map_nil]); first | done | rfl | (simp only [List.length_drop, List.length_take]; rfl)) ?_; (with_reducible refine (spec_first.calls k1 _ _ t206 x6_1 ((rd_T45 t209 x14_1).f0) t214 _ ?side1 ?side2 (by first | (with_reducible exact HAMB.out) | exact Amb.below HAMB.out (by repeat (first | (with_reducible first | exact HB.out | apply below_alloc | apply pw_below_drewN | apply below_drew1 | refine below_set ?_ GE213.out) | exact HB.out)) | exact Amb.below HAMB.out (by repeat (first | (with_reducible first | exact Below.refl _ _ | apply pw_below_drewN | apply below_drew1 | apply below_alloc)))) A11.out).mono ?_); (case side1 => refine (Kd.R_reads' (e := 45) (base := w.heap.size) (ok := fun k_ => (some k_ ≠ (.slice (some ad212) t209.length co7 : Value).ownBlock ∧ k_ ≠ gb213)) (n := t206.length) (c := co15) ?_).2.2; exact (by (with_reducible repeat (first | apply Kd.R_alloc | apply Kd.R_drewN | apply Kd.R_drew)); exact (Kd.R_mono (Kd.R_far (p := ⟨gb213, 1, none⟩) (Kd.R_far (p := ⟨gb213, 0, none⟩) (Kd.R_mono HO_5.out (fun k_ hk => (⟨hk, hk.2⟩ : _ ∧ k_ ≠ gb213))) (fun _ hk => hk.2) (.int .i32 ((rd_T45 t209 x14_1).f0))) (fun _ hk => hk.2) (.int .i64 ((rd_T45 t209 x14_1).f1))) (fun _ h_ => h_.1)))); (case side2 => exact (Kd.R_reads' HO_5.out).2.1); rintro e w16 ⟨rfl, hb⟩; refine ⟨_, rfl, ?_⟩; have n0_ := Aside0.mk (Kd.R_below (by (with_reducible repeat (first | apply Kd.R_alloc | apply Kd.R_drewN | apply Kd.R_drew)); exact (Kd.R_mono (Kd.R_far (p := ⟨gb213, 1, none⟩) (Kd.R_far (p := ⟨gb213, 0, none⟩) (Kd.R_mono HO_5.out (fun k_ hk => (⟨hk, hk.2⟩ : _ ∧ k_ ≠ gb213))) (fun _ hk => hk.2) (.int .i32 ((rd_T45 t209 x14_1).f0))) (fun _ hk => hk.2) (.int .i64 ((rd_T45 t209 x14_1).f1))) (fun _ h_ => h_.1))) hb); have n1_ := Aside0.mk (Kd.R_below (by (with_reducible repeat (first | apply Kd.R_alloc | apply Kd.R_drewN | apply Kd.R_drew)); exact (Kd.R_mono (Kd.R_far (p := ⟨gb213, 1, none⟩) (Kd.R_far (p := ⟨gb213, 0, none⟩) (Kd.R_mono HO_12.out (fun k_ hk => (⟨hk, hk.2⟩ : _ ∧ k_ ≠ gb213))) (fun _ hk => hk.2) (.int .i32 ((rd_T45 t209 x14_1).f0))) (fun _ hk => hk.2) (.int .i64 ((rd_T45 t209 x14_1).f1))) (fun _ h_ => h_.1))) hb); have n2_ := Aside0.mk (blk_below (g := gb213) (o := .cells #[.int .i32 ((rd_T45 t209 x14_1).f0), .int .i64 ((rd_T45 t209 x14_1).f1)] 45 (0, 0)) (by (with_reducible repeat (first | refine blk_drewN ?_ _ | refine blk_drew ?_ | refine blk_alloc ?_ _)); refine blk_put (cs := #[.int .i32 ((rd_T45 t209 x14_1).f0), .int .i64 0]) ?_ 1 _ rfl; (with_reducible repeat (first | refine blk_drewN ?_ _ | refine blk_drew ?_ | refine blk_alloc ?_ _)); refine blk_put (cs := #[.int .i32 0, .int .i64 0]) ?_ 0 _ rfl; (with_reducible repeat (first | refine blk_drewN ?_ _ | refine blk_drew ?_ | refine blk_alloc ?_ _)); exact BK213.out) hb); have n3_ := Aside0.mk (below_step (by repeat (first | (with_reducible first | exact HB.out | apply below_alloc | apply pw_below_drewN | apply below_drew1 | refine below_set ?_ GE213.out) | exact HB.out)) hb); clear HO_5; clear HO_12; clear BK213; clear HB; have HO_5 := n0_; have HO_12 := n1_; have BK213 := n2_; have HB := n3_; clear n0_ n1_ n2_ n3_; (try clear hb); (try clear hb2); (try clear hk); (try clear hi)))
              go_ret
              exact ⟨by first | rfl | (simp [errW_none, errW_some] <;> rfl) | (simp [*, errW_none, errW_some] <;> rfl), by repeat (first | (with_reducible first | exact HB.out | apply below_alloc | apply pw_below_drewN | apply below_drew1 | refine below_set ?_ GE213.out) | exact HB.out)⟩
            · rw [if_neg c12] at H
              have c12b0 : (t214 == (t206.length : Int)) = false := beq_eq_false_iff_ne.mpr c12
              have c12b1 : (t214 != (t206.length : Int)) = true := bne_iff_ne.mpr c12
              have H' := Aside0.mk H
              clear H
              have p212 : 0 ≤ (x14_1 : Int) := of_decide_eq_true (by first | (with_reducible assumption) | assumption)
              have q212 : x14_1 < (t209.length : Int) := of_decide_eq_true (by first | (with_reducible assumption) | assumption)
              obtain ⟨ad212, e212, hx212_0, hx212_1⟩ := at_T45 (Kd.R_reads' HO_12.out).2.2 x14_1 p212 q212
              cases e212
              replace p212 := eq_true p212
              replace q212 := eq_true q212
              go_wp2_with (first | ((with_reducible refine gate_dst (N := 8) rfl ?_); refine box_event ?hg (N := 8) ?hd (cs := #[.int .i32 0, .int .i64 0]) (t := 45) ?hr ?_; (case hd => rfl); (case hg => rfl); (case hr => first | (go_simp; done) | (go_simp; rfl)); intro gb213 hg w17 hbox hb; have n0_ := Aside0.mk (Kd.R_below (Kd.R_elderB (by (with_reducible repeat (first | apply Kd.R_alloc | apply Kd.R_drewN | apply Kd.R_drew)); exact HO_5.out) gb213 (Nat.le_of_eq hg.symm)) hb); have n1_ := Aside0.mk (Kd.R_below (Kd.R_elderB (by (with_reducible repeat (first | apply Kd.R_alloc | apply Kd.R_drewN | apply Kd.R_drew)); exact HO_12.out) gb213 (Nat.le_of_eq hg.symm)) hb); have n2_ := Aside0.mk (below_step (by repeat (first | (with_reducible first | exact HB.out | apply below_alloc | apply pw_below_drewN | apply below_drew1) | exact HB.out)) hb); have n3_ := Aside0.mk (hbox); have n4_ := Aside0.mk ((by rw [hg]; exact (below_size (by repeat (first | (with_reducible first | exact HB.out | apply below_alloc | apply pw_below_drewN | apply below_drew1) | exact HB.out))) : w.heap.size ≤ gb213)); have n5_ := Aside0.mk ((by rw [hg]; exact (below_size (by repeat (first | (with_reducible first | exact HB.out | apply below_alloc | apply pw_below_drewN | apply below_drew1) | exact HB.out))) : w.heap.size ≤ gb213)); clear HO_5; clear HO_12; clear HB; have HO_5 := n0_; have HO_12 := n1_; have HB := n2_; have BK213 := n3_; have GW213 := n4_; have GE213 := n5_; clear n0_ n1_ n2_ n3_ n4_ n5_; clear hb hbox hg; have hcz18_0 : w17.cell? ⟨gb213, 0, none⟩ = some (.int .i32 0) := (blk_cell BK213.out 0).trans rfl; have hcz18_1 : w17.cell? ⟨gb213, 1, none⟩ = some (.int .i64 0) := (blk_cell BK213.out 1).trans rfl; have hfz18_0 := blk_frozen BK213.out 0; have hfz18_1 := blk_frozen BK213.out 1; obtain ⟨Ao19, co19, eo19⟩ := Kd.R_slice HO_5.out; subst eo19) | ((with_reducible refine gate_callee (f := 24) rfl ?_); refine goesL_ (some 22) rfl rfl Tryd.func24 (by kernel_rfl) rfl #[.slice Ao19 t206.length co19, .int .i64 x6_1, .int .i32 ((rd_T45 t209 x14_1).f0)] rfl (by (try simp only [List.map_toArray, List.map_cons, List.map_nil]); first | done | rfl | (simp only [List.length_drop, List.length_take]; rfl)) ?_; (with_reducible refine (spec_first.calls k1 _ _ t206 x6_1 ((rd_T45 t209 x14_1).f0) t214 _ ?side1 ?side2 (by first | (with_reducible exact HAMB.out) | exact Amb.below HAMB.out (by repeat (first | (with_reducible first | exact HB.out | apply below_alloc | apply pw_below_drewN | apply below_drew1 | refine below_set ?_ GE213.out) | exact HB.out)) | exact Amb.below HAMB.out (by repeat (first | (with_reducible first | exact Below.refl _ _ | apply pw_below_drewN | apply below_drew1 | apply below_alloc)))) A11.out).mono ?_); (case side1 => refine (Kd.R_reads' (e := 45) (base := w.heap.size) (ok := fun k_ => (some k_ ≠ (.slice (some ad212) t209.length co7 : Value).ownBlock ∧ k_ ≠ gb213)) (n := t206.length) (c := co19) ?_).2.2; exact (by (with_reducible repeat (first | apply Kd.R_alloc | apply Kd.R_drewN | apply Kd.R_drew)); exact (Kd.R_mono (Kd.R_far (p := ⟨gb213, 1, none⟩) (Kd.R_far (p := ⟨gb213, 0, none⟩) (Kd.R_mono HO_5.out (fun k_ hk => (⟨hk, hk.2⟩ : _ ∧ k_ ≠ gb213))) (fun _ hk => hk.2) (.int .i32 ((rd_T45 t209 x14_1).f0))) (fun _ hk => hk.2) (.int .i64 ((rd_T45 t209 x14_1).f1))) (fun _ h_ => h_.1)))); (case side2 => exact (Kd.R_reads' HO_5.out).2.1); rintro e w20 ⟨rfl, hb⟩; refine ⟨_, rfl, ?_⟩; have n0_ := Aside0.mk (Kd.R_below (by (with_reducible repeat (first | apply Kd.R_alloc | apply Kd.R_drewN | apply Kd.R_drew)); exact (Kd.R_mono (Kd.R_far (p := ⟨gb213, 1, none⟩) (Kd.R_far (p := ⟨gb213, 0, none⟩) (Kd.R_mono HO_5.out (fun k_ hk => (⟨hk, hk.2⟩ : _ ∧ k_ ≠ gb213))) (fun _ hk => hk.2) (.int .i32 ((rd_T45 t209 x14_1).f0))) (fun _ hk => hk.2) (.int .i64 ((rd_T45 t209 x14_1).f1))) (fun _ h_ => h_.1))) hb); have n1_ := Aside0.mk (Kd.R_below (by (with_reducible repeat (first | apply Kd.R_alloc | apply Kd.R_drewN | apply Kd.R_drew)); exact (Kd.R_mono (Kd.R_far (p := ⟨gb213, 1, none⟩) (Kd.R_far (p := ⟨gb213, 0, none⟩) (Kd.R_mono HO_12.out (fun k_ hk => (⟨hk, hk.2⟩ : _ ∧ k_ ≠ gb213))) (fun _ hk => hk.2) (.int .i32 ((rd_T45 t209 x14_1).f0))) (fun _ hk => hk.2) (.int .i64 ((rd_T45 t209 x14_1).f1))) (fun _ h_ => h_.1))) hb); have n2_ := Aside0.mk (blk_below (g := gb213) (o := .cells #[.int .i32 ((rd_T45 t209 x14_1).f0), .int .i64 ((rd_T45 t209 x14_1).f1)] 45 (0, 0)) (by (with_reducible repeat (first | refine blk_drewN ?_ _ | refine blk_drew ?_ | refine blk_alloc ?_ _)); refine blk_put (cs := #[.int .i32 ((rd_T45 t209 x14_1).f0), .int .i64 0]) ?_ 1 _ rfl; (with_reducible repeat (first | refine blk_drewN ?_ _ | refine blk_drew ?_ | refine blk_alloc ?_ _)); refine blk_put (cs := #[.int .i32 0, .int .i64 0]) ?_ 0 _ rfl; (with_reducible repeat (first | refine blk_drewN ?_ _ | refine blk_drew ?_ | refine blk_alloc ?_ _)); exact BK213.out) hb); have n3_ := Aside0.mk (below_step (by repeat (first | (with_reducible first | exact HB.out | apply below_alloc | apply pw_below_drewN | apply below_drew1 | refine below_set ?_ GE213.out) | exact HB.out)) hb); clear HO_5; clear HO_12; clear BK213; clear HB; have HO_5 := n0_; have HO_12 := n1_; have BK213 := n2_; have HB := n3_; clear n0_ n1_ n2_ n3_; (try clear hb); (try clear hb2); (try clear hk); (try clear hi)))
              go_roundg k1
              case measure => have := HK1.out; omega
              case rel => exact ⟨(wrap64 (t214 + 1)), (wrap64 (x14_1 + 1)), (by first | rfl | (simp; done) | (simp [*]; done)), (by first | rfl | (simp; done) | (simp [*]; done)), H', ⟨by have := HK1.out; omega⟩, ⟨by (with_reducible repeat (first | apply Kd.R_alloc | apply Kd.R_drewN | apply Kd.R_drew)); exact Kd.R_mono HO_5.out (fun _ hk => hk.1)⟩, ⟨by (with_reducible repeat (first | apply Kd.R_alloc | apply Kd.R_drewN | apply Kd.R_drew)); exact Kd.R_mono HO_12.out (fun _ hk => hk.1)⟩, ⟨by repeat (first | (with_reducible first | exact HB.out | apply below_alloc | apply pw_below_drewN | apply below_drew1 | refine below_set ?_ GE213.out) | exact HB.out)⟩⟩
          · rw [if_neg c10] at H
            exact absurd H (by simp)
        · rw [if_neg c9] at H
          exact absurd H (by simp)
      · rw [if_neg c8] at H
        have c8b0 : decide (x14_1 < (t209.length : Int)) = false := decide_eq_false c8
        clear c8
        obtain rfl := Option.some.inj H
        go_wp2
        go_ret
        exact ⟨by first | rfl | (simp [errW_none, errW_some] <;> rfl) | (simp [*, errW_none, errW_some] <;> rfl), by repeat (first | (with_reducible first | exact HB.out | apply below_alloc | apply pw_below_drewN | apply below_drew1) | exact HB.out)⟩

end Go.Proofs.YtgeimklpcfepaaaDoor.P
namespace Go.Proofs.YtgeimklpcfepaaaDoor.P
open Go.RowKit Go.Proofs.YtgeimklpcfepaaaDoorW.PrintWords Go.Proofs.YtgeimklpcfepaaaDoorW.PrintLast Go.Proofs.YtgeimklpcfepaaaDoorW.PrintMore
attribute [local go_sem] max2_int min2_int max_two min_two max_three min_three max_four min_four   -- for this text's walks alone
set_option linter.unusedVariables false
set_option linter.unusedSimpArgs false

/-! ### laws_FnFindsAll: function 4 -/
def laws_FnFindsAll.j0 : Nat → ByteArray → ByteArray → Bool → Option (Bool)
  | 0, _, _, _ => none
  | k + 1, x0, x1, x13 => if x13 = true then (some true) else ((spec_Short.f k x0 (([x1] : List ByteArray))).bind fun t218 => (if t218 = true then ((impl_FindNoSort.f k x0 (([x1] : List ByteArray))).bind fun t222 => (if x0.toList = ([] : List UInt8) then (some ((t222.length : Int) == 0)) else (if (t222.length : Int) ≤ 1 then ((spec_Within.f k x0 x1).bind fun t225 => (some (((t222.length : Int) == 1) == t225))) else (some false)))) else (some true)))
def laws_FnFindsAll.f (k : Nat) (a0 : ByteArray) (a1 : ByteArray) : Option (Bool) := if (a0.size : Int) > 2147483647 then (laws_FnFindsAll.j0 k a0 a1 true) else (laws_FnFindsAll.j0 k a0 a1 (decide ((a1.size : Int) > 2147483647)))
theorem laws_FnFindsAll.mono_l : ∀ k, (∀ y0 y1 y2, LeO (laws_FnFindsAll.j0 k y0 y1 y2) (laws_FnFindsAll.j0 (k + 1) y0 y1 y2))
  | 0 => fun _ _ _ r h => by simp [laws_FnFindsAll.j0] at h
  | k + 1 => by
    have ih0 := laws_FnFindsAll.mono_l k
    · intro y0 y1 y2
      unfold laws_FnFindsAll.j0
      repeat' first
      | (with_reducible exact ih0 _ _ _)
      | (with_reducible exact impl_FindNoSort.mono _ _ _)
      | (with_reducible exact spec_Short.mono _ _ _)
      | (with_reducible exact spec_Within.mono _ _ _)
      | (with_reducible exact LeO.refl _)
      | (with_reducible exact LeO.none _)
      | (with_reducible refine LeO.ite ?_ ?_)
      | (with_reducible refine LeO.bind ?_ (fun _ => ?_))
      | exact ih0 _ _ _
      | exact impl_FindNoSort.mono _ _ _
      | exact spec_Short.mono _ _ _
      | exact spec_Within.mono _ _ _
      | exact LeO.none _
      | refine LeO.ite ?_ ?_
      | refine LeO.bind ?_ (fun _ => ?_)
theorem laws_FnFindsAll.mono : ∀ a0 a1 k, LeO (laws_FnFindsAll.f k a0 a1) (laws_FnFindsAll.f (k + 1) a0 a1) := by
  intro a0 a1 k
  have ih0 := laws_FnFindsAll.mono_l k
  unfold laws_FnFindsAll.f
  repeat' first
      | (with_reducible exact ih0 _ _ _)
      | (with_reducible exact impl_FindNoSort.mono _ _ _)
      | (with_reducible exact spec_Short.mono _ _ _)
      | (with_reducible exact spec_Within.mono _ _ _)
      | (with_reducible exact LeO.refl _)
      | (with_reducible exact LeO.none _)
      | (with_reducible refine LeO.ite ?_ ?_)
      | (with_reducible refine LeO.bind ?_ (fun _ => ?_))
      | exact ih0 _ _ _
      | exact impl_FindNoSort.mono _ _ _
      | exact spec_Short.mono _ _ _
      | exact spec_Within.mono _ _ _
      | exact LeO.none _
      | refine LeO.ite ?_ ?_
      | refine LeO.bind ?_ (fun _ => ?_)
set_option maxHeartbeats 8000000 in
set_option maxRecDepth 100000 in
theorem laws_FnFindsAll.calls (k : Nat) (a0 : ByteArray) (a1 : ByteArray) (r : Bool) (w : World) (hA_ : Amb w) (h : laws_FnFindsAll.f k a0 a1 = some r) :
    Calls Tryd.prog 4 #[.string a0, .string a1] w fun e w' => e = .returned (.bool r) ∧ Below w.heap.size w w' := by
  have HAMB := Aside0.mk hA_
  clear hA_
  have HB := Aside0.mk (Below.refl w.heap.size w)
  have H : (if (a0.size : Int) > 2147483647 then (laws_FnFindsAll.j0 k a0 a1 true) else (laws_FnFindsAll.j0 k a0 a1 (decide ((a1.size : Int) > 2147483647)))) = some r := h
  clear h
  have HC3 := Aside0.mk H
  clear H
  go_enter Tryd.func4, Tryd.ntmps4
  go_upto_region 1 with (fail)
  go_cut [13] (fun v13 wc => ∃ (kq : Nat) (x13_2 : Bool), v13 = .bool x13_2 ∧ Aside0 (laws_FnFindsAll.j0 kq a0 a1 x13_2 = some r) ∧ Aside0 (kq ≤ k) ∧ Aside0 (Below w.heap.size w wc))
  case first =>
    have H := HC3.out
    clear HC3
    by_cases c4 : (a0.size : Int) > 2147483647
    · rw [if_pos c4] at H
      have c4b0 : decide (2147483647 < (a0.size : Int)) = true := decide_eq_true c4
      have c4b1 : decide (2147483647 < a0.size) = true := decide_eq_true (by omega)
      clear c4
      (first | rw [c4b0] | (simp only [i64_w, i32_w]; rw [c4b0]) | skip)
      have H' := Aside0.mk H
      clear H
      go_wp2
      go_meet
      case rel => exact ⟨_, (true), (by first | rfl | (simp; done) | (simp [*]; done)), H', ⟨by first | omega | exact Nat.le_refl _⟩, ⟨by repeat (first | (with_reducible first | exact HB.out | apply below_alloc | apply pw_below_drewN | apply below_drew1) | exact HB.out)⟩⟩
    · rw [if_neg c4] at H
      have c4b0 : decide (2147483647 < (a0.size : Int)) = false := decide_eq_false c4
      have c4b1 : decide (2147483647 < a0.size) = false := decide_eq_false (by omega)
      clear c4
      (first | rw [c4b0] | (simp only [i64_w, i32_w]; rw [c4b0]) | skip)
      have H' := Aside0.mk H
      clear H
      go_wp2
      go_meet
      case rel => exact ⟨_, (decide ((a1.size : Int) > 2147483647)), (by first | rfl | (simp; done) | (simp [*]; done)), H', ⟨by first | omega | exact Nat.le_refl _⟩, ⟨by repeat (first | (with_reducible first | exact HB.out | apply below_alloc | apply pw_below_drewN | apply below_drew1) | exact HB.out)⟩⟩
  case rest =>
    clear HC3
    try clear p2
    try clear c4
    try clear c4b0
    try clear c4b1
    obtain ⟨kq, x13_2, rfl, HA, HJ2, HB⟩ := hcut
    cases kq with
    | zero => exact absurd HA.out (by simp [laws_FnFindsAll.j0])
    | succ kj2 =>
      have H := HA.out
      clear HA
      simp only [laws_FnFindsAll.j0] at H
      by_cases c5 : x13_2 = true
      · subst c5
        have H1 : (some true) = some r := by rw [if_pos rfl] at H; exact H
        clear H
        have H := H1
        clear H1
        obtain rfl := Option.some.inj H
        go_wp2
        go_ret
        exact ⟨by first | rfl | (simp [errW_none, errW_some] <;> rfl) | (simp [*, errW_none, errW_some] <;> rfl), by repeat (first | (with_reducible first | exact HB.out | apply below_alloc | apply pw_below_drewN | apply below_drew1) | exact HB.out)⟩
      · replace c5 := Bool.eq_false_iff.mpr c5
        subst c5
        have H1 : ((spec_Short.f kj2 a0 (([a1] : List ByteArray))).bind fun t218 => (if t218 = true then ((impl_FindNoSort.f kj2 a0 (([a1] : List ByteArray))).bind fun t222 => (if a0.toList = ([] : List UInt8) then (some ((t222.length : Int) == 0)) else (if (t222.length : Int) ≤ 1 then ((spec_Within.f kj2 a0 a1).bind fun t225 => (some (((t222.length : Int) == 1) == t225))) else (some false)))) else (some true))) = some r := by rw [if_neg (show ¬ (false = true) by decide)] at H; exact H
        clear H
        have H := H1
        clear H1
        obtain ⟨y215, hy215⟩ : ∃ y_ : List ByteArray, y_ = (([a1] : List ByteArray)) := ⟨_, rfl⟩
        replace H : ((spec_Short.f kj2 a0 y215).bind fun t218 => (if t218 = true then ((impl_FindNoSort.f kj2 a0 (([a1] : List ByteArray))).bind fun t222 => (if a0.toList = ([] : List UInt8) then (some ((t222.length : Int) == 0)) else (if (t222.length : Int) ≤ 1 then ((spec_Within.f kj2 a0 a1).bind fun t225 => (some (((t222.length : Int) == 1) == t225))) else (some false)))) else (some true))) = some r := by first | (rw [hy215]; with_reducible exact H) | (have H2_ := (Option.bind_some _ _).symm.trans H; rw [hy215]; with_reducible exact H2_) | (have H2_ := (Option.bind_some _ _).symm.trans H; with_reducible exact H2_) | with_reducible exact H | (rw [hy215]; exact H) | exact H
        have Ny215 := Aside0.mk hy215
        clear hy215
        replace H := Option.bind_eq_some_iff.mp H
        obtain ⟨t218, A60, H⟩ := H
        replace H : (if t218 = true then ((impl_FindNoSort.f kj2 a0 (([a1] : List ByteArray))).bind fun t222 => (if a0.toList = ([] : List UInt8) then (some ((t222.length : Int) == 0)) else (if (t222.length : Int) ≤ 1 then ((spec_Within.f kj2 a0 a1).bind fun t225 => (some (((t222.length : Int) == 1) == t225))) else (some false)))) else (some true)) = some r := H
        have A6 := Aside0.mk A60
        clear A60
        by_cases c7 : t218 = true
        · subst c7
          have H1 : ((impl_FindNoSort.f kj2 a0 (([a1] : List ByteArray))).bind fun t222 => (if a0.toList = ([] : List UInt8) then (some ((t222.length : Int) == 0)) else (if (t222.length : Int) ≤ 1 then ((spec_Within.f kj2 a0 a1).bind fun t225 => (some (((t222.length : Int) == 1) == t225))) else (some false)))) = some r := by rw [if_pos rfl] at H; exact H
          clear H
          have H := H1
          clear H1
          obtain ⟨y219, hy219⟩ : ∃ y_ : List ByteArray, y_ = (([a1] : List ByteArray)) := ⟨_, rfl⟩
          replace H : ((impl_FindNoSort.f kj2 a0 y219).bind fun t222 => (if a0.toList = ([] : List UInt8) then (some ((t222.length : Int) == 0)) else (if (t222.length : Int) ≤ 1 then ((spec_Within.f kj2 a0 a1).bind fun t225 => (some (((t222.length : Int) == 1) == t225))) else (some false)))) = some r := by first | (rw [hy219]; with_reducible exact H) | (have H2_ := (Option.bind_some _ _).symm.trans H; rw [hy219]; with_reducible exact H2_) | (have H2_ := (Option.bind_some _ _).symm.trans H; with_reducible exact H2_) | with_reducible exact H | (rw [hy219]; exact H) | exact H
          have Ny219 := Aside0.mk hy219
          clear hy219
          replace H := Option.bind_eq_some_iff.mp H
          obtain ⟨t222, A80, H⟩ := H
          replace H : (if a0.toList = ([] : List UInt8) then (some ((t222.length : Int) == 0)) else (if (t222.length : Int) ≤ 1 then ((spec_Within.f kj2 a0 a1).bind fun t225 => (some (((t222.length : Int) == 1) == t225))) else (some false))) = some r := H
          have A8 := Aside0.mk A80
          clear A80
          by_cases c9 : a0.toList = ([] : List UInt8)
          · rw [if_pos c9] at H
            have c9b0 : (a0.toList == ([] : List UInt8)) = true := beq_iff_eq.mpr c9
            have c9b1 : (a0.toList != ([] : List UInt8)) = false := bne_eq_false_iff_eq.mpr c9
            clear c9
            obtain rfl := Option.some.inj H
            go_wp2_with (first | ((with_reducible refine gate_dst (N := 16) rfl ?_); (try (refine gate_guard (by rfl) ?_; dsimp only)); refine Kd.R_lit Kd.string _ 9 ?hg (N := 16) ?hd (xs := ([a1] : List ByteArray)) (inner := [.string a1]) (ok := fun _ => True) (okp := fun _ => True) ?hr ?hp (fun _ hk => hk) trivial (Below.refl _ _) (Nat.le_refl _) (by simp) ?_; (case hd => rfl); (case hg => rfl); (case hr => first | (go_simp; done) | (go_simp; rfl)); (case hp => exact (Reps.one (show Kd.M Kd.string _ _ _ a1 [.string a1] from rfl) (Reps.none _ _))); intro v216 w10 ho11 hb hg_ hnew_; clear hg_ hnew_; (first | rw [← Ny215.out] at ho11 | (simp only [Int.reduceToNat] at ho11; rw [← Ny215.out] at ho11)); have n0_ := Aside0.mk (Kd.R_lower ho11 (below_size (by repeat (first | (with_reducible first | exact HB.out | apply below_alloc | apply pw_below_drewN | apply below_drew1) | exact HB.out)))); have n1_ := Aside0.mk (below_step (by repeat (first | (with_reducible first | exact HB.out | apply below_alloc | apply pw_below_drewN | apply below_drew1) | exact HB.out)) hb); clear HB; have HO217 := n0_; have HB := n1_; clear n0_ n1_; clear hb ho11; obtain ⟨Ao12, co12, eo12⟩ := Kd.R_slice HO217.out; subst eo12) | ((with_reducible refine gate_callee (f := 9) rfl ?_); refine goesL_ (some 17) rfl rfl Tryd.func9 (by kernel_rfl) rfl #[.string a0, .slice Ao12 y215.length co12] rfl (by (try simp only [List.map_toArray, List.map_cons, List.map_nil]); first | done | rfl | (simp only [List.length_drop, List.length_take]; rfl)) ?_; (with_reducible refine (spec_Short.calls kj2 a0 _ _ y215 true _ ?side1 ?side2 A6.out).mono ?_); (case side1 => repeat (first | exact (Kd.R_reads' HO217.out).2.2 | (with_reducible refine Kd.C_alloc ?_ _) | (with_reducible refine Kd.C_drewN ?_ _) | (with_reducible refine Kd.C_drew ?_))); (case side2 => exact (Kd.R_reads' HO217.out).2.1); rintro e w13 ⟨rfl, hb⟩; refine ⟨_, rfl, ?_⟩; have n0_ := Aside0.mk (Kd.R_below (by (with_reducible repeat (first | apply Kd.R_alloc | apply Kd.R_drewN | apply Kd.R_drew)); exact HO217.out) hb); have n1_ := Aside0.mk (below_step (by repeat (first | (with_reducible first | exact HB.out | apply below_alloc | apply pw_below_drewN | apply below_drew1) | exact HB.out)) hb); clear HO217; clear HB; have HO217 := n0_; have HB := n1_; clear n0_ n1_; (try clear hb); (try clear hb2); (try clear hk); (try clear hi)) | ((with_reducible refine gate_dst (N := 21) rfl ?_); (try (refine gate_guard (by rfl) ?_; dsimp only)); refine Kd.R_lit Kd.string _ 9 ?hg (N := 21) ?hd (xs := ([a1] : List ByteArray)) (inner := [.string a1]) (ok := fun _ => True) (okp := fun _ => True) ?hr ?hp (fun _ hk => hk) trivial (Below.refl _ _) (Nat.le_refl _) (by simp) ?_; (case hd => rfl); (case hg => rfl); (case hr => first | (go_simp; done) | (go_simp; rfl)); (case hp => exact (Reps.one (show Kd.M Kd.string _ _ _ a1 [.string a1] from rfl) (Reps.none _ _))); intro v220 w14 ho15 hb hg_ hnew_; clear hg_ hnew_; (first | rw [← Ny219.out] at ho15 | (simp only [Int.reduceToNat] at ho15; rw [← Ny219.out] at ho15)); have n0_ := Aside0.mk (Kd.R_elder' (by (with_reducible repeat (first | apply Kd.R_alloc | apply Kd.R_drewN | apply Kd.R_drew)); exact HO217.out) (Kd.R_base ho15) hb); have n1_ := Aside0.mk (Kd.R_lower (Kd.R_new' ho15 (Kd.R_lt (by (with_reducible repeat (first | apply Kd.R_alloc | apply Kd.R_drewN | apply Kd.R_drew)); exact HO217.out))) (below_size (by repeat (first | (with_reducible first | exact HB.out | apply below_alloc | apply pw_below_drewN | apply below_drew1) | exact HB.out)))); have n2_ := Aside0.mk (below_step (by repeat (first | (with_reducible first | exact HB.out | apply below_alloc | apply pw_below_drewN | apply below_drew1) | exact HB.out)) hb); clear HO217; clear HB; have HO217 := n0_; have HO221 := n1_; have HB := n2_; clear n0_ n1_ n2_; clear hb ho15; obtain ⟨Ao16, co16, eo16⟩ := Kd.R_slice HO221.out; subst eo16) | ((with_reducible refine gate_callee (f := 11) rfl ?_); refine goesL_ (some 22) rfl rfl Tryd.func11 (by kernel_rfl) rfl #[.string a0, .slice Ao16 y219.length co16] rfl (by (try simp only [List.map_toArray, List.map_cons, List.map_nil]); first | done | rfl | (simp only [List.length_drop, List.length_take]; rfl)) ?_; (with_reducible refine (impl_FindNoSort.calls kj2 a0 _ _ y219 t222 _ ?side1 ?side2 (by first | (with_reducible exact HAMB.out) | exact Amb.below HAMB.out (by repeat (first | (with_reducible first | exact HB.out | apply below_alloc | apply pw_below_drewN | apply below_drew1) | exact HB.out)) | exact Amb.below HAMB.out (by repeat (first | (with_reducible first | exact Below.refl _ _ | apply pw_below_drewN | apply below_drew1 | apply below_alloc)))) A8.out).mono ?_); (case side1 => repeat (first | exact (Kd.R_reads' HO221.out).2.2 | (with_reducible refine Kd.C_alloc ?_ _) | (with_reducible refine Kd.C_drewN ?_ _) | (with_reducible refine Kd.C_drew ?_))); (case side2 => exact (Kd.R_reads' HO221.out).2.1); rintro e w17 ⟨v223, rfl, ho0, hb⟩; refine ⟨_, rfl, ?_⟩; have n0_ := Aside0.mk (Kd.R_below (by (with_reducible repeat (first | apply Kd.R_alloc | apply Kd.R_drewN | apply Kd.R_drew)); exact HO217.out) hb); have n1_ := Aside0.mk (Kd.R_below (by (with_reducible repeat (first | apply Kd.R_alloc | apply Kd.R_drewN | apply Kd.R_drew)); exact HO221.out) hb); have n2_ := Aside0.mk (Kd.S_lower ho0 (below_size (by repeat (first | (with_reducible first | exact HB.out | apply below_alloc | apply pw_below_drewN | apply below_drew1) | exact HB.out)))); have n3_ := Aside0.mk (below_step (by repeat (first | (with_reducible first | exact HB.out | apply below_alloc | apply pw_below_drewN | apply below_drew1) | exact HB.out)) hb); clear HO217; clear HO221; clear HB; have HO217 := n0_; have HO221 := n1_; have HO224 := n2_; have HB := n3_; clear n0_ n1_ n2_ n3_; (try clear hb); (try clear hb2); (try clear hk); (try clear hi); (try clear ho0); obtain ⟨Ao18, co18, eo18⟩ := Kd.S_slice HO224.out; subst eo18))
            go_ret
            exact ⟨by first | rfl | (simp [errW_none, errW_some] <;> rfl) | (simp [*, errW_none, errW_some] <;> rfl), by repeat (first | (with_reducible first | exact HB.out | apply below_alloc | apply pw_below_drewN | apply below_drew1) | exact HB.out)⟩
          · rw [if_neg c9] at H
            have c9b0 : (a0.toList == ([] : List UInt8)) = false := beq_eq_false_iff_ne.mpr c9
            have c9b1 : (a0.toList != ([] : List UInt8)) = true := bne_iff_ne.mpr c9
            by_cases c19 : (t222.length : Int) ≤ 1
            · rw [if_pos c19] at H
              have c19b0 : decide ((t222.length : Int) ≤ 1) = true := decide_eq_true c19
              have c19b1 : decide (t222.length ≤ 1) = true := decide_eq_true (by omega)
              clear c19
              replace H := Option.bind_eq_some_iff.mp H
              obtain ⟨t225, A200, H⟩ := H
              replace H : (some (((t222.length : Int) == 1) == t225)) = some r := H
              have A20 := Aside0.mk A200
              clear A200
              obtain rfl := Option.some.inj H
              go_wp2_with (first | ((with_reducible refine gate_dst (N := 16) rfl ?_); (try (refine gate_guard (by rfl) ?_; dsimp only)); refine Kd.R_lit Kd.string _ 9 ?hg (N := 16) ?hd (xs := ([a1] : List ByteArray)) (inner := [.string a1]) (ok := fun _ => True) (okp := fun _ => True) ?hr ?hp (fun _ hk => hk) trivial (Below.refl _ _) (Nat.le_refl _) (by simp) ?_; (case hd => rfl); (case hg => rfl); (case hr => first | (go_simp; done) | (go_simp; rfl)); (case hp => exact (Reps.one (show Kd.M Kd.string _ _ _ a1 [.string a1] from rfl) (Reps.none _ _))); intro v216 w21 ho22 hb hg_ hnew_; clear hg_ hnew_; (first | rw [← Ny215.out] at ho22 | (simp only [Int.reduceToNat] at ho22; rw [← Ny215.out] at ho22)); have n0_ := Aside0.mk (Kd.R_lower ho22 (below_size (by repeat (first | (with_reducible first | exact HB.out | apply below_alloc | apply pw_below_drewN | apply below_drew1) | exact HB.out)))); have n1_ := Aside0.mk (below_step (by repeat (first | (with_reducible first | exact HB.out | apply below_alloc | apply pw_below_drewN | apply below_drew1) | exact HB.out)) hb); clear HB; have HO217 := n0_; have HB := n1_; clear n0_ n1_; clear hb ho22; obtain ⟨Ao23, co23, eo23⟩ := Kd.R_slice HO217.out; subst eo23) | ((with_reducible refine gate_callee (f := 9) rfl ?_); refine goesL_ (some 17) rfl rfl Tryd.func9 (by kernel_rfl) rfl #[.string a0, .slice Ao23 y215.length co23] rfl (by (try simp only [List.map_toArray, List.map_cons, List.map_nil]); first | done | rfl | (simp only [List.length_drop, List.length_take]; rfl)) ?_; (with_reducible refine (spec_Short.calls kj2 a0 _ _ y215 true _ ?side1 ?side2 A6.out).mono ?_); (case side1 => repeat (first | exact (Kd.R_reads' HO217.out).2.2 | (with_reducible refine Kd.C_alloc ?_ _) | (with_reducible refine Kd.C_drewN ?_ _) | (with_reducible refine Kd.C_drew ?_))); (case side2 => exact (Kd.R_reads' HO217.out).2.1); rintro e w24 ⟨rfl, hb⟩; refine ⟨_, rfl, ?_⟩; have n0_ := Aside0.mk (Kd.R_below (by (with_reducible repeat (first | apply Kd.R_alloc | apply Kd.R_drewN | apply Kd.R_drew)); exact HO217.out) hb); have n1_ := Aside0.mk (below_step (by repeat (first | (with_reducible first | exact HB.out | apply below_alloc | apply pw_below_drewN | apply below_drew1) | exact HB.out)) hb); clear HO217; clear HB; have HO217 := n0_; have HB := n1_; clear n0_ n1_; (try clear hb); (try clear hb2); (try clear hk); (try clear hi)) | ((with_reducible refine gate_dst (N := 21) rfl ?_); (try (refine gate_guard (by rfl) ?_; dsimp only)); refine Kd.R_lit Kd.string _ 9 ?hg (N := 21) ?hd (xs := ([a1] : List ByteArray)) (inner := [.string a1]) (ok := fun _ => True) (okp := fun _ => True) ?hr ?hp (fun _ hk => hk) trivial (Below.refl _ _) (Nat.le_refl _) (by simp) ?_; (case hd => rfl); (case hg => rfl); (case hr => first | (go_simp; done) | (go_simp; rfl)); (case hp => exact (Reps.one (show Kd.M Kd.string _ _ _ a1 [.string a1] from rfl) (Reps.none _ _))); intro v220 w25 ho26 hb hg_ hnew_; clear hg_ hnew_; (first | rw [← Ny219.out] at ho26 | (simp only [Int.reduceToNat] at ho26; rw [← Ny219.out] at ho26)); have n0_ := Aside0.mk (Kd.R_elder' (by (with_reducible repeat (first | apply Kd.R_alloc | apply Kd.R_drewN | apply Kd.R_drew)); exact HO217.out) (Kd.R_base ho26) hb); have n1_ := Aside0.mk (Kd.R_lower (Kd.R_new' ho26 (Kd.R_lt (by (with_reducible repeat (first | apply Kd.R_alloc | apply Kd.R_drewN | apply Kd.R_drew)); exact HO217.out))) (below_size (by repeat (first | (with_reducible first | exact HB.out | apply below_alloc | apply pw_below_drewN | apply below_drew1) | exact HB.out)))); have n2_ := Aside0.mk (below_step (by repeat (first | (with_reducible first | exact HB.out | apply below_alloc | apply pw_below_drewN | apply below_drew1) | exact HB.out)) hb); clear HO217; clear HB; have HO217 := n0_; have HO221 := n1_; have HB := n2_; clear n0_ n1_ n2_; clear hb ho26; obtain ⟨Ao27, co27, eo27⟩ := Kd.R_slice HO221.out; subst eo27) | ((with_reducible refine gate_callee (f := 11) rfl ?_); refine goesL_ (some 22) rfl rfl Tryd.func11 (by kernel_rfl) rfl #[.string a0, .slice Ao27 y219.length co27] rfl (by (try simp only [List.map_toArray, List.map_cons, List.map_nil]); first | done | rfl | (simp only [List.length_drop, List.length_take]; rfl)) ?_; (with_reducible refine (impl_FindNoSort.calls kj2 a0 _ _ y219 t222 _ ?side1 ?side2 (by first | (with_reducible exact HAMB.out) | exact Amb.below HAMB.out (by repeat (first | (with_reducible first | exact HB.out | apply below_alloc | apply pw_below_drewN | apply below_drew1) | exact HB.out)) | exact Amb.below HAMB.out (by repeat (first | (with_reducible first | exact Below.refl _ _ | apply pw_below_drewN | apply below_drew1 | apply below_alloc)))) A8.out).mono ?_); (case side1 => repeat (first | exact (Kd.R_reads' HO221.out).2.2 | (with_reducible refine Kd.C_alloc ?_ _) | (with_reducible refine Kd.C_drewN ?_ _) | (with_reducible refine Kd.C_drew ?_))); (case side2 => exact (Kd.R_reads' HO221.out).2.1); rintro e w28 ⟨v223, rfl, ho0, hb⟩; refine ⟨_, rfl, ?_⟩; have n0_ := Aside0.mk (Kd.R_below (by (with_reducible repeat (first | apply Kd.R_alloc | apply Kd.R_drewN | apply Kd.R_drew)); exact HO217.out) hb); have n1_ := Aside0.mk (Kd.R_below (by (with_reducible repeat (first | apply Kd.R_alloc | apply Kd.R_drewN | apply Kd.R_drew)); exact HO221.out) hb); have n2_ := Aside0.mk (Kd.S_lower ho0 (below_size (by repeat (first | (with_reducible first | exact HB.out | apply below_alloc | apply pw_below_drewN | apply below_drew1) | exact HB.out)))); have n3_ := Aside0.mk (below_step (by repeat (first | (with_reducible first | exact HB.out | apply below_alloc | apply pw_below_drewN | apply below_drew1) | exact HB.out)) hb); clear HO217; clear HO221; clear HB; have HO217 := n0_; have HO221 := n1_; have HO224 := n2_; have HB := n3_; clear n0_ n1_ n2_ n3_; (try clear hb); (try clear hb2); (try clear hk); (try clear hi); (try clear ho0); obtain ⟨Ao29, co29, eo29⟩ := Kd.S_slice HO224.out; subst eo29) | (go_at_call 13; (with_reducible refine (spec_Within.calls kj2 a0 a1 t225 _ (by first | (with_reducible exact HAMB.out) | exact Amb.below HAMB.out (by repeat (first | (with_reducible first | exact HB.out | apply below_alloc | apply pw_below_drewN | apply below_drew1) | exact HB.out)) | exact Amb.below HAMB.out (by repeat (first | (with_reducible first | exact Below.refl _ _ | apply pw_below_drewN | apply below_drew1 | apply below_alloc)))) A20.out).mono ?_); rintro e w30 ⟨rfl, hb⟩; have n0_ := Aside0.mk (Kd.R_below (by (with_reducible repeat (first | apply Kd.R_alloc | apply Kd.R_drewN | apply Kd.R_drew)); exact HO217.out) hb); have n1_ := Aside0.mk (Kd.R_below (by (with_reducible repeat (first | apply Kd.R_alloc | apply Kd.R_drewN | apply Kd.R_drew)); exact HO221.out) hb); have n2_ := Aside0.mk (Kd.S_below (by (with_reducible repeat (first | apply Kd.S_alloc | apply Kd.S_drewN | apply Kd.S_drew)); exact HO224.out) hb); have n3_ := Aside0.mk (below_step (by repeat (first | (with_reducible first | exact HB.out | apply below_alloc | apply pw_below_drewN | apply below_drew1) | exact HB.out)) hb); clear HO217; clear HO221; clear HO224; clear HB; have HO217 := n0_; have HO221 := n1_; have HO224 := n2_; have HB := n3_; clear n0_ n1_ n2_ n3_; (try clear hb); (try clear hb2); (try clear hk); (try clear hi)))
              go_ret
              exact ⟨by first | rfl | (simp [errW_none, errW_some] <;> rfl) | (simp [*, errW_none, errW_some] <;> rfl), by repeat (first | (with_reducible first | exact HB.out | apply below_alloc | apply pw_below_drewN | apply below_drew1) | exact HB.out)⟩
            · rw [if_neg c19] at H
              have c19b0 : decide ((t222.length : Int) ≤ 1) = false := decide_eq_false c19
              have c19b1 : decide (t222.length ≤ 1) = false := decide_eq_false (by omega)
              clear c19
              obtain rfl := Option.some.inj H
              go_wp2_with (first | ((with_reducible refine gate_dst (N := 16) rfl ?_); (try (refine gate_guard (by rfl) ?_; dsimp only)); refine Kd.R_lit Kd.string _ 9 ?hg (N := 16) ?hd (xs := ([a1] : List ByteArray)) (inner := [.string a1]) (ok := fun _ => True) (okp := fun _ => True) ?hr ?hp (fun _ hk => hk) trivial (Below.refl _ _) (Nat.le_refl _) (by simp) ?_; (case hd => rfl); (case hg => rfl); (case hr => first | (go_simp; done) | (go_simp; rfl)); (case hp => exact (Reps.one (show Kd.M Kd.string _ _ _ a1 [.string a1] from rfl) (Reps.none _ _))); intro v216 w31 ho32 hb hg_ hnew_; clear hg_ hnew_; (first | rw [← Ny215.out] at ho32 | (simp only [Int.reduceToNat] at ho32; rw [← Ny215.out] at ho32)); have n0_ := Aside0.mk (Kd.R_lower ho32 (below_size (by repeat (first | (with_reducible first | exact HB.out | apply below_alloc | apply pw_below_drewN | apply below_drew1) | exact HB.out)))); have n1_ := Aside0.mk (below_step (by repeat (first | (with_reducible first | exact HB.out | apply below_alloc | apply pw_below_drewN | apply below_drew1) | exact HB.out)) hb); clear HB; have HO217 := n0_; have HB := n1_; clear n0_ n1_; clear hb ho32; obtain ⟨Ao33, co33, eo33⟩ := Kd.R_slice HO217.out; subst eo33) | ((with_reducible refine gate_callee (f := 9) rfl ?_); refine goesL_ (some 17) rfl rfl Tryd.func9 (by kernel_rfl) rfl #[.string a0, .slice Ao33 y215.length co33] rfl (by (try simp only [List.map_toArray, List.map_cons, List.map_nil]); first | done | rfl | (simp only [List.length_drop, List.length_take]; rfl)) ?_; (with_reducible refine (spec_Short.calls kj2 a0 _ _ y215 true _ ?side1 ?side2 A6.out).mono ?_); (case side1 => repeat (first | exact (Kd.R_reads' HO217.out).2.2 | (with_reducible refine Kd.C_alloc ?_ _) | (with_reducible refine Kd.C_drewN ?_ _) | (with_reducible refine Kd.C_drew ?_))); (case side2 => exact (Kd.R_reads' HO217.out).2.1); rintro e w34 ⟨rfl, hb⟩; refine ⟨_, rfl, ?_⟩; have n0_ := Aside0.mk (Kd.R_below (by (with_reducible repeat (first | apply Kd.R_alloc | apply Kd.R_drewN | apply Kd.R_drew)); exact HO217.out) hb); have n1_ := Aside0.mk (below_step (by repeat (first | (with_reducible first | exact HB.out | apply below_alloc | apply pw_below_drewN | apply below_drew1) | exact HB.out)) hb); clear HO217; clear HB; have HO217 := n0_; have HB := n1_; clear n0_ n1_; (try clear hb); (try clear hb2); (try clear hk); (try clear hi)) | ((with_reducible refine gate_dst (N := 21) rfl ?_); (try (refine gate_guard (by rfl) ?_; dsimp only)); refine Kd.R_lit Kd.string _ 9 ?hg (N := 21) ?hd (xs := ([a1] : List ByteArray)) (inner := [.string a1]) (ok := fun _ => True) (okp := fun _ => True) ?hr ?hp (fun _ hk => hk) trivial (Below.refl _ _) (Nat.le_refl _) (by simp) ?_; (case hd => rfl); (case hg => rfl); (case hr => first | (go_simp; done) | (go_simp; rfl)); (case hp => exact (Reps.one (show Kd.M Kd.string _ _ _ a1 [.string a1] from rfl) (Reps.none _ _))); intro v220 w35 ho36 hb hg_ hnew_; clear hg_ hnew_; (first | rw [← Ny219.out] at ho36 | (simp only [Int.reduceToNat] at ho36; rw [← Ny219.out] at ho36)); have n0_ := Aside0.mk (Kd.R_elder' (by (with_reducible repeat (first | apply Kd.R_alloc | apply Kd.R_drewN | apply Kd.R_drew)); exact HO217.out) (Kd.R_base ho36) hb); have n1_ := Aside0.mk (Kd.R_lower (Kd.R_new' ho36 (Kd.R_lt (by (with_reducible repeat (first | apply Kd.R_alloc | apply Kd.R_drewN | apply Kd.R_drew)); exact HO217.out))) (below_size (by repeat (first | (with_reducible first | exact HB.out | apply below_alloc | apply pw_below_drewN | apply below_drew1) | exact HB.out)))); have n2_ := Aside0.mk (below_step (by repeat (first | (with_reducible first | exact HB.out | apply below_alloc | apply pw_below_drewN | apply below_drew1) | exact HB.out)) hb); clear HO217; clear HB; have HO217 := n0_; have HO221 := n1_; have HB := n2_; clear n0_ n1_ n2_; clear hb ho36; obtain ⟨Ao37, co37, eo37⟩ := Kd.R_slice HO221.out; subst eo37) | ((with_reducible refine gate_callee (f := 11) rfl ?_); refine goesL_ (some 22) rfl rfl Tryd.func11 (by kernel_rfl) rfl #[.string a0, .slice Ao37 y219.length co37] rfl (by (try simp only [List.map_toArray, List.map_cons, List.map_nil]); first | done | rfl | (simp only [List.length_drop, List.length_take]; rfl)) ?_; (with_reducible refine (impl_FindNoSort.calls kj2 a0 _ _ y219 t222 _ ?side1 ?side2 (by first | (with_reducible exact HAMB.out) | exact Amb.below HAMB.out (by repeat (first | (with_reducible first | exact HB.out | apply below_alloc | apply pw_below_drewN | apply below_drew1) | exact HB.out)) | exact Amb.below HAMB.out (by repeat (first | (with_reducible first | exact Below.refl _ _ | apply pw_below_drewN | apply below_drew1 | apply below_alloc)))) A8.out).mono ?_); (case side1 => repeat (first | exact (Kd.R_reads' HO221.out).2.2 | (with_reducible refine Kd.C_alloc ?_ _) | (with_reducible refine Kd.C_drewN ?_ _) | (with_reducible refine Kd.C_drew ?_))); (case side2 => exact (Kd.R_reads' HO221.out).2.1); rintro e w38 ⟨v223, rfl, ho0, hb⟩; refine ⟨_, rfl, ?_⟩; have n0_ := Aside0.mk (Kd.R_below (by (with_reducible repeat (first | apply Kd.R_alloc | apply Kd.R_drewN | apply Kd.R_drew)); exact HO217.out) hb); have n1_ := Aside0.mk (Kd.R_below (by (with_reducible repeat (first | apply Kd.R_alloc | apply Kd.R_drewN | apply Kd.R_drew)); exact HO221.out) hb); have n2_ := Aside0.mk (Kd.S_lower ho0 (below_size (by repeat (first | (with_reducible first | exact HB.out | apply below_alloc | apply pw_below_drewN | apply below_drew1) | exact HB.out)))); have n3_ := Aside0.mk (below_step (by repeat (first | (with_reducible first | exact HB.out | apply below_alloc | apply pw_below_drewN | apply below_drew1) | exact HB.out)) hb); clear HO217; clear HO221; clear HB; have HO217 := n0_; have HO221 := n1_; have HO224 := n2_; have HB := n3_; clear n0_ n1_ n2_ n3_; (try clear hb); (try clear hb2); (try clear hk); (try clear hi); (try clear ho0); obtain ⟨Ao39, co39, eo39⟩ := Kd.S_slice HO224.out; subst eo39))
              go_ret
              exact ⟨by first | rfl | (simp [errW_none, errW_some] <;> rfl) | (simp [*, errW_none, errW_some] <;> rfl), by repeat (first | (with_reducible first | exact HB.out | apply below_alloc | apply pw_below_drewN | apply below_drew1) | exact HB.out)⟩
        · replace c7 := Bool.eq_false_iff.mpr c7
          subst c7
          have H1 : (some true) = some r := by rw [if_neg (show ¬ (false = true) by decide)] at H; exact H
          clear H
          have H := H1
          clear H1
          obtain rfl := Option.some.inj H
          go_wp2_with (first | ((with_reducible refine gate_dst (N := 16) rfl ?_); (try (refine gate_guard (by rfl) ?_; dsimp only)); refine Kd.R_lit Kd.string _ 9 ?hg (N := 16) ?hd (xs := ([a1] : List ByteArray)) (inner := [.string a1]) (ok := fun _ => True) (okp := fun _ => True) ?hr ?hp (fun _ hk => hk) trivial (Below.refl _ _) (Nat.le_refl _) (by simp) ?_; (case hd => rfl); (case hg => rfl); (case hr => first | (go_simp; done) | (go_simp; rfl)); (case hp => exact (Reps.one (show Kd.M Kd.string _ _ _ a1 [.string a1] from rfl) (Reps.none _ _))); intro v216 w40 ho41 hb hg_ hnew_; clear hg_ hnew_; (first | rw [← Ny215.out] at ho41 | (simp only [Int.reduceToNat] at ho41; rw [← Ny215.out] at ho41)); have n0_ := Aside0.mk (Kd.R_lower ho41 (below_size (by repeat (first | (with_reducible first | exact HB.out | apply below_alloc | apply pw_below_drewN | apply below_drew1) | exact HB.out)))); have n1_ := Aside0.mk (below_step (by repeat (first | (with_reducible first | exact HB.out | apply below_alloc | apply pw_below_drewN | apply below_drew1) | exact HB.out)) hb); clear HB; have HO217 := n0_; have HB := n1_; clear n0_ n1_; clear hb ho41; obtain ⟨Ao42, co42, eo42⟩ := Kd.R_slice HO217.out; subst eo42) | ((with_reducible refine gate_callee (f := 9) rfl ?_); refine goesL_ (some 17) rfl rfl Tryd.func9 (by kernel_rfl) rfl #[.string a0, .slice Ao42 y215.length co42] rfl (by (try simp only [List.map_toArray, List.map_cons, List.map_nil]); first | done | rfl | (simp only [List.length_drop, List.length_take]; rfl)) ?_; (with_reducible refine (spec_Short.calls kj2 a0 _ _ y215 false _ ?side1 ?side2 A6.out).mono ?_); (case side1 => repeat (first | exact (Kd.R_reads' HO217.out).2.2 | (with_reducible refine Kd.C_alloc ?_ _) | (with_reducible refine Kd.C_drewN ?_ _) | (with_reducible refine Kd.C_drew ?_))); (case side2 => exact (Kd.R_reads' HO217.out).2.1); rintro e w43 ⟨rfl, hb⟩; refine ⟨_, rfl, ?_⟩; have n0_ := Aside0.mk (Kd.R_below (by (with_reducible repeat (first | apply Kd.R_alloc | apply Kd.R_drewN | apply Kd.R_drew)); exact HO217.out) hb); have n1_ := Aside0.mk (below_step (by repeat (first | (with_reducible first | exact HB.out | apply below_alloc | apply pw_below_drewN | apply below_drew1) | exact HB.out)) hb); clear HO217; clear HB; have HO217 := n0_; have HB := n1_; clear n0_ n1_; (try clear hb); (try clear hb2); (try clear hk); (try clear hi)))
          go_ret
          exact ⟨by first | rfl | (simp [errW_none, errW_some] <;> rfl) | (simp [*, errW_none, errW_some] <;> rfl), by repeat (first | (with_reducible first | exact HB.out | apply below_alloc | apply pw_below_drewN | apply below_drew1) | exact HB.out)⟩

end Go.Proofs.YtgeimklpcfepaaaDoor.P
