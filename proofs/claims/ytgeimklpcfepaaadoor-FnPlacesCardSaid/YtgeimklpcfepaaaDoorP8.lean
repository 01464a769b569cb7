-- written by a program of this session (wip/tools), out of the translation
import Derived.Test.YtgeimklpcfepaaaDoorP0
import Derived.Test.YtgeimklpcfepaaaDoorP3
import Derived.Test.YtgeimklpcfepaaaDoorP6
import Derived.Test.YtgeimklpcfepaaaDoorP7
import Derived.Test.YtgeimklpcfepaaaDoorExtLetters
namespace Go.Proofs.YtgeimklpcfepaaaDoor.P
open Go.RowKit Go.Proofs.YtgeimklpcfepaaaDoorW.PrintWords Go.Proofs.YtgeimklpcfepaaaDoorW.PrintLast Go.Proofs.YtgeimklpcfepaaaDoorW.PrintMore
attribute [local go_sem] max2_int min2_int max_two min_two max_three min_three max_four min_four   -- for this text's walks alone
set_option linter.unusedVariables false
set_option linter.unusedSimpArgs false

/-! ### spec_Found: function 12 -/
def spec_Found.l0 : Nat → ByteArray → List ByteArray → List (S33) → Int → Option ((List (S33)))
 | 0, _, _, _, _ => none
 | k + 1, x0, x1, x5, x6 => if x6 < (x1.length : Int) then (if 0 ≤ x6 then ((spec_Scored.f k x0 (rdOf ByteArray.empty x1 x6)).bind fun bt188 => (if bt188.2.2 = true then (if x5.length < 2513169434916 then (spec_Found.l0 k x0 x1 (x5 ++ [(⟨rdOf ByteArray.empty x1 x6, x6, bt188.1, bt188.2.1⟩ : S33)]) (wrap64 (x6 + 1))) else (none)) else (spec_Found.l0 k x0 x1 x5 (wrap64 (x6 + 1))))) else (none)) else (some x5)
def spec_Found.f (k : Nat) (a0 : ByteArray) (l1 : List ByteArray) : Option ((List (S33))) := (some (([] : List (S33)) : List (S33))).bind fun y184 => (if a0.toList = ([] : List UInt8) then (some y184) else (spec_Found.l0 k a0 l1 y184 0))
theorem spec_Found.mono_l : ∀ k, (∀ y0 y1 y2 y3, LeO (spec_Found.l0 k y0 y1 y2 y3) (spec_Found.l0 (k + 1) y0 y1 y2 y3))
 | 0 => fun _ _ _ _ r h => by simp [spec_Found.l0] at h
 | k + 1 => by
  have ih0 := spec_Found.mono_l k
  · intro y0 y1 y2 y3
    unfold spec_Found.l0
    repeat' first
    | (with_reducible exact ih0 _ _ _ _)
    | (with_reducible exact spec_Scored.mono _ _ _)
    | (with_reducible exact LeO.refl _)
    | (with_reducible exact LeO.none _)
    | (with_reducible refine LeO.ite ?_ ?_)
    | (with_reducible refine LeO.bind ?_ (fun _ => ?_))
    | exact ih0 _ _ _ _
    | exact spec_Scored.mono _ _ _
    | exact LeO.none _
    | refine LeO.ite ?_ ?_
    | refine LeO.bind ?_ (fun _ => ?_)
theorem spec_Found.mono : ∀ a0 a1 k, LeO (spec_Found.f k a0 a1) (spec_Found.f (k + 1) a0 a1) := by
 intro a0 a1 k
 have ih0 := spec_Found.mono_l k
 unfold spec_Found.f
 repeat' first
  | (with_reducible exact ih0 _ _ _ _)
  | (with_reducible exact spec_Scored.mono _ _ _)
  | (with_reducible exact LeO.refl _)
  | (with_reducible exact LeO.none _)
  | (with_reducible refine LeO.ite ?_ ?_)
  | (with_reducible refine LeO.bind ?_ (fun _ => ?_))
  | exact ih0 _ _ _ _
  | exact spec_Scored.mono _ _ _
  | exact LeO.none _
  | refine LeO.ite ?_ ?_
  | refine LeO.bind ?_ (fun _ => ?_)
set_option maxHeartbeats 8000000 in
set_option maxRecDepth 100000 in
theorem spec_Found.calls (k : Nat) (a0 : ByteArray) (A1 : Option Addr) (c1 : Nat) (l1 : List ByteArray) (r : List (S33)) (w : World) (hr1 : Kd.C Kd.string w A1 l1.length l1) (hc1 : l1.length ≤ c1) (hA_ : Amb w) (h : spec_Found.f k a0 l1 = some r) :
 Calls Tryd.prog 12 #[.string a0, .slice A1 l1.length c1] w fun e w' => ∃ v0_ : Value, e = .returned (v0_) ∧ Kd.S k33 33 w' w.heap.size (fun _ => True) v0_ r ∧ Below w.heap.size w w' := by
 have hu33 := Tryd.underlying33
 have HR1 := Aside0.mk hr1
 have HC1 := Aside0.mk hc1
 clear hr1 hc1
 have HAMB := Aside0.mk hA_
 clear hA_
 have HB := Aside0.mk (Below.refl w.heap.size w)
 have H : ((some (([] : List (S33)) : List (S33))).bind fun y184 => (if a0.toList = ([] : List UInt8) then (some y184) else (spec_Found.l0 k a0 l1 y184 0))) = some r := h
 clear h
 obtain ⟨y184, hy184⟩ : ∃ y_ : List (S33), y_ = (([] : List (S33))) := ⟨_, rfl⟩
 replace H : (if a0.toList = ([] : List UInt8) then (some y184) else (spec_Found.l0 k a0 l1 y184 0)) = some r := by first | (rw [hy184]; with_reducible exact H) | (have H2_ := (Option.bind_some _ _).symm.trans H; rw [hy184]; with_reducible exact H2_) | (have H2_ := (Option.bind_some _ _).symm.trans H; with_reducible exact H2_) | with_reducible exact H | (rw [hy184]; exact H) | exact H
 have Ny184 := Aside0.mk hy184
 clear hy184
 by_cases c3 : a0.toList = ([] : List UInt8)
 · rw [if_pos c3] at H
   have c3b0 : (a0.toList == ([] : List UInt8)) = true := beq_iff_eq.mpr c3
   have c3b1 : (a0.toList != ([] : List UInt8)) = false := bne_eq_false_iff_eq.mpr c3
   clear c3
   obtain rfl := Option.some.inj H
   go_enter Tryd.func12, Tryd.ntmps12
   go_wp2_with (first | ((with_reducible refine gate_dst (N := 10) rfl ?_); refine Kd.S_lit k33 _ 33 ?hg (N := 10) ?hd (xs := ([] : List (S33))) (inner := []) (ok := fun _ => True) (okp := fun _ => True) ?hr ?hp (fun _ hk => hk) trivial (Below.refl _ _) (Nat.le_refl _) (by simp) ?_; (case hd => rfl); (case hg => rfl); (case hr => first | (go_simp; done) | (go_simp; rfl)); (case hp => exact (Reps.none _ _)); intro v185 w4 ho5 hb hg_ hnew_; clear hg_ hnew_; (first | rw [← Ny184.out] at ho5 | (simp only [Int.reduceToNat] at ho5; rw [← Ny184.out] at ho5)); have n0_ := Aside0.mk (Kd.S_lower ho5 (below_size (by repeat (first | (with_reducible first | exact HB.out | apply below_alloc | apply pw_below_drewN | apply below_drew1) | exact HB.out)))); have n1_ := Aside0.mk (below_step (by repeat (first | (with_reducible first | exact HB.out | apply below_alloc | apply pw_below_drewN | apply below_drew1) | exact HB.out)) hb); clear HB; have HO186 := n0_; have HB := n1_; clear n0_ n1_; clear hb ho5))
   go_ret
   exact ⟨_, by first | rfl | (simp [errW_none, errW_some] <;> rfl) | (simp [*, errW_none, errW_some] <;> rfl), by (with_reducible repeat (first | apply Kd.S_alloc | apply Kd.S_drewN | apply Kd.S_drew)); exact HO186.out, by repeat (first | (with_reducible first | exact HB.out | apply below_alloc | apply pw_below_drewN | apply below_drew1) | exact HB.out)⟩
 · rw [if_neg c3] at H
   have c3b0 : (a0.toList == ([] : List UInt8)) = false := beq_eq_false_iff_ne.mpr c3
   have c3b1 : (a0.toList != ([] : List UInt8)) = true := bne_iff_ne.mpr c3
   have H' := Aside0.mk H
   clear H
   go_enter Tryd.func12, Tryd.ntmps12
   go_wp2_with (first | ((with_reducible refine gate_dst (N := 10) rfl ?_); refine Kd.S_lit k33 _ 33 ?hg (N := 10) ?hd (xs := ([] : List (S33))) (inner := []) (ok := fun _ => True) (okp := fun _ => True) ?hr ?hp (fun _ hk => hk) trivial (Below.refl _ _) (Nat.le_refl _) (by simp) ?_; (case hd => rfl); (case hg => rfl); (case hr => first | (go_simp; done) | (go_simp; rfl)); (case hp => exact (Reps.none _ _)); intro v185 w6 ho7 hb hg_ hnew_; clear hg_ hnew_; (first | rw [← Ny184.out] at ho7 | (simp only [Int.reduceToNat] at ho7; rw [← Ny184.out] at ho7)); have n0_ := Aside0.mk (Kd.S_lower ho7 (below_size (by repeat (first | (with_reducible first | exact HB.out | apply below_alloc | apply pw_below_drewN | apply below_drew1) | exact HB.out)))); have n1_ := Aside0.mk (below_step (by repeat (first | (with_reducible first | exact HB.out | apply below_alloc | apply pw_below_drewN | apply below_drew1) | exact HB.out)) hb); clear HB; have HO186 := n0_; have HB := n1_; clear n0_ n1_; clear hb ho7))
   go_loopg [5, 6] k (fun kq v5 v6 w' => ∃ (x5_1 : List (S33)) (x6_1 : Int), v6 = .int .i64 x6_1 ∧ Aside0 (spec_Found.l0 kq a0 l1 x5_1 x6_1 = some r) ∧ Aside0 (kq ≤ k) ∧ Aside0 (Kd.S k33 33 w' w.heap.size (fun _ => True) v5 x5_1) ∧ Aside0 (Below w.heap.size w w'))
   case atStart => exact ⟨(y184), (0), (by first | rfl | (simp; done) | (simp [*]; done)), H', ⟨Nat.le_refl _⟩, ⟨by (with_reducible repeat (first | apply Kd.S_alloc | apply Kd.S_drewN | apply Kd.S_drew)); exact HO186.out⟩, ⟨by repeat (first | (with_reducible first | exact HB.out | apply below_alloc | apply pw_below_drewN | apply below_drew1) | exact HB.out)⟩⟩
   case round =>
    clear H'
    try clear c1
    try clear p2
    try clear c3
    try clear c3b0
    try clear c3b1
    obtain ⟨x5_1, x6_1, rfl, HA, HK1, HO_5, HB⟩ := hrel
    cases gk with
    | zero => exact absurd HA.out (by simp [spec_Found.l0])
    | succ k1 =>
     have H := HA.out
     clear HA
     simp only [spec_Found.l0] at H
     by_cases c8 : x6_1 < (l1.length : Int)
     · rw [if_pos c8] at H
       have c8b0 : decide (x6_1 < (l1.length : Int)) = true := decide_eq_true c8
       clear c8
       by_cases c9 : 0 ≤ x6_1
       · rw [if_pos c9] at H
         have c9b0 : decide (0 ≤ x6_1) = true := decide_eq_true c9
         clear c9
         replace H := Option.bind_eq_some_iff.mp H
         obtain ⟨⟨t188, t189, t190⟩, A100, H⟩ := H
         replace H : (if t190 = true then (if x5_1.length < 2513169434916 then (spec_Found.l0 k1 a0 l1 (x5_1 ++ [(⟨rdOf ByteArray.empty l1 x6_1, x6_1, t188, t189⟩ : S33)]) (wrap64 (x6_1 + 1))) else (none)) else (spec_Found.l0 k1 a0 l1 x5_1 (wrap64 (x6_1 + 1)))) = some r := H
         have A10 := Aside0.mk A100
         clear A100
         by_cases c11 : t190 = true
         · subst c11
           have H1 : (if x5_1.length < 2513169434916 then (spec_Found.l0 k1 a0 l1 (x5_1 ++ [(⟨rdOf ByteArray.empty l1 x6_1, x6_1, t188, t189⟩ : S33)]) (wrap64 (x6_1 + 1))) else (none)) = some r := by rw [if_pos rfl] at H; exact H
           clear H
           have H := H1
           clear H1
           by_cases c12 : x5_1.length < 2513169434916
           · rw [if_pos c12] at H
             have LMc12 := Aside0.mk c12
             clear c12
             obtain ⟨y194, hy194⟩ : ∃ y_ : List (S33), y_ = (x5_1 ++ [(⟨rdOf ByteArray.empty l1 x6_1, x6_1, t188, t189⟩ : S33)]) := ⟨_, rfl⟩
             replace H : (spec_Found.l0 k1 a0 l1 y194 (wrap64 (x6_1 + 1))) = some r := by first | (rw [hy194]; with_reducible exact H) | (have H2_ := (Option.bind_some _ _).symm.trans H; rw [hy194]; with_reducible exact H2_) | (have H2_ := (Option.bind_some _ _).symm.trans H; with_reducible exact H2_) | with_reducible exact H | (rw [hy194]; exact H) | exact H
             have Ny194 := Aside0.mk hy194
             clear hy194
             have H' := Aside0.mk H
             clear H
             have p187 : 0 ≤ (x6_1 : Int) := of_decide_eq_true (by first | (with_reducible assumption) | assumption)
             have q187 : x6_1 < (l1.length : Int) := of_decide_eq_true (by first | (with_reducible assumption) | assumption)
             obtain ⟨ad187, e187, hx187_0⟩ := Kd.at_string HR1.out x6_1 p187 q187
             cases e187
             replace hx187_0 := (HB.out.cell (World.block_lt_of_cell? w _ hx187_0)).trans hx187_0
             replace p187 := eq_true p187
             replace q187 := eq_true q187
             go_wp2_with (first | ((with_reducible refine gate_callee (f := 23) rfl ?_); refine goesL_ (some 26) rfl rfl Tryd.func23 (by kernel_rfl) rfl #[.string a0, .string (rdOf ByteArray.empty l1 x6_1)] rfl (by (try simp only [List.map_toArray, List.map_cons, List.map_nil]); first | done | rfl | (simp only [List.length_drop, List.length_take]; rfl)) ?_; (with_reducible refine (spec_Scored.calls k1 a0 (rdOf ByteArray.empty l1 x6_1) t188 t189 true _ (by first | (with_reducible exact HAMB.out) | exact Amb.below HAMB.out (by repeat (first | (with_reducible first | exact HB.out | apply below_alloc | apply pw_below_drewN | apply below_drew1) | exact HB.out)) | exact Amb.below HAMB.out (by repeat (first | (with_reducible first | exact Below.refl _ _ | apply pw_below_drewN | apply below_drew1 | apply below_alloc)))) A10.out).mono ?_); rintro e w13 ⟨v191, rfl, ho0, hb⟩; refine ⟨_, rfl, ?_⟩; have n0_ := Aside0.mk (Kd.S_elder' (by (with_reducible repeat (first | apply Kd.S_alloc | apply Kd.S_drewN | apply Kd.S_drew)); exact HO_5.out) (Kd.R_base ho0) hb); have n1_ := Aside0.mk (Kd.R_lower ho0 (below_size (by repeat (first | (with_reducible first | exact HB.out | apply below_alloc | apply pw_below_drewN | apply below_drew1) | exact HB.out)))); have n2_ := Aside0.mk (below_step (by repeat (first | (with_reducible first | exact HB.out | apply below_alloc | apply pw_below_drewN | apply below_drew1) | exact HB.out)) hb); clear HO_5; clear HB; have HO_5 := n0_; have HO192 := n1_; have HB := n2_; clear n0_ n1_ n2_; (try clear hb); (try clear hb2); (try clear hk); (try clear hi); (try clear ho0); have p193 : 0 ≤ (x6_1 : Int) := of_decide_eq_true (by first | (with_reducible assumption) | assumption); have q193 : x6_1 < (l1.length : Int) := of_decide_eq_true (by first | (with_reducible assumption) | assumption); obtain ⟨ad193, e193, hx193_0⟩ := Kd.at_string HR1.out x6_1 p193 q193; obtain rfl : ad187 = ad193 := (by injection e193); replace hx193_0 := (HB.out.cell (World.block_lt_of_cell? w _ hx193_0)).trans hx193_0; replace p193 := eq_true p193; replace q193 := eq_true q193; obtain ⟨Ao14, co14, eo14⟩ := Kd.R_slice HO192.out; subst eo14) | ((with_reducible refine gate_builtin (b := .append) (xs := #[.tmp 31, .tmp 40]) rfl ?_); at_builtin; refine Kd.S_append k33 (w0 := w) w.heap.size rfl (.tmp 31) (.tmp 40) 26 33 (.agg #[(.string ⟨#[]⟩), (.int .i64 0), (.slice none 0 0), (.int .i64 0)]) 56 rfl Tryd.underlying26 info33 rfl (by decide) (by omega) u5 x5_1 (⟨rdOf ByteArray.empty l1 x6_1, x6_1, t188, t189⟩ : S33) [.string (rdOf ByteArray.empty l1 x6_1), .int .i64 x6_1, .slice Ao14 t188.length co14, .int .i64 t189] (fun _ => True) (fun k_ => some k_ = (.slice Ao14 t188.length co14 : Value).ownBlock) rfl rfl ?aP (fun k_ hk_ => ((Kd.R_mono (ok' := fun k_ => ((fun _ => True)) k_ ∧ some k_ ≠ (u5 : Value).ownBlock) (Kd.R_apart' (HO192.out) (Kd.S_typed HO_5.out) (by decide)) (fun k_ hk => ⟨trivial, hk.2⟩))).1 k_ hk_.symm) ?aF ?aO ?aB ?aS ?aL ?_; (case aP => exact k33_mkM _ _ _ (⟨rdOf ByteArray.empty l1 x6_1, x6_1, t188, t189⟩ : S33) (Kd.R_mono (Kd.R_tight rfl (Kd.R_mono (ok' := fun k_ => ((fun _ => True)) k_ ∧ some k_ ≠ (u5 : Value).ownBlock) (Kd.R_apart' (HO192.out) (Kd.S_typed HO_5.out) (by decide)) (fun k_ hk => ⟨trivial, hk.2⟩))) (fun _ h_ => h_))); (case aB => exact (by repeat (first | (with_reducible first | exact HB.out | apply below_alloc | apply pw_below_drewN | apply below_drew1) | exact HB.out))); (case aF => exact (fun _ _ => trivial)); (case aO => exact (by (with_reducible repeat (first | apply Kd.S_alloc | apply Kd.S_drewN | apply Kd.S_drew)); exact Kd.S_mono HO_5.out (fun k_ hk => ⟨trivial, fun e_ => hk.2 e_⟩))); (case aS => exact (below_size (by repeat (first | (with_reducible first | exact HB.out | apply below_alloc | apply pw_below_drewN | apply below_drew1) | exact HB.out)))); (case aL => have := LMc12.out; omega); intro v195 w15 ho hb hg hat; rw [← Ny194.out] at ho; have n0_ := Aside0.mk (hb); have n1_ := Aside0.mk (ho); clear HB; clear HO_5; clear HO192; have HB := n0_; have HO196 := n1_; clear n0_ n1_; clear ho hb hg hat))
             go_roundg k1
             case measure => have := HK1.out; omega
             case rel => exact ⟨(y194), (wrap64 (x6_1 + 1)), (by first | rfl | (simp; done) | (simp [*]; done)), H', ⟨by have := HK1.out; omega⟩, ⟨by (with_reducible repeat (first | apply Kd.S_alloc | apply Kd.S_drewN | apply Kd.S_drew)); exact HO196.out⟩, ⟨by repeat (first | (with_reducible first | exact HB.out | apply below_alloc | apply pw_below_drewN | apply below_drew1) | exact HB.out)⟩⟩
           · rw [if_neg c12] at H
             exact absurd H (by simp)
         · replace c11 := Bool.eq_false_iff.mpr c11
           subst c11
           have H1 : (spec_Found.l0 k1 a0 l1 x5_1 (wrap64 (x6_1 + 1))) = some r := by rw [if_neg (show ¬ (false = true) by decide)] at H; exact H
           clear H
           have H := H1
           clear H1
           have H' := Aside0.mk H
           clear H
           have p187 : 0 ≤ (x6_1 : Int) := of_decide_eq_true (by first | (with_reducible assumption) | assumption)
           have q187 : x6_1 < (l1.length : Int) := of_decide_eq_true (by first | (with_reducible assumption) | assumption)
           obtain ⟨ad187, e187, hx187_0⟩ := Kd.at_string HR1.out x6_1 p187 q187
           cases e187
           replace hx187_0 := (HB.out.cell (World.block_lt_of_cell? w _ hx187_0)).trans hx187_0
           replace p187 := eq_true p187
           replace q187 := eq_true q187
           go_wp2_with (first | ((with_reducible refine gate_callee (f := 23) rfl ?_); refine goesL_ (some 26) rfl rfl Tryd.func23 (by kernel_rfl) rfl #[.string a0, .string (rdOf ByteArray.empty l1 x6_1)] rfl (by (try simp only [List.map_toArray, List.map_cons, List.map_nil]); first | done | rfl | (simp only [List.length_drop, List.length_take]; rfl)) ?_; (with_reducible refine (spec_Scored.calls k1 a0 (rdOf ByteArray.empty l1 x6_1) t188 t189 false _ (by first | (with_reducible exact HAMB.out) | exact Amb.below HAMB.out (by repeat (first | (with_reducible first | exact HB.out | apply below_alloc | apply pw_below_drewN | apply below_drew1) | exact HB.out)) | exact Amb.below HAMB.out (by repeat (first | (with_reducible first | exact Below.refl _ _ | apply pw_below_drewN | apply below_drew1 | apply below_alloc)))) A10.out).mono ?_); rintro e w16 ⟨v191, rfl, ho0, hb⟩; refine ⟨_, rfl, ?_⟩; have n0_ := Aside0.mk (Kd.S_elder' (by (with_reducible repeat (first | apply Kd.S_alloc | apply Kd.S_drewN | apply Kd.S_drew)); exact HO_5.out) (Kd.R_base ho0) hb); have n1_ := Aside0.mk (Kd.R_lower ho0 (below_size (by repeat (first | (with_reducible first | exact HB.out | apply below_alloc | apply pw_below_drewN | apply below_drew1) | exact HB.out)))); have n2_ := Aside0.mk (below_step (by repeat (first | (with_reducible first | exact HB.out | apply below_alloc | apply pw_below_drewN | apply below_drew1) | exact HB.out)) hb); clear HO_5; clear HB; have HO_5 := n0_; have HO192 := n1_; have HB := n2_; clear n0_ n1_ n2_; (try clear hb); (try clear hb2); (try clear hk); (try clear hi); (try clear ho0)))
           go_roundg k1
           case measure => have := HK1.out; omega
           case rel => exact ⟨(x5_1), (wrap64 (x6_1 + 1)), (by first | rfl | (simp; done) | (simp [*]; done)), H', ⟨by have := HK1.out; omega⟩, ⟨by (with_reducible repeat (first | apply Kd.S_alloc | apply Kd.S_drewN | apply Kd.S_drew)); exact Kd.S_mono HO_5.out (fun _ hk => trivial)⟩, ⟨by repeat (first | (with_reducible first | exact HB.out | apply below_alloc | apply pw_below_drewN | apply below_drew1) | exact HB.out)⟩⟩
       · rw [if_neg c9] at H
         exact absurd H (by simp)
     · rw [if_neg c8] at H
       have c8b0 : decide (x6_1 < (l1.length : Int)) = false := decide_eq_false c8
       clear c8
       obtain rfl := Option.some.inj H
       go_wp2
       go_ret
       exact ⟨_, by first | rfl | (simp [errW_none, errW_some] <;> rfl) | (simp [*, errW_none, errW_some] <;> rfl), by (with_reducible repeat (first | apply Kd.S_alloc | apply Kd.S_drewN | apply Kd.S_drew)); exact HO_5.out, by repeat (first | (with_reducible first | exact HB.out | apply below_alloc | apply pw_below_drewN | apply below_drew1) | exact HB.out)⟩

end Go.Proofs.YtgeimklpcfepaaaDoor.P
