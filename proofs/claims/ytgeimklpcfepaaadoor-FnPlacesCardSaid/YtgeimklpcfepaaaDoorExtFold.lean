/- unicode.SimpleFold, IsLower, IsUpper and isSeparator: their contracts. -/
import Derived.Test.YtgeimklpcfepaaaDoorIter
import Derived.Test.YtgeimklpcfepaaaDoorOrbit
import Derived.Test.YtgeimklpcfepaaaDoorP0
import Derived.Test.YtgeimklpcfepaaaDoorShelf
import Derived.WalkLawsBesides
namespace Go.Proofs.YtgeimklpcfepaaaDoor
open Go.RowKit Go.Lib Go.Proofs.YtgeimklpcfepaaaDoorW.PrintWords
set_option linter.unusedVariables false
set_option linter.unusedSimpArgs false

def unicode_SimpleFold.f (r : Int) : Option Int := if 0 ≤ r ∧ r ≤ 1114111 then some (sfold r) else none
def unicode_IsLower.f (r : Int) : Option Bool := if 0 ≤ r ∧ r ≤ 1114111 then some (isLowerU r) else none
def unicode_IsUpper.f (r : Int) : Option Bool := if 0 ≤ r ∧ r ≤ 1114111 then some (isUpperU r) else none
/-- The separators. -/
def sepS : ByteArray := ⟨#[47, 45, 95, 32, 46, 92]⟩
def sepR (r : Int) : Bool := (strRunes sepS).any (fun x => r == x)
theorem sepS_runes : strRunes sepS = [47, 45, 95, 32, 46, 92] := by decide
def sahilm_isSeparator.f (r : Int) : Option Bool := some (sepR r)

theorem unicode_IsLower.calls (a0 : Int) (r : Bool) (w : World) (hA_ : Amb w) (h : unicode_IsLower.f a0 = some r) :
 Calls Tryd.prog 35 #[.int .i32 a0] w fun e w' => e = .returned (.bool r) ∧ Below w.heap.size w w' := by
 unfold unicode_IsLower.f at h
 split at h
 case isFalse => cases h
 rename_i hr
 obtain rfl := Option.some.inj h
 exact Tryd.unicode_IsLower_all a0 w (by omega) (by omega) hA_.props hA_.lower
theorem unicode_IsUpper.calls (a0 : Int) (r : Bool) (w : World) (hA_ : Amb w) (h : unicode_IsUpper.f a0 = some r) :
 Calls Tryd.prog 36 #[.int .i32 a0] w fun e w' => e = .returned (.bool r) ∧ Below w.heap.size w w' := by
 unfold unicode_IsUpper.f at h
 split at h
 case isFalse => cases h
 rename_i hr
 obtain rfl := Option.some.inj h
 exact Tryd.unicode_IsUpper_all a0 w (by omega) (by omega) hA_.props hA_.upper

theorem conv_calls (a0 : Int) (R oR i c q : Nat) (w : World) (hT : CaseTab R oR caseA w) (hc : c < 3) (hi : lookupIdx caseA a0 (caseA.size + 1) 0 caseA.size = some i) :
 Calls Tryd.prog 42 #[.int .i64 (c : Nat), .int .i32 a0, .pointer (some ⟨R, oR + i * 5, none⟩)] (w.drewN q) fun e w' => e = .returned (.int .i32 (toW caseA c a0)) ∧ ∃ q2, w' = w.drewN q2 := by
 obtain ⟨hil, hlo, hhi⟩ := lookupIdx_some caseA a0 _ _ _ i hi
 have h1 := Tryd.unicode_convertCase c hc a0 R (oR + i * 5) (caseA.getD i (0, 0, 0, 0, 0)) (w.drewN q) hlo hhi (caseA_ok2 i hil).2 (hT i hil).1 (hT.delta i hil c hc)
 have h2 : toW caseA c a0 = wrap32 (convertR c a0 (caseA.getD i (0, 0, 0, 0, 0))) := by unfold toW; rw [hi]
 rw [h2]
 refine h1.mono ?_
 rintro e w' ⟨rfl, q2, rfl⟩
 exact ⟨rfl, q + q2, World.drewN_drewN ..⟩
theorem toW_none (a0 : Int) (c : Nat) (hi : lookupIdx caseA a0 (caseA.size + 1) 0 caseA.size = none) : toW caseA c a0 = a0 := by unfold toW; rw [hi]

set_option maxHeartbeats 4000000 in
set_option maxRecDepth 100000 in
theorem unicode_SimpleFold.calls (a0 : Int) (r : Int) (w : World) (hA_ : Amb w) (h : unicode_SimpleFold.f a0 = some r) :
 Calls Tryd.prog 30 #[.int .i32 a0] w fun e w' => e = .returned (.int .i32 r) ∧ Below w.heap.size w w' := by
 unfold unicode_SimpleFold.f at h
 split at h
 case isFalse => cases h
 rename_i hr
 have h := Option.some.inj h
 obtain ⟨r0, r1⟩ := hr
 have HB := Aside0.mk (Below.refl w.heap.size w)
 by_cases hl : a0 < 128
 · obtain ⟨c, rfl⟩ : ∃ c : Nat, a0 = (c : Int) := ⟨a0.toNat, by omega⟩
   unfold sfold at h
   rw [if_pos hl, Int.toNat_natCast] at h
   have hc := hA_.ascii c (by omega)
   obtain ⟨s0, s1⟩ := ascii_small c (by omega)
   rw [h] at hc s0 s1
   clear h hA_
   have hl2 : (c : Int) < 128 := hl
   go_enter Tryd.func30, Tryd.ntmps30
   go_wp2
   go_ret
   exact ⟨rfl, HB.out⟩
 · obtain ⟨R, oR, cap, hg, ht⟩ := hA_.orbit
   obtain ⟨R2, oR2, cap2, hg2, ht2⟩ := hA_.cases
   unfold sfold at h
   rw [if_neg hl] at h
   clear hA_
   have HT2 := Aside0.mk ht2
   have HG2 := Aside0.mk hg2
   clear ht2 hg2
   have HH := Aside0.mk h
   clear h
   go_enter Tryd.func30, Tryd.ntmps30
   go_wp2
   go_loopg [3, 4] 95 (fun g s3 s4 wx => wx = w ∧ ∃ lo hi : Nat, s3 = .int .i64 lo ∧ s4 = .int .i64 hi ∧ lo ≤ hi ∧ hi ≤ 94 ∧ hi - lo < g ∧ Aside0 (∀ i : Nat, i < lo → (orbitL.getD i (0, 0)).1 < a0) ∧ Aside0 (∀ i : Nat, hi ≤ i → i < 94 → a0 ≤ (orbitL.getD i (0, 0)).1))
   case atStart => exact ⟨rfl, 0, 94, rfl, rfl, by omega, by omega, by omega, ⟨fun i hi => by omega⟩, ⟨fun i h1 h2 => by omega⟩⟩
   case round =>
    obtain ⟨rfl, lo, hi, rfl, rfl, hlh, hhn, hgk, HLO, HHI⟩ := hrel
    by_cases hlt : lo < hi
    · obtain ⟨g', rfl⟩ : ∃ g', gk = g' + 1 := ⟨gk - 1, by omega⟩
      have hz : (lo : Int) < (hi : Int) := by omega
      obtain ⟨m, hm⟩ : ∃ m, (lo + hi) / 2 = m := ⟨_, rfl⟩
      have hmr : lo ≤ m ∧ m < hi := by omega
      have hmz : ((lo : Int) + (hi : Int)) / 2 = (m : Int) := by omega
      obtain ⟨c0, -⟩ := ht m (by omega)
      obtain ⟨⟨o0, o1⟩, -⟩ := orbit_small m (by omega)
      obtain ⟨K, hK⟩ : ∃ K, (orbitL.getD m (0, 0)).1 = K := ⟨_, rfl⟩
      rw [hK] at c0 o0 o1
      have HK := Aside0.mk hK
      have HT := Aside0.mk ht
      clear ht hK
      by_cases hb : K < a0
      · go_wp2
        go_roundg g'
        case measure => omega
        case rel =>
         refine ⟨rfl, m + 1, hi, by first | rfl | simp, rfl, by omega, by omega, by omega, ⟨fun i h1 => ?_⟩, HHI⟩
         have h2 := HK.out
         by_cases e : i = m
         · subst e; omega
         · have := orbit_lt i m (by omega) (by omega); omega
      · go_wp2
        go_roundg g'
        case measure => omega
        case rel =>
         refine ⟨rfl, lo, m, rfl, rfl, by omega, by omega, by omega, HLO, ⟨fun i h1 h2 => ?_⟩⟩
         have h3 := HK.out
         by_cases e : i = m
         · subst e; omega
         · have := orbit_lt m i (by omega) (by omega); omega
    · have hz : ¬ ((lo : Int) < (hi : Int)) := by omega
      obtain rfl : lo = hi := by omega
      have hfin : (∃ h : lo < 94, (orbitL.getD lo (0, 0)).1 = a0) ∨ (∀ i : Nat, i < 94 → (orbitL.getD i (0, 0)).1 ≠ a0) := by
       by_cases h1 : lo < 94
       · by_cases h2 : (orbitL.getD lo (0, 0)).1 = a0
         · exact Or.inl ⟨h1, h2⟩
         · refine Or.inr fun i hi => ?_
           have h3 := HHI.out lo (Nat.le_refl _) h1
           by_cases e : i < lo
           · have := HLO.out i e; omega
           · by_cases e2 : i = lo
             · subst e2; exact h2
             · have := orbit_lt lo i (by omega) hi; omega
       · exact Or.inr fun i hi => by have := HLO.out i (by omega); omega
      rcases hfin with ⟨h1, h2⟩ | hno
      · have h3 := orbOf_at a0 lo h1 h2
        have h4 := HH.out
        rw [h3] at h4
        have h4 : (orbitL.getD lo (0, 0)).2 = r := h4
        obtain ⟨c0, c1⟩ := ht lo h1
        obtain ⟨⟨o0, o1⟩, o2, o3⟩ := orbit_small lo h1
        rw [h2] at c0 o0 o1
        rw [h4] at c1 o2 o3
        have hz2 : (lo : Int) < 94 := by omega
        have hz3 : (0 : Int) ≤ lo := by omega
        have HT := Aside0.mk ht
        clear ht h2 h3 h4 HLO HHI
        go_wp2
        go_ret
        exact ⟨rfl, HB.out⟩
      · have h3 := orbOf_none a0 hno
        have h4 := HH.out
        rw [h3] at h4
        have h4 : (if toW caseA 1 a0 ≠ a0 then toW caseA 1 a0 else toW caseA 0 a0) = r := h4
        have HR := Aside0.mk h4
        have hne : lo < 94 → ∃ K, (orbitL.getD lo (0, 0)).1 = K ∧ 0 ≤ K ∧ K ≤ 65535 ∧ K ≠ a0 ∧ wr.cell? ⟨R, oR + lo * 2, none⟩ = some (.int .u16 K) := fun h => ⟨_, rfl, (orbit_small lo h).1.1, (orbit_small lo h).1.2, hno lo h, (ht lo h).1⟩
        have hL0 := Tryd.unicode_lookupCaseRange caseA R2 oR2 cap2 a0 wr HT2.out caseA_ok2.ok (by rw [caseA_size]; omega)
        have hg2 := HG2.out
        have HCC := Aside0.mk (fun (i c q : Nat) (hc : c < 3) hi => conv_calls a0 R2 oR2 i c q wr HT2.out hc hi)
        have HBD := Aside0.mk (fun q => pw_below_drewN HB.out q)
        clear ht h3 h4 hno HLO HHI HH
        rw [caseA_size] at hg2
        obtain ⟨idx, hidx⟩ : ∃ idx, lookupIdx caseA a0 (caseA.size + 1) 0 caseA.size = idx := ⟨_, rfl⟩
        rw [hidx] at hL0
        rw [caseA_size] at hL0
        cases idx with
        | none =>
         have hr := HR.out
         rw [toW_none a0 1 hidx, toW_none a0 0 hidx, if_neg (by simp)] at hr
         have hL := Aside0.mk hL0
         clear hL0 HR HCC hidx HT2 HG2
         subst hr
         have HBD : Aside0 (∀ q : Nat, Below wr.heap.size wr wr) := ⟨fun _ => HB.out⟩
         by_cases hlo : lo < 94
         · obtain ⟨K, _, k0, k1, k2, kc⟩ := hne hlo
           have hz2 : (lo : Int) < 94 := by omega
           have hz3 : (0 : Int) ≤ lo := by omega
           clear hne
           go_wp2_with (go_at_call 41; refine hL.out.mono ?_; rintro e w' ⟨rfl, rfl⟩)
           go_ret
           exact ⟨rfl, HBD.out 0⟩
         · have hz2 : ¬ (lo : Int) < 94 := by omega
           clear hne
           go_wp2_with (go_at_call 41; refine hL.out.mono ?_; rintro e w' ⟨rfl, rfl⟩)
           go_ret
           exact ⟨rfl, HBD.out 0⟩
        | some i =>
         have c1 := HCC.out i 1 0 (by omega) hidx
         have c0 := fun q => HCC.out i 0 q (by omega) hidx
         have hr := HR.out
         have hL := Aside0.mk hL0
         generalize toW caseA 1 a0 = l1 at c1 hr
         generalize toW caseA 0 a0 = l0 at c0 hr
         have C1 : Aside0 (Calls Tryd.prog 42 #[.int .i64 1, .int .i32 a0, .pointer (some ⟨R2, oR2 + i * 5, none⟩)] wr fun e w' => e = .returned (.int .i32 l1) ∧ ∃ q2, w' = wr.drewN q2) := ⟨c1⟩
         have C0 : Aside0 (∀ q, Calls Tryd.prog 42 #[.int .i64 0, .int .i32 a0, .pointer (some ⟨R2, oR2 + i * 5, none⟩)] (wr.drewN q) fun e w' => e = .returned (.int .i32 l0) ∧ ∃ q2, w' = wr.drewN q2) := ⟨c0⟩
         clear hL0 HR HCC hidx c0 c1 HT2 HG2
         by_cases hl1 : l1 = a0
         · rw [if_neg (by simpa using hl1)] at hr
           subst hr hl1
           by_cases hlo : lo < 94
           · obtain ⟨K, _, k0, k1, k2, kc⟩ := hne hlo
             have hz2 : (lo : Int) < 94 := by omega
             have hz3 : (0 : Int) ≤ lo := by omega
             clear hne
             go_wp2_with (first | (go_at_call 41; refine hL.out.mono ?_; rintro e w' ⟨rfl, rfl⟩) | (go_at_call 42; first | ((with_reducible refine C1.out.mono ?_); rintro e w' ⟨rfl, q1, rfl⟩) | ((with_reducible refine (C0.out _).mono ?_); rintro e w' ⟨rfl, q2, rfl⟩)))
             go_ret
             exact ⟨rfl, HBD.out _⟩
           · have hz2 : ¬ (lo : Int) < 94 := by omega
             clear hne
             go_wp2_with (first | (go_at_call 41; refine hL.out.mono ?_; rintro e w' ⟨rfl, rfl⟩) | (go_at_call 42; first | ((with_reducible refine C1.out.mono ?_); rintro e w' ⟨rfl, q1, rfl⟩) | ((with_reducible refine (C0.out _).mono ?_); rintro e w' ⟨rfl, q2, rfl⟩)))
             go_ret
             exact ⟨rfl, HBD.out _⟩
         · rw [if_pos hl1] at hr
           subst hr
           by_cases hlo : lo < 94
           · obtain ⟨K, _, k0, k1, k2, kc⟩ := hne hlo
             have hz2 : (lo : Int) < 94 := by omega
             have hz3 : (0 : Int) ≤ lo := by omega
             clear hne
             go_wp2_with (first | (go_at_call 41; refine hL.out.mono ?_; rintro e w' ⟨rfl, rfl⟩) | (go_at_call 42; first | ((with_reducible refine C1.out.mono ?_); rintro e w' ⟨rfl, q1, rfl⟩) | ((with_reducible refine (C0.out _).mono ?_); rintro e w' ⟨rfl, q2, rfl⟩)))
             go_ret
             exact ⟨rfl, HBD.out _⟩
           · have hz2 : ¬ (lo : Int) < 94 := by omega
             clear hne
             go_wp2_with (first | (go_at_call 41; refine hL.out.mono ?_; rintro e w' ⟨rfl, rfl⟩) | (go_at_call 42; first | ((with_reducible refine C1.out.mono ?_); rintro e w' ⟨rfl, q1, rfl⟩) | ((with_reducible refine (C0.out _).mono ?_); rintro e w' ⟨rfl, q2, rfl⟩)))
             go_ret
             exact ⟨rfl, HBD.out _⟩

set_option maxHeartbeats 1000000 in
set_option maxRecDepth 100000 in
theorem sahilm_isSeparator.calls (a0 : Int) (r : Bool) (w : World) (h : sahilm_isSeparator.f a0 = some r) :
 Calls Tryd.prog 37 #[.int .i32 a0] w fun e w' => e = .returned (.bool r) ∧ Below w.heap.size w w' := by
 have HR := Aside0.mk (Option.some.inj h)
 clear h
 go_enter Tryd.func37, Tryd.ntmps37
 go_wp2_with fail
 have HI := Aside0.mk (World.iter_heap w sepS 0)
 have HB := Aside0.mk (below_alloc (Below.refl w.heap.size w) (.stringIter sepS 0))
 go_loopw [4] (fun v4 w' => ∃ (pos : Nat), Aside0 (w'.heap[w.heap.size]? = some (.stringIter sepS pos)) ∧ Aside0 (Below w.heap.size w w') ∧ Aside0 (((runesAt sepS pos).any (fun x => a0 == x)) = r)) (fun _ w' => sepS.size - w'.iterPos w.heap.size)
 case atStart => exact ⟨0, HI, HB, ⟨HR.out⟩⟩
 case round =>
  clear HR HI HB
  obtain ⟨pos, HI, HB, HE⟩ := hrel
  by_cases hp : pos < sepS.size
  · have hnx : ∀ ty, (Instr.next (.pointer (some ⟨w.heap.size, 0, none⟩)) true ty).run Tryd.prog wr = _ := fun ty => Lib.run_next_any_at wr w.heap.size sepS pos ty HI.out hp
    have HE1 := HE.out
    rw [runesAt_step sepS pos hp, List.any_cons] at HE1
    have HW := Aside0.mk (Lib.decode_width_pos sepS pos hp)
    have HI1 := Aside0.mk (Lib.iterAt_heap wr w.heap.size sepS pos (pos + (Utf8.decode sepS pos).2) HI.out)
    have HB1 := Aside0.mk (Lib.below_iterAt HB.out (Nat.le_refl _) sepS (pos + (Utf8.decode sepS pos).2))
    by_cases hc : (a0 == ((Utf8.decode sepS pos).1 : Int)) = true
    · have HR1 : Aside0 (r = true) := ⟨by rw [← HE1, hc, Bool.true_or]⟩
      clear HE1
      go_wp2
      go_ret
      exact ⟨by rw [HR1.out]; rfl, HB1.out⟩
    · replace hc := Bool.eq_false_iff.mpr hc
      have HE2 : Aside0 (((runesAt sepS (pos + (Utf8.decode sepS pos).2)).any (fun x => a0 == x)) = r) := ⟨by rw [← HE1, hc, Bool.false_or]⟩
      clear HE1
      go_wp2
      go_roundw
      case rel => exact ⟨pos + (Utf8.decode sepS pos).2, HI1, HB1, HE2⟩
      case measure =>
       have h1 : ∀ W : World, W.heap[w.heap.size]? = some (.stringIter sepS (pos + (Utf8.decode sepS pos).2)) → W.iterPos w.heap.size = pos + (Utf8.decode sepS pos).2 := fun W hW => by simp [World.iterPos, hW]
       have h2 : wr.iterPos w.heap.size = pos := by have := HI.out; simp [World.iterPos, this]
       rw [h1 _ HI1.out, h2]
       have := HW.out
       omega
  · have hnx : ∀ ty, (Instr.next (.pointer (some ⟨w.heap.size, 0, none⟩)) true ty).run Tryd.prog wr = _ := fun ty => Lib.run_next_end_at wr w.heap.size sepS pos ty HI.out hp
    have HE2 := HE.out
    rw [runesAt_end sepS pos hp, List.any_nil] at HE2
    have HE3 := Aside0.mk HE2
    clear HE2
    go_wp2
    go_ret
    exact ⟨by rw [← HE3.out]; rfl, HB.out⟩
end Go.Proofs.YtgeimklpcfepaaaDoor
