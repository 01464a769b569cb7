/- spec.runesOf by hand: it hands back the runes of a text, made small where it is folded. -/
import Derived.Test.YtfkemfkleceeiaaDoorIter
import Derived.Test.YtfkemfkleceeiaaDoorP0
import Derived.Test.YtfkemfkleceeiaaDoorShelf
namespace Go.Proofs.YtfkemfkleceeiaaDoor
open Go.RowKit Go.Proofs.YtfkemfkleceeiaaDoorW.PrintWords
set_option linter.unusedVariables false
set_option linter.unusedSimpArgs false

theorem info21 : (Tryd.prog.info? 21).map (fun i => (i.zero, i.size, i.bytes)) = some (some (.int .i32 0), 1, 4) := by kernel_rfl
def foldIf (b : Bool) (r : Int) : Int := if b then Lib.toLowerU r else r
def spec_runesOf.f (a0 : ByteArray) (a1 : Bool) : Option (List Int) := if a0.size ≤ 1073741824 then some ((strRunes a0).map (foldIf a1)) else none

set_option maxHeartbeats 1000000 in
set_option maxRecDepth 100000 in
theorem spec_runesOf.calls (a0 : ByteArray) (a1 : Bool) (r : List Int) (w : World) (hA_ : Amb w) (h : spec_runesOf.f a0 a1 = some r) :
    Calls Tryd.prog 29 #[.string a0, .bool a1] w fun e w' => ∃ v0_ : Value, e = .returned (v0_) ∧ Kd.R (Kd.int .i32) 21 w' w.heap.size (fun _ => True) v0_ r ∧ Below w.heap.size w w' := by
  unfold spec_runesOf.f at h
  split at h
  case isFalse => cases h
  case isTrue hsz =>
  have HR := Aside0.mk (Option.some.inj h)
  clear h
  have HAMB := Aside0.mk hA_
  clear hA_
  have HSZ := Aside0.mk hsz
  clear hsz
  have HB := Aside0.mk (Below.refl w.heap.size w)
  go_enter Tryd.func29, Tryd.ntmps29
  go_wp2_with (first | ((with_reducible refine gate_dst (N := 8) rfl ?_); refine Kd.R_lit (Kd.int .i32) _ 21 ?hg (N := 8) ?hd (xs := ([] : List Int)) (inner := []) (ok := fun _ => True) (okp := fun _ => True) ?hr ?hp (fun _ hk => hk) trivial (Below.refl _ _) (Nat.le_refl _) (by simp) ?_; (case hd => rfl); (case hg => rfl); (case hr => first | (go_simp; done) | (go_simp; rfl)); (case hp => exact (Reps.none _ _)); intro v124 w2 ho3 hb hg_ hnew_; clear hg_ hnew_; have HO := Aside0.mk (Kd.R_lower ho3 (Nat.le_refl _)); clear HB; have HB := Aside0.mk hb; clear hb ho3))
  have HL : Aside0 (r.length ≤ 1073741824) := ⟨by rw [← HR.out, List.length_map]; exact Nat.le_trans (strRunes_length a0) HSZ.out⟩
  have HI := Aside0.mk (World.iter_heap w2 a0 0)
  have HZ : Aside0 (w.heap.size ≤ w2.heap.size) := ⟨below_size HB.out⟩
  have HO' := Aside0.mk (Kd.R_alloc HO.out (.stringIter a0 0))
  have HB' := Aside0.mk (below_alloc HB.out (.stringIter a0 0))
  clear HO HB
  go_loopw [5] (fun v5 w' => ∃ (pos : Nat) (acc : List Int), Aside0 (w'.heap[w2.heap.size]? = some (.stringIter a0 pos)) ∧ Aside0 (Kd.R (Kd.int .i32) 21 w' w.heap.size (fun _ => True) v5 acc) ∧ Aside0 (Below w.heap.size w w') ∧ Aside0 (acc ++ (runesAt a0 pos).map (foldIf a1) = r)) (fun _ w' => a0.size - w'.iterPos w2.heap.size)
  case atStart => exact ⟨0, [], HI, HO', HB', ⟨by simpa [strRunes_at] using HR.out⟩⟩
  case round =>
    clear HR HI HO' HB'
    obtain ⟨pos, acc, HI, HO, HB, HE⟩ := hrel
    by_cases hp : pos < a0.size
    · have hnx : ∀ ty, (Instr.next (.pointer (some ⟨w2.heap.size, 0, none⟩)) true ty).run Tryd.prog wr = _ := fun ty => Lib.run_next_any_at wr w2.heap.size a0 pos ty HI.out hp
      have HE1 := HE.out
      rw [runesAt_step a0 pos hp, List.map_cons] at HE1
      have HN : Aside0 (acc.length + 1 ≤ 1073741824) := ⟨by have := congrArg List.length HE1; simp at this; have := HL.out; omega⟩
      have HW := Aside0.mk (Lib.decode_width_pos a0 pos hp)
      have HI1 := Aside0.mk (Lib.iterAt_heap wr w2.heap.size a0 pos (pos + (Utf8.decode a0 pos).2) HI.out)
      have HO1 := Aside0.mk (Kd.R_iterAt HO.out HI.out (pos + (Utf8.decode a0 pos).2))
      have HB1 := Aside0.mk (Lib.below_iterAt HB.out HZ.out a0 (pos + (Utf8.decode a0 pos).2))
      have HAMB1 : Aside0 (Amb (wr.iterAt w2.heap.size a0 (pos + (Utf8.decode a0 pos).2))) := ⟨Amb.below HAMB.out HB1.out⟩
      cases a1
      · have HE2 : Aside0 ((acc ++ [((Utf8.decode a0 pos).1 : Int)]) ++ (runesAt a0 (pos + (Utf8.decode a0 pos).2)).map (foldIf false) = r) := ⟨by rw [List.append_assoc]; exact HE1⟩
        clear HE1
        go_wp2_with (first | ((with_reducible refine gate_builtin (b := .append) (xs := #[.tmp 17, .tmp 19]) rfl ?_); at_builtin; refine Kd.R_append (Kd.int .i32) (w0 := w) w.heap.size rfl (.tmp 17) (.tmp 19) 42 21 (.int .i32 0) 4 rfl Tryd.underlying42 info21 rfl (by decide) (by omega) u5 acc (((Utf8.decode a0 pos).1 : Int)) [.int .i32 (((Utf8.decode a0 pos).1 : Int))] (fun _ => True) (fun _ => False) rfl rfl ?aP (fun _ hk => hk.elim) ?aF ?aO ?aB ?aS ?aL ?_; (case aP => exact rfl); (case aF => exact fun _ _ => trivial); (case aO => (with_reducible repeat (first | apply Kd.R_alloc | apply Kd.R_drewN | apply Kd.R_drew)); exact HO1.out); (case aB => exact (by repeat (first | (with_reducible first | exact HB1.out | apply below_alloc | apply pw_below_drewN | apply below_drew1) | exact HB1.out))); (case aS => exact below_size (by repeat (first | (with_reducible first | exact HB1.out | apply below_alloc | apply pw_below_drewN | apply below_drew1) | exact HB1.out))); (case aL => have := HN.out; omega); intro v6 w6 ho hb hg hat; have HO2 := Aside0.mk ho; have HB2 := Aside0.mk hb; have HI2 := Aside0.mk (iter_grown (e := 21) (base := w.heap.size) (ok := fun _ => True) (by (with_reducible repeat (first | apply Kd.R_alloc | apply Kd.R_drewN | apply Kd.R_drew)); exact HO1.out) (by first | exact HI1.out | exact iter_below HI1.out (by repeat (first | exact Below.refl _ _ | apply below_alloc | apply pw_below_drewN | apply below_drew1))) hg); clear ho hb hg hat))
        go_roundw
        case rel => exact ⟨pos + (Utf8.decode a0 pos).2, acc ++ [((Utf8.decode a0 pos).1 : Int)], HI2, HO2, HB2, HE2⟩
        case measure =>
          have h1 : ∀ W : World, W.heap[w2.heap.size]? = some (.stringIter a0 (pos + (Utf8.decode a0 pos).2)) → W.iterPos w2.heap.size = pos + (Utf8.decode a0 pos).2 := fun W hW => by simp [World.iterPos, hW]
          have h2 : wr.iterPos w2.heap.size = pos := by have := HI.out; simp [World.iterPos, this]
          rw [h1 _ HI2.out, h2]
          have := HW.out
          omega
      · have HE2 : Aside0 ((acc ++ [Lib.toLowerU ((Utf8.decode a0 pos).1 : Int)]) ++ (runesAt a0 (pos + (Utf8.decode a0 pos).2)).map (foldIf true) = r) := ⟨by rw [List.append_assoc]; exact HE1⟩
        clear HE1
        go_wp2_with (first | (go_at_call 43; refine (Tryd.unicode_ToLower_laid _ _ HAMB1.out).mono ?_; rintro e w' ⟨rfl, q, rfl⟩) | ((with_reducible refine gate_builtin (b := .append) (xs := #[.tmp 17, .tmp 19]) rfl ?_); at_builtin; refine Kd.R_append (Kd.int .i32) (w0 := w) w.heap.size rfl (.tmp 17) (.tmp 19) 42 21 (.int .i32 0) 4 rfl Tryd.underlying42 info21 rfl (by decide) (by omega) u5 acc (Lib.toLowerU ((Utf8.decode a0 pos).1 : Int)) [.int .i32 (Lib.toLowerU ((Utf8.decode a0 pos).1 : Int))] (fun _ => True) (fun _ => False) rfl rfl ?aP (fun _ hk => hk.elim) ?aF ?aO ?aB ?aS ?aL ?_; (case aP => exact rfl); (case aF => exact fun _ _ => trivial); (case aO => (with_reducible repeat (first | apply Kd.R_alloc | apply Kd.R_drewN | apply Kd.R_drew)); exact HO1.out); (case aB => exact (by repeat (first | (with_reducible first | exact HB1.out | apply below_alloc | apply pw_below_drewN | apply below_drew1) | exact HB1.out))); (case aS => exact below_size (by repeat (first | (with_reducible first | exact HB1.out | apply below_alloc | apply pw_below_drewN | apply below_drew1) | exact HB1.out))); (case aL => have := HN.out; omega); intro v6 w6 ho hb hg hat; have HO2 := Aside0.mk ho; have HB2 := Aside0.mk hb; have HI2 := Aside0.mk (iter_grown (e := 21) (base := w.heap.size) (ok := fun _ => True) (by (with_reducible repeat (first | apply Kd.R_alloc | apply Kd.R_drewN | apply Kd.R_drew)); exact HO1.out) (by first | exact HI1.out | exact iter_below HI1.out (by repeat (first | exact Below.refl _ _ | apply below_alloc | apply pw_below_drewN | apply below_drew1))) hg); clear ho hb hg hat))
        go_roundw
        case rel => exact ⟨pos + (Utf8.decode a0 pos).2, acc ++ [Lib.toLowerU ((Utf8.decode a0 pos).1 : Int)], HI2, HO2, HB2, HE2⟩
        case measure =>
          have h1 : ∀ W : World, W.heap[w2.heap.size]? = some (.stringIter a0 (pos + (Utf8.decode a0 pos).2)) → W.iterPos w2.heap.size = pos + (Utf8.decode a0 pos).2 := fun W hW => by simp [World.iterPos, hW]
          have h2 : wr.iterPos w2.heap.size = pos := by have := HI.out; simp [World.iterPos, this]
          rw [h1 _ HI2.out, h2]
          have := HW.out
          omega
    · have hnx : ∀ ty, (Instr.next (.pointer (some ⟨w2.heap.size, 0, none⟩)) true ty).run Tryd.prog wr = _ := fun ty => Lib.run_next_end_at wr w2.heap.size a0 pos ty HI.out hp
      have HE2 := HE.out
      rw [runesAt_end a0 pos hp, List.map_nil, List.append_nil] at HE2
      subst HE2
      go_wp2
      go_ret
      exact ⟨_, rfl, HO.out, HB.out⟩
end Go.Proofs.YtfkemfkleceeiaaDoor
