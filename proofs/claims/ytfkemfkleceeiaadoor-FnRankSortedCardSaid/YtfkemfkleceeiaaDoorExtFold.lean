/- fuzzysearch.stringTransform by hand: a text as it is, or with its letters made small, rune by rune. -/
import Derived.Test.YtfkemfkleceeiaaDoorIter
import Derived.Test.YtfkemfkleceeiaaDoorP0
import Derived.Test.YtfkemfkleceeiaaDoorShelf
import Derived.Laws.Cover4
import Derived.WalkLawsBesides
namespace Go.Proofs.YtfkemfkleceeiaaDoor
open Go.RowKit Go.Proofs.YtfkemfkleceeiaaDoorW.PrintWords
set_option linter.unusedVariables false
set_option linter.unusedSimpArgs false

/-- A text, folded. -/
def foldStr (s : ByteArray) : ByteArray := runesBytes ((strRunes s).map Lib.toLowerU)
def fuzzysearch_stringTransform.f (a0 : ByteArray) (a1 : Bool) : Option ByteArray := if a1 = false then some a0 else if a0.size ≤ 1073741824 then some (foldStr a0) else none
theorem runesBytes_snoc (l : List Int) (x : Int) : runesBytes (l ++ [x]) = runesBytes l ++ Utf8.encode x := by simp [runesBytes, List.foldl_append]
theorem runesBytes_size (l : List Int) : (runesBytes l).size ≤ 4 * l.length := by
  have := foldl_size_le l ByteArray.empty
  simpa [runesBytes] using this

set_option maxHeartbeats 1000000 in
set_option maxRecDepth 100000 in
theorem fuzzysearch_stringTransform.calls (a0 : ByteArray) (a1 : Bool) (r : ByteArray) (w : World) (hA_ : Amb w) (h : fuzzysearch_stringTransform.f a0 a1 = some r) :
    Calls Tryd.prog 55 #[.string a0, .bool a1] w fun e w' => e = .returned (.string r) ∧ Below w.heap.size w w' := by
  unfold fuzzysearch_stringTransform.f at h
  cases a1
  · rw [if_pos rfl] at h
    obtain rfl := Option.some.inj h
    clear h
    have HB := Aside0.mk (Below.refl w.heap.size w)
    go_enter Tryd.func55, Tryd.ntmps55
    go_wp2
    go_ret
    exact ⟨rfl, HB.out⟩
  · rw [if_neg (by decide)] at h
    split at h
    case isFalse => cases h
    case isTrue hsz =>
    have HR := Aside0.mk (Option.some.inj h)
    have HSZ := Aside0.mk hsz
    have HAMB := Aside0.mk hA_
    clear hA_ h hsz
    go_enter Tryd.func55, Tryd.ntmps55
    go_wp2_with fail
    have HI := Aside0.mk (World.iter_heap w a0 0)
    have HB := Aside0.mk (below_alloc (Below.refl w.heap.size w) (.stringIter a0 0))
    have HL := Aside0.mk (strRunes_length a0)
    go_loopw [4] (fun v4 w' => ∃ (pos : Nat) (acc : ByteArray) (l : List Int), v4 = .string acc ∧ Aside0 (w'.heap[w.heap.size]? = some (.stringIter a0 pos)) ∧ Aside0 (Below w.heap.size w w') ∧ Aside0 (acc = runesBytes l) ∧ Aside0 (l ++ (runesAt a0 pos).map Lib.toLowerU = (strRunes a0).map Lib.toLowerU)) (fun _ w' => a0.size - w'.iterPos w.heap.size)
    case atStart => exact ⟨0, ⟨#[]⟩, [], rfl, HI, HB, ⟨rfl⟩, ⟨rfl⟩⟩
    case round =>
      clear HI HB
      obtain ⟨pos, acc, l, rfl, HI, HB, HC, HE⟩ := hrel
      by_cases hp : pos < a0.size
      · have hnx : ∀ ty, (Instr.next (.pointer (some ⟨w.heap.size, 0, none⟩)) true ty).run Tryd.prog wr = _ := fun ty => Lib.run_next_any_at wr w.heap.size a0 pos ty HI.out hp
        have HE1 := HE.out
        rw [runesAt_step a0 pos hp, List.map_cons] at HE1
        have HW := Aside0.mk (Lib.decode_width_pos a0 pos hp)
        have HI1 := Aside0.mk (Lib.iterAt_heap wr w.heap.size a0 pos (pos + (Utf8.decode a0 pos).2) HI.out)
        have HB1 := Aside0.mk (Lib.below_iterAt HB.out (Nat.le_refl _) a0 (pos + (Utf8.decode a0 pos).2))
        have HAMB1 : Aside0 (Amb (wr.iterAt w.heap.size a0 (pos + (Utf8.decode a0 pos).2))) := ⟨Amb.below HAMB.out HB1.out⟩
        have HE2 : Aside0 ((l ++ [Lib.toLowerU ((Utf8.decode a0 pos).1 : Int)]) ++ (runesAt a0 (pos + (Utf8.decode a0 pos).2)).map Lib.toLowerU = (strRunes a0).map Lib.toLowerU) := ⟨by rw [List.append_assoc]; exact HE1⟩
        have HC2 : Aside0 (acc ++ Utf8.encode (Lib.toLowerU ((Utf8.decode a0 pos).1 : Int)) = runesBytes (l ++ [Lib.toLowerU ((Utf8.decode a0 pos).1 : Int)])) := ⟨by rw [runesBytes_snoc, HC.out]⟩
        have hs : acc.size + (Utf8.encode (Lib.toLowerU ((Utf8.decode a0 pos).1 : Int))).size ≤ 9223372036854775807 := by
          have h1 := encode_size_le (Lib.toLowerU ((Utf8.decode a0 pos).1 : Int))
          have h2 := runesBytes_size l
          rw [← HC.out] at h2
          have h3 := congrArg List.length HE1
          simp at h3
          have := HL.out
          have := HSZ.out
          omega
        clear HE1
        go_wp2_with (first | (go_at_call 43; refine (Tryd.unicode_ToLower_laid _ _ HAMB1.out).mono ?_; rintro e w' ⟨rfl, q, rfl⟩))
        go_roundw
        case rel => exact ⟨pos + (Utf8.decode a0 pos).2, _, l ++ [Lib.toLowerU ((Utf8.decode a0 pos).1 : Int)], rfl, HI1, ⟨pw_below_drewN HB1.out _⟩, HC2, HE2⟩
        case measure =>
          have h1 : ∀ W : World, W.heap[w.heap.size]? = some (.stringIter a0 (pos + (Utf8.decode a0 pos).2)) → W.iterPos w.heap.size = pos + (Utf8.decode a0 pos).2 := fun W hW => by simp [World.iterPos, hW]
          have h2 : wr.iterPos w.heap.size = pos := by have := HI.out; simp [World.iterPos, this]
          have h3 := h1 ((wr.iterAt w.heap.size a0 (pos + (Utf8.decode a0 pos).2)).drewN q) HI1.out
          rw [h3, h2]
          have := HW.out
          omega
      · have hnx : ∀ ty, (Instr.next (.pointer (some ⟨w.heap.size, 0, none⟩)) true ty).run Tryd.prog wr = _ := fun ty => Lib.run_next_end_at wr w.heap.size a0 pos ty HI.out hp
        have HE2 := HE.out
        rw [runesAt_end a0 pos hp, List.map_nil, List.append_nil] at HE2
        have HF : Aside0 (acc = r) := ⟨by rw [HC.out, HE2]; exact HR.out⟩
        clear HE2
        go_wp2
        go_ret
        exact ⟨by rw [← HF.out]; rfl, HB.out⟩
end Go.Proofs.YtfkemfkleceeiaaDoor
namespace Go.Proofs.YtfkemfkleceeiaaDoor
open Go.RowKit Go.Proofs.YtfkemfkleceeiaaDoorW.PrintWords
set_option linter.unusedVariables false
set_option linter.unusedSimpArgs false

/-- A text of at most 60 bytes, without U+FFFD and bytes that are no text. -/
def plainB (s : ByteArray) : Bool := (strRunes s).all (fun x => x != 65533) && decide (s.size ≤ 60)
def spec_Plain.f (a0 : ByteArray) : Option Bool := some (plainB a0)
def impl_isText.f (a0 : ByteArray) : Option Bool := some (plainB a0)

set_option maxHeartbeats 1000000 in
set_option maxRecDepth 100000 in
theorem spec_Plain.calls (a0 : ByteArray) (r : Bool) (w : World) (h : spec_Plain.f a0 = some r) :
    Calls Tryd.prog 30 #[.string a0] w fun e w' => e = .returned (.bool r) ∧ Below w.heap.size w w' := by
  have HR := Aside0.mk (Option.some.inj h)
  clear h
  go_enter Tryd.func30, Tryd.ntmps30
  go_wp2_with fail
  have HI := Aside0.mk (World.iter_heap w a0 0)
  have HB := Aside0.mk (below_alloc (Below.refl w.heap.size w) (.stringIter a0 0))
  go_loopw [4] (fun v4 w' => ∃ (pos : Nat), Aside0 (w'.heap[w.heap.size]? = some (.stringIter a0 pos)) ∧ Aside0 (Below w.heap.size w w') ∧ Aside0 (((runesAt a0 pos).all (fun x => x != 65533) && decide (a0.size ≤ 60)) = r)) (fun _ w' => a0.size - w'.iterPos w.heap.size)
  case atStart => exact ⟨0, HI, HB, ⟨HR.out⟩⟩
  case round =>
    clear HR HI HB
    obtain ⟨pos, HI, HB, HE⟩ := hrel
    by_cases hp : pos < a0.size
    · have hnx : ∀ ty, (Instr.next (.pointer (some ⟨w.heap.size, 0, none⟩)) true ty).run Tryd.prog wr = _ := fun ty => Lib.run_next_any_at wr w.heap.size a0 pos ty HI.out hp
      have HE1 := HE.out
      rw [runesAt_step a0 pos hp, List.all_cons] at HE1
      have HW := Aside0.mk (Lib.decode_width_pos a0 pos hp)
      have HI1 := Aside0.mk (Lib.iterAt_heap wr w.heap.size a0 pos (pos + (Utf8.decode a0 pos).2) HI.out)
      have HB1 := Aside0.mk (Lib.below_iterAt HB.out (Nat.le_refl _) a0 (pos + (Utf8.decode a0 pos).2))
      by_cases hc : (((Utf8.decode a0 pos).1 : Int) == 65533) = true
      · have HR1 : Aside0 (r = false) := ⟨by rw [← HE1]; have := beq_iff_eq.1 hc; simp [this]⟩
        clear HE1
        go_wp2
        go_ret
        exact ⟨by rw [HR1.out]; rfl, HB1.out⟩
      · replace hc := Bool.eq_false_iff.mpr hc
        have HE2 : Aside0 (((runesAt a0 (pos + (Utf8.decode a0 pos).2)).all (fun x => x != 65533) && decide (a0.size ≤ 60)) = r) := ⟨by
          rw [← HE1]
          have : (((Utf8.decode a0 pos).1 : Int) != 65533) = true := bne_iff_ne.2 (beq_eq_false_iff_ne.1 hc)
          rw [this, Bool.true_and]⟩
        clear HE1
        go_wp2
        go_roundw
        case rel => exact ⟨pos + (Utf8.decode a0 pos).2, HI1, HB1, HE2⟩
        case measure =>
          have h1 : ∀ W : World, W.heap[w.heap.size]? = some (.stringIter a0 (pos + (Utf8.decode a0 pos).2)) → W.iterPos w.heap.size = pos + (Utf8.decode a0 pos).2 := fun W hW => by simp [World.iterPos, hW]
          have h2 : wr.iterPos w.heap.size = pos := by have := HI.out; simp [World.iterPos, this]
          rw [h1 _ HI1.out, h2]
          have := HW.out
          omega
    · have hnx : ∀ ty, (Instr.next (.pointer (some ⟨w.heap.size, 0, none⟩)) true ty).run Tryd.prog wr = _ := fun ty => Lib.run_next_end_at wr w.heap.size a0 pos ty HI.out hp
      have HE2 := HE.out
      rw [runesAt_end a0 pos hp, List.all_nil, Bool.true_and] at HE2
      have HE3 := Aside0.mk HE2
      clear HE2
      go_wp2
      go_ret
      exact ⟨by rw [← HE3.out]; first | rfl | (congr 2; simp; omega) | simp, HB.out⟩

set_option maxHeartbeats 1000000 in
set_option maxRecDepth 100000 in
theorem impl_isText.calls (a0 : ByteArray) (r : Bool) (w : World) (h : impl_isText.f a0 = some r) :
    Calls Tryd.prog 44 #[.string a0] w fun e w' => e = .returned (.bool r) ∧ Below w.heap.size w w' := by
  have HR := Aside0.mk (Option.some.inj h)
  clear h
  go_enter Tryd.func44, Tryd.ntmps44
  go_wp2_with fail
  have HI := Aside0.mk (World.iter_heap w a0 0)
  have HB := Aside0.mk (below_alloc (Below.refl w.heap.size w) (.stringIter a0 0))
  go_loopw [4] (fun v4 w' => ∃ (pos : Nat), Aside0 (w'.heap[w.heap.size]? = some (.stringIter a0 pos)) ∧ Aside0 (Below w.heap.size w w') ∧ Aside0 (((runesAt a0 pos).all (fun x => x != 65533) && decide (a0.size ≤ 60)) = r)) (fun _ w' => a0.size - w'.iterPos w.heap.size)
  case atStart => exact ⟨0, HI, HB, ⟨HR.out⟩⟩
  case round =>
    clear HR HI HB
    obtain ⟨pos, HI, HB, HE⟩ := hrel
    by_cases hp : pos < a0.size
    · have hnx : ∀ ty, (Instr.next (.pointer (some ⟨w.heap.size, 0, none⟩)) true ty).run Tryd.prog wr = _ := fun ty => Lib.run_next_any_at wr w.heap.size a0 pos ty HI.out hp
      have HE1 := HE.out
      rw [runesAt_step a0 pos hp, List.all_cons] at HE1
      have HW := Aside0.mk (Lib.decode_width_pos a0 pos hp)
      have HI1 := Aside0.mk (Lib.iterAt_heap wr w.heap.size a0 pos (pos + (Utf8.decode a0 pos).2) HI.out)
      have HB1 := Aside0.mk (Lib.below_iterAt HB.out (Nat.le_refl _) a0 (pos + (Utf8.decode a0 pos).2))
      by_cases hc : (((Utf8.decode a0 pos).1 : Int) == 65533) = true
      · have HR1 : Aside0 (r = false) := ⟨by rw [← HE1]; have := beq_iff_eq.1 hc; simp [this]⟩
        clear HE1
        go_wp2
        go_ret
        exact ⟨by rw [HR1.out]; rfl, HB1.out⟩
      · replace hc := Bool.eq_false_iff.mpr hc
        have HE2 : Aside0 (((runesAt a0 (pos + (Utf8.decode a0 pos).2)).all (fun x => x != 65533) && decide (a0.size ≤ 60)) = r) := ⟨by
          rw [← HE1]
          have : (((Utf8.decode a0 pos).1 : Int) != 65533) = true := bne_iff_ne.2 (beq_eq_false_iff_ne.1 hc)
          rw [this, Bool.true_and]⟩
        clear HE1
        go_wp2
        go_roundw
        case rel => exact ⟨pos + (Utf8.decode a0 pos).2, HI1, HB1, HE2⟩
        case measure =>
          have h1 : ∀ W : World, W.heap[w.heap.size]? = some (.stringIter a0 (pos + (Utf8.decode a0 pos).2)) → W.iterPos w.heap.size = pos + (Utf8.decode a0 pos).2 := fun W hW => by simp [World.iterPos, hW]
          have h2 : wr.iterPos w.heap.size = pos := by have := HI.out; simp [World.iterPos, this]
          rw [h1 _ HI1.out, h2]
          have := HW.out
          omega
    · have hnx : ∀ ty, (Instr.next (.pointer (some ⟨w.heap.size, 0, none⟩)) true ty).run Tryd.prog wr = _ := fun ty => Lib.run_next_end_at wr w.heap.size a0 pos ty HI.out hp
      have HE2 := HE.out
      rw [runesAt_end a0 pos hp, List.all_nil, Bool.true_and] at HE2
      have HE3 := Aside0.mk HE2
      clear HE2
      go_wp2
      go_ret
      exact ⟨by rw [← HE3.out]; first | rfl | (congr 2; simp; omega) | simp, HB.out⟩
end Go.Proofs.YtfkemfkleceeiaaDoor
namespace Go.Proofs.YtfkemfkleceeiaaDoor
open Go.RowKit Go.Proofs.YtfkemfkleceeiaaDoorW.PrintWords
set_option linter.unusedVariables false
set_option linter.unusedSimpArgs false

theorem info21 : (Tryd.prog.info? 21).map (fun i => (i.zero, i.size, i.bytes)) = some (some (.int .i32 0), 1, 4) := by kernel_rfl
def foldIf (b : Bool) (r : Int) : Int := if b then Lib.toLowerU r else r
def spec_runesOf.f (a0 : ByteArray) (a1 : Bool) : Option (List Int) := if a0.size ≤ 1073741824 then some ((strRunes a0).map (foldIf a1)) else none

set_option maxHeartbeats 1000000 in
set_option maxRecDepth 100000 in
theorem spec_runesOf.calls (a0 : ByteArray) (a1 : Bool) (r : List Int) (w : World) (hA_ : Amb w) (h : spec_runesOf.f a0 a1 = some r) :
    Calls Tryd.prog 29 #[.string a0, .bool a1] w fun e w' => ∃ v0_ : Value, e = .returned (v0_) ∧ Kd.R (Kd.int .i32) 21 w' w.heap.size (fun _ => True) v0_ r ∧ Below w.heap.size w w' := by
  unfold spec_runesOf.f at h
  split at h
  case isFalse => cases h
  case isTrue hsz =>
  have HR := Aside0.mk (Option.some.inj h)
  clear h
  have HAMB := Aside0.mk hA_
  clear hA_
  have HSZ := Aside0.mk hsz
  clear hsz
  have HB := Aside0.mk (Below.refl w.heap.size w)
  go_enter Tryd.func29, Tryd.ntmps29
  go_wp2_with (first | ((with_reducible refine gate_dst (N := 8) rfl ?_); refine Kd.R_lit (Kd.int .i32) _ 21 ?hg (N := 8) ?hd (xs := ([] : List Int)) (inner := []) (ok := fun _ => True) (okp := fun _ => True) ?hr ?hp (fun _ hk => hk) trivial (Below.refl _ _) (Nat.le_refl _) (by simp) ?_; (case hd => rfl); (case hg => rfl); (case hr => first | (go_simp; done) | (go_simp; rfl)); (case hp => exact (Reps.none _ _)); intro v124 w2 ho3 hb hg_ hnew_; clear hg_ hnew_; have HO := Aside0.mk (Kd.R_lower ho3 (Nat.le_refl _)); clear HB; have HB := Aside0.mk hb; clear hb ho3))
  have HL : Aside0 (r.length ≤ 1073741824) := ⟨by rw [← HR.out, List.length_map]; exact Nat.le_trans (strRunes_length a0) HSZ.out⟩
  have HI := Aside0.mk (World.iter_heap w2 a0 0)
  have HZ : Aside0 (w.heap.size ≤ w2.heap.size) := ⟨below_size HB.out⟩
  have HO' := Aside0.mk (Kd.R_alloc HO.out (.stringIter a0 0))
  have HB' := Aside0.mk (below_alloc HB.out (.stringIter a0 0))
  clear HO HB
  go_loopw [5] (fun v5 w' => ∃ (pos : Nat) (acc : List Int), Aside0 (w'.heap[w2.heap.size]? = some (.stringIter a0 pos)) ∧ Aside0 (Kd.R (Kd.int .i32) 21 w' w.heap.size (fun _ => True) v5 acc) ∧ Aside0 (Below w.heap.size w w') ∧ Aside0 (acc ++ (runesAt a0 pos).map (foldIf a1) = r)) (fun _ w' => a0.size - w'.iterPos w2.heap.size)
  case atStart => exact ⟨0, [], HI, HO', HB', ⟨by simpa [strRunes_at] using HR.out⟩⟩
  case round =>
    clear HR HI HO' HB'
    obtain ⟨pos, acc, HI, HO, HB, HE⟩ := hrel
    by_cases hp : pos < a0.size
    · have hnx : ∀ ty, (Instr.next (.pointer (some ⟨w2.heap.size, 0, none⟩)) true ty).run Tryd.prog wr = _ := fun ty => Lib.run_next_any_at wr w2.heap.size a0 pos ty HI.out hp
      have HE1 := HE.out
      rw [runesAt_step a0 pos hp, List.map_cons] at HE1
      have HN : Aside0 (acc.length + 1 ≤ 1073741824) := ⟨by have := congrArg List.length HE1; simp at this; have := HL.out; omega⟩
      have HW := Aside0.mk (Lib.decode_width_pos a0 pos hp)
      have HI1 := Aside0.mk (Lib.iterAt_heap wr w2.heap.size a0 pos (pos + (Utf8.decode a0 pos).2) HI.out)
      have HO1 := Aside0.mk (Kd.R_iterAt HO.out HI.out (pos + (Utf8.decode a0 pos).2))
      have HB1 := Aside0.mk (Lib.below_iterAt HB.out HZ.out a0 (pos + (Utf8.decode a0 pos).2))
      have HAMB1 : Aside0 (Amb (wr.iterAt w2.heap.size a0 (pos + (Utf8.decode a0 pos).2))) := ⟨Amb.below HAMB.out HB1.out⟩
      cases a1
      · have HE2 : Aside0 ((acc ++ [((Utf8.decode a0 pos).1 : Int)]) ++ (runesAt a0 (pos + (Utf8.decode a0 pos).2)).map (foldIf false) = r) := ⟨by rw [List.append_assoc]; exact HE1⟩
        clear HE1
        go_wp2_with (first | ((with_reducible refine gate_builtin (b := .append) (xs := #[.tmp 17, .tmp 19]) rfl ?_); at_builtin; refine Kd.R_append (Kd.int .i32) (w0 := w) w.heap.size rfl (.tmp 17) (.tmp 19) 42 21 (.int .i32 0) 4 rfl Tryd.underlying42 info21 rfl (by decide) (by omega) u5 acc (((Utf8.decode a0 pos).1 : Int)) [.int .i32 (((Utf8.decode a0 pos).1 : Int))] (fun _ => True) (fun _ => False) rfl rfl ?aP (fun _ hk => hk.elim) ?aF ?aO ?aB ?aS ?aL ?_; (case aP => exact rfl); (case aF => exact fun _ _ => trivial); (case aO => (with_reducible repeat (first | apply Kd.R_alloc | apply Kd.R_drewN | apply Kd.R_drew)); exact HO1.out); (case aB => exact (by repeat (first | (with_reducible first | exact HB1.out | apply below_alloc | apply pw_below_drewN | apply below_drew1) | exact HB1.out))); (case aS => exact below_size (by repeat (first | (with_reducible first | exact HB1.out | apply below_alloc | apply pw_below_drewN | apply below_drew1) | exact HB1.out))); (case aL => have := HN.out; omega); intro v6 w6 ho hb hg hat; have HO2 := Aside0.mk ho; have HB2 := Aside0.mk hb; have HI2 := Aside0.mk (iter_grown (e := 21) (base := w.heap.size) (ok := fun _ => True) (by (with_reducible repeat (first | apply Kd.R_alloc | apply Kd.R_drewN | apply Kd.R_drew)); exact HO1.out) (by first | exact HI1.out | exact iter_below HI1.out (by repeat (first | exact Below.refl _ _ | apply below_alloc | apply pw_below_drewN | apply below_drew1))) hg); clear ho hb hg hat))
        go_roundw
        case rel => exact ⟨pos + (Utf8.decode a0 pos).2, acc ++ [((Utf8.decode a0 pos).1 : Int)], HI2, HO2, HB2, HE2⟩
        case measure =>
          have h1 : ∀ W : World, W.heap[w2.heap.size]? = some (.stringIter a0 (pos + (Utf8.decode a0 pos).2)) → W.iterPos w2.heap.size = pos + (Utf8.decode a0 pos).2 := fun W hW => by simp [World.iterPos, hW]
          have h2 : wr.iterPos w2.heap.size = pos := by have := HI.out; simp [World.iterPos, this]
          rw [h1 _ HI2.out, h2]
          have := HW.out
          omega
      · have HE2 : Aside0 ((acc ++ [Lib.toLowerU ((Utf8.decode a0 pos).1 : Int)]) ++ (runesAt a0 (pos + (Utf8.decode a0 pos).2)).map (foldIf true) = r) := ⟨by rw [List.append_assoc]; exact HE1⟩
        clear HE1
        go_wp2_with (first | (go_at_call 43; refine (Tryd.unicode_ToLower_laid _ _ HAMB1.out).mono ?_; rintro e w' ⟨rfl, q, rfl⟩) | ((with_reducible refine gate_builtin (b := .append) (xs := #[.tmp 17, .tmp 19]) rfl ?_); at_builtin; refine Kd.R_append (Kd.int .i32) (w0 := w) w.heap.size rfl (.tmp 17) (.tmp 19) 42 21 (.int .i32 0) 4 rfl Tryd.underlying42 info21 rfl (by decide) (by omega) u5 acc (Lib.toLowerU ((Utf8.decode a0 pos).1 : Int)) [.int .i32 (Lib.toLowerU ((Utf8.decode a0 pos).1 : Int))] (fun _ => True) (fun _ => False) rfl rfl ?aP (fun _ hk => hk.elim) ?aF ?aO ?aB ?aS ?aL ?_; (case aP => exact rfl); (case aF => exact fun _ _ => trivial); (case aO => (with_reducible repeat (first | apply Kd.R_alloc | apply Kd.R_drewN | apply Kd.R_drew)); exact HO1.out); (case aB => exact (by repeat (first | (with_reducible first | exact HB1.out | apply below_alloc | apply pw_below_drewN | apply below_drew1) | exact HB1.out))); (case aS => exact below_size (by repeat (first | (with_reducible first | exact HB1.out | apply below_alloc | apply pw_below_drewN | apply below_drew1) | exact HB1.out))); (case aL => have := HN.out; omega); intro v6 w6 ho hb hg hat; have HO2 := Aside0.mk ho; have HB2 := Aside0.mk hb; have HI2 := Aside0.mk (iter_grown (e := 21) (base := w.heap.size) (ok := fun _ => True) (by (with_reducible repeat (first | apply Kd.R_alloc | apply Kd.R_drewN | apply Kd.R_drew)); exact HO1.out) (by first | exact HI1.out | exact iter_below HI1.out (by repeat (first | exact Below.refl _ _ | apply below_alloc | apply pw_below_drewN | apply below_drew1))) hg); clear ho hb hg hat))
        go_roundw
        case rel => exact ⟨pos + (Utf8.decode a0 pos).2, acc ++ [Lib.toLowerU ((Utf8.decode a0 pos).1 : Int)], HI2, HO2, HB2, HE2⟩
        case measure =>
          have h1 : ∀ W : World, W.heap[w2.heap.size]? = some (.stringIter a0 (pos + (Utf8.decode a0 pos).2)) → W.iterPos w2.heap.size = pos + (Utf8.decode a0 pos).2 := fun W hW => by simp [World.iterPos, hW]
          have h2 : wr.iterPos w2.heap.size = pos := by have := HI.out; simp [World.iterPos, this]
          rw [h1 _ HI2.out, h2]
          have := HW.out
          omega
    · have hnx : ∀ ty, (Instr.next (.pointer (some ⟨w2.heap.size, 0, none⟩)) true ty).run Tryd.prog wr = _ := fun ty => Lib.run_next_end_at wr w2.heap.size a0 pos ty HI.out hp
      have HE2 := HE.out
      rw [runesAt_end a0 pos hp, List.map_nil, List.append_nil] at HE2
      subst HE2
      go_wp2
      go_ret
      exact ⟨_, rfl, HO.out, HB.out⟩
end Go.Proofs.YtfkemfkleceeiaaDoor
