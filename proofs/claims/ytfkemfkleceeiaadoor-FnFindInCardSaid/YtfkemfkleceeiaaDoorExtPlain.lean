/- spec.Plain and impl.isText by hand: is a text short, and text without U+FFFD? -/
import Derived.Test.YtfkemfkleceeiaaDoorIter
import Derived.Test.YtfkemfkleceeiaaDoorP0
namespace Go.Proofs.YtfkemfkleceeiaaDoor
open Go.RowKit Go.Proofs.YtfkemfkleceeiaaDoorW.PrintWords
set_option linter.unusedVariables false
set_option linter.unusedSimpArgs false

/-- A text of at most 60 bytes, without U+FFFD and bytes that are no text. -/
def plainB (s : ByteArray) : Bool := (strRunes s).all (fun x => x != 65533) && decide (s.size ≤ 60)
def spec_Plain.f (a0 : ByteArray) : Option Bool := some (plainB a0)
def impl_isText.f (a0 : ByteArray) : Option Bool := some (plainB a0)

set_option maxHeartbeats 1000000 in
set_option maxRecDepth 100000 in
theorem spec_Plain.calls (a0 : ByteArray) (r : Bool) (w : World) (h : spec_Plain.f a0 = some r) :
    Calls Tryd.prog 30 #[.string a0] w fun e w' => e = .returned (.bool r) ∧ Below w.heap.size w w' := by
  have HR := Aside0.mk (Option.some.inj h)
  clear h
  go_enter Tryd.func30, Tryd.ntmps30
  go_wp2_with fail
  have HI := Aside0.mk (World.iter_heap w a0 0)
  have HB := Aside0.mk (below_alloc (Below.refl w.heap.size w) (.stringIter a0 0))
  go_loopw [4] (fun v4 w' => ∃ (pos : Nat), Aside0 (w'.heap[w.heap.size]? = some (.stringIter a0 pos)) ∧ Aside0 (Below w.heap.size w w') ∧ Aside0 (((runesAt a0 pos).all (fun x => x != 65533) && decide (a0.size ≤ 60)) = r)) (fun _ w' => a0.size - w'.iterPos w.heap.size)
  case atStart => exact ⟨0, HI, HB, ⟨HR.out⟩⟩
  case round =>
    clear HR HI HB
    obtain ⟨pos, HI, HB, HE⟩ := hrel
    by_cases hp : pos < a0.size
    · have hnx : ∀ ty, (Instr.next (.pointer (some ⟨w.heap.size, 0, none⟩)) true ty).run Tryd.prog wr = _ := fun ty => Lib.run_next_any_at wr w.heap.size a0 pos ty HI.out hp
      have HE1 := HE.out
      rw [runesAt_step a0 pos hp, List.all_cons] at HE1
      have HW := Aside0.mk (Lib.decode_width_pos a0 pos hp)
      have HI1 := Aside0.mk (Lib.iterAt_heap wr w.heap.size a0 pos (pos + (Utf8.decode a0 pos).2) HI.out)
      have HB1 := Aside0.mk (Lib.below_iterAt HB.out (Nat.le_refl _) a0 (pos + (Utf8.decode a0 pos).2))
      by_cases hc : (((Utf8.decode a0 pos).1 : Int) == 65533) = true
      · have HR1 : Aside0 (r = false) := ⟨by rw [← HE1]; have := beq_iff_eq.1 hc; simp [this]⟩
        clear HE1
        go_wp2
        go_ret
        exact ⟨by rw [HR1.out]; rfl, HB1.out⟩
      · replace hc := Bool.eq_false_iff.mpr hc
        have HE2 : Aside0 (((runesAt a0 (pos + (Utf8.decode a0 pos).2)).all (fun x => x != 65533) && decide (a0.size ≤ 60)) = r) := ⟨by
          rw [← HE1]
          have : (((Utf8.decode a0 pos).1 : Int) != 65533) = true := bne_iff_ne.2 (beq_eq_false_iff_ne.1 hc)
          rw [this, Bool.true_and]⟩
        clear HE1
        go_wp2
        go_roundw
        case rel => exact ⟨pos + (Utf8.decode a0 pos).2, HI1, HB1, HE2⟩
        case measure =>
          have h1 : ∀ W : World, W.heap[w.heap.size]? = some (.stringIter a0 (pos + (Utf8.decode a0 pos).2)) → W.iterPos w.heap.size = pos + (Utf8.decode a0 pos).2 := fun W hW => by simp [World.iterPos, hW]
          have h2 : wr.iterPos w.heap.size = pos := by have := HI.out; simp [World.iterPos, this]
          rw [h1 _ HI1.out, h2]
          have := HW.out
          omega
    · have hnx : ∀ ty, (Instr.next (.pointer (some ⟨w.heap.size, 0, none⟩)) true ty).run Tryd.prog wr = _ := fun ty => Lib.run_next_end_at wr w.heap.size a0 pos ty HI.out hp
      have HE2 := HE.out
      rw [runesAt_end a0 pos hp, List.all_nil, Bool.true_and] at HE2
      have HE3 := Aside0.mk HE2
      clear HE2
      go_wp2
      go_ret
      exact ⟨by rw [← HE3.out]; first | rfl | (congr 2; simp; omega) | simp, HB.out⟩

set_option maxHeartbeats 1000000 in
set_option maxRecDepth 100000 in
theorem impl_isText.calls (a0 : ByteArray) (r : Bool) (w : World) (h : impl_isText.f a0 = some r) :
    Calls Tryd.prog 44 #[.string a0] w fun e w' => e = .returned (.bool r) ∧ Below w.heap.size w w' := by
  have HR := Aside0.mk (Option.some.inj h)
  clear h
  go_enter Tryd.func44, Tryd.ntmps44
  go_wp2_with fail
  have HI := Aside0.mk (World.iter_heap w a0 0)
  have HB := Aside0.mk (below_alloc (Below.refl w.heap.size w) (.stringIter a0 0))
  go_loopw [4] (fun v4 w' => ∃ (pos : Nat), Aside0 (w'.heap[w.heap.size]? = some (.stringIter a0 pos)) ∧ Aside0 (Below w.heap.size w w') ∧ Aside0 (((runesAt a0 pos).all (fun x => x != 65533) && decide (a0.size ≤ 60)) = r)) (fun _ w' => a0.size - w'.iterPos w.heap.size)
  case atStart => exact ⟨0, HI, HB, ⟨HR.out⟩⟩
  case round =>
    clear HR HI HB
    obtain ⟨pos, HI, HB, HE⟩ := hrel
    by_cases hp : pos < a0.size
    · have hnx : ∀ ty, (Instr.next (.pointer (some ⟨w.heap.size, 0, none⟩)) true ty).run Tryd.prog wr = _ := fun ty => Lib.run_next_any_at wr w.heap.size a0 pos ty HI.out hp
      have HE1 := HE.out
      rw [runesAt_step a0 pos hp, List.all_cons] at HE1
      have HW := Aside0.mk (Lib.decode_width_pos a0 pos hp)
      have HI1 := Aside0.mk (Lib.iterAt_heap wr w.heap.size a0 pos (pos + (Utf8.decode a0 pos).2) HI.out)
      have HB1 := Aside0.mk (Lib.below_iterAt HB.out (Nat.le_refl _) a0 (pos + (Utf8.decode a0 pos).2))
      by_cases hc : (((Utf8.decode a0 pos).1 : Int) == 65533) = true
      · have HR1 : Aside0 (r = false) := ⟨by rw [← HE1]; have := beq_iff_eq.1 hc; simp [this]⟩
        clear HE1
        go_wp2
        go_ret
        exact ⟨by rw [HR1.out]; rfl, HB1.out⟩
      · replace hc := Bool.eq_false_iff.mpr hc
        have HE2 : Aside0 (((runesAt a0 (pos + (Utf8.decode a0 pos).2)).all (fun x => x != 65533) && decide (a0.size ≤ 60)) = r) := ⟨by
          rw [← HE1]
          have : (((Utf8.decode a0 pos).1 : Int) != 65533) = true := bne_iff_ne.2 (beq_eq_false_iff_ne.1 hc)
          rw [this, Bool.true_and]⟩
        clear HE1
        go_wp2
        go_roundw
        case rel => exact ⟨pos + (Utf8.decode a0 pos).2, HI1, HB1, HE2⟩
        case measure =>
          have h1 : ∀ W : World, W.heap[w.heap.size]? = some (.stringIter a0 (pos + (Utf8.decode a0 pos).2)) → W.iterPos w.heap.size = pos + (Utf8.decode a0 pos).2 := fun W hW => by simp [World.iterPos, hW]
          have h2 : wr.iterPos w.heap.size = pos := by have := HI.out; simp [World.iterPos, this]
          rw [h1 _ HI1.out, h2]
          have := HW.out
          omega
    · have hnx : ∀ ty, (Instr.next (.pointer (some ⟨w.heap.size, 0, none⟩)) true ty).run Tryd.prog wr = _ := fun ty => Lib.run_next_end_at wr w.heap.size a0 pos ty HI.out hp
      have HE2 := HE.out
      rw [runesAt_end a0 pos hp, List.all_nil, Bool.true_and] at HE2
      have HE3 := Aside0.mk HE2
      clear HE2
      go_wp2
      go_ret
      exact ⟨by rw [← HE3.out]; first | rfl | (congr 2; simp; omega) | simp, HB.out⟩
end Go.Proofs.YtfkemfkleceeiaaDoor
