/- fuzzysearch.stringTransform by hand: a text as it is, or with its letters made small, rune by rune. -/
import Derived.Test.YtfkemfkleceeiaaDoorIter
import Derived.Test.YtfkemfkleceeiaaDoorP0
import Derived.Test.YtfkemfkleceeiaaDoorShelf
import Derived.Laws.Cover4
import Derived.WalkLawsBesides
namespace Go.Proofs.YtfkemfkleceeiaaDoor
open Go.RowKit Go.Proofs.YtfkemfkleceeiaaDoorW.PrintWords
set_option linter.unusedVariables false
set_option linter.unusedSimpArgs false

/-- A text, folded. -/
def foldStr (s : ByteArray) : ByteArray := runesBytes ((strRunes s).map Lib.toLowerU)
def fuzzysearch_stringTransform.f (a0 : ByteArray) (a1 : Bool) : Option ByteArray := if a1 = false then some a0 else if a0.size ≤ 1073741824 then some (foldStr a0) else none
theorem runesBytes_snoc (l : List Int) (x : Int) : runesBytes (l ++ [x]) = runesBytes l ++ Utf8.encode x := by simp [runesBytes, List.foldl_append]
theorem runesBytes_size (l : List Int) : (runesBytes l).size ≤ 4 * l.length := by
  have := foldl_size_le l ByteArray.empty
  simpa [runesBytes] using this

set_option maxHeartbeats 1000000 in
set_option maxRecDepth 100000 in
theorem fuzzysearch_stringTransform.calls (a0 : ByteArray) (a1 : Bool) (r : ByteArray) (w : World) (hA_ : Amb w) (h : fuzzysearch_stringTransform.f a0 a1 = some r) :
    Calls Tryd.prog 55 #[.string a0, .bool a1] w fun e w' => e = .returned (.string r) ∧ Below w.heap.size w w' := by
  unfold fuzzysearch_stringTransform.f at h
  cases a1
  · rw [if_pos rfl] at h
    obtain rfl := Option.some.inj h
    clear h
    have HB := Aside0.mk (Below.refl w.heap.size w)
    go_enter Tryd.func55, Tryd.ntmps55
    go_wp2
    go_ret
    exact ⟨rfl, HB.out⟩
  · rw [if_neg (by decide)] at h
    split at h
    case isFalse => cases h
    case isTrue hsz =>
    have HR := Aside0.mk (Option.some.inj h)
    have HSZ := Aside0.mk hsz
    have HAMB := Aside0.mk hA_
    clear hA_ h hsz
    go_enter Tryd.func55, Tryd.ntmps55
    go_wp2_with fail
    have HI := Aside0.mk (World.iter_heap w a0 0)
    have HB := Aside0.mk (below_alloc (Below.refl w.heap.size w) (.stringIter a0 0))
    have HL := Aside0.mk (strRunes_length a0)
    go_loopw [4] (fun v4 w' => ∃ (pos : Nat) (acc : ByteArray) (l : List Int), v4 = .string acc ∧ Aside0 (w'.heap[w.heap.size]? = some (.stringIter a0 pos)) ∧ Aside0 (Below w.heap.size w w') ∧ Aside0 (acc = runesBytes l) ∧ Aside0 (l ++ (runesAt a0 pos).map Lib.toLowerU = (strRunes a0).map Lib.toLowerU)) (fun _ w' => a0.size - w'.iterPos w.heap.size)
    case atStart => exact ⟨0, ⟨#[]⟩, [], rfl, HI, HB, ⟨rfl⟩, ⟨rfl⟩⟩
    case round =>
      clear HI HB
      obtain ⟨pos, acc, l, rfl, HI, HB, HC, HE⟩ := hrel
      by_cases hp : pos < a0.size
      · have hnx : ∀ ty, (Instr.next (.pointer (some ⟨w.heap.size, 0, none⟩)) true ty).run Tryd.prog wr = _ := fun ty => Lib.run_next_any_at wr w.heap.size a0 pos ty HI.out hp
        have HE1 := HE.out
        rw [runesAt_step a0 pos hp, List.map_cons] at HE1
        have HW := Aside0.mk (Lib.decode_width_pos a0 pos hp)
        have HI1 := Aside0.mk (Lib.iterAt_heap wr w.heap.size a0 pos (pos + (Utf8.decode a0 pos).2) HI.out)
        have HB1 := Aside0.mk (Lib.below_iterAt HB.out (Nat.le_refl _) a0 (pos + (Utf8.decode a0 pos).2))
        have HAMB1 : Aside0 (Amb (wr.iterAt w.heap.size a0 (pos + (Utf8.decode a0 pos).2))) := ⟨Amb.below HAMB.out HB1.out⟩
        have HE2 : Aside0 ((l ++ [Lib.toLowerU ((Utf8.decode a0 pos).1 : Int)]) ++ (runesAt a0 (pos + (Utf8.decode a0 pos).2)).map Lib.toLowerU = (strRunes a0).map Lib.toLowerU) := ⟨by rw [List.append_assoc]; exact HE1⟩
        have HC2 : Aside0 (acc ++ Utf8.encode (Lib.toLowerU ((Utf8.decode a0 pos).1 : Int)) = runesBytes (l ++ [Lib.toLowerU ((Utf8.decode a0 pos).1 : Int)])) := ⟨by rw [runesBytes_snoc, HC.out]⟩
        have hs : acc.size + (Utf8.encode (Lib.toLowerU ((Utf8.decode a0 pos).1 : Int))).size ≤ 9223372036854775807 := by
          have h1 := encode_size_le (Lib.toLowerU ((Utf8.decode a0 pos).1 : Int))
          have h2 := runesBytes_size l
          rw [← HC.out] at h2
          have h3 := congrArg List.length HE1
          simp at h3
          have := HL.out
          have := HSZ.out
          omega
        clear HE1
        go_wp2_with (first | (go_at_call 43; refine (Tryd.unicode_ToLower_laid _ _ HAMB1.out).mono ?_; rintro e w' ⟨rfl, q, rfl⟩))
        go_roundw
        case rel => exact ⟨pos + (Utf8.decode a0 pos).2, _, l ++ [Lib.toLowerU ((Utf8.decode a0 pos).1 : Int)], rfl, HI1, ⟨pw_below_drewN HB1.out _⟩, HC2, HE2⟩
        case measure =>
          have h1 : ∀ W : World, W.heap[w.heap.size]? = some (.stringIter a0 (pos + (Utf8.decode a0 pos).2)) → W.iterPos w.heap.size = pos + (Utf8.decode a0 pos).2 := fun W hW => by simp [World.iterPos, hW]
          have h2 : wr.iterPos w.heap.size = pos := by have := HI.out; simp [World.iterPos, this]
          have h3 := h1 ((wr.iterAt w.heap.size a0 (pos + (Utf8.decode a0 pos).2)).drewN q) HI1.out
          rw [h3, h2]
          have := HW.out
          omega
      · have hnx : ∀ ty, (Instr.next (.pointer (some ⟨w.heap.size, 0, none⟩)) true ty).run Tryd.prog wr = _ := fun ty => Lib.run_next_end_at wr w.heap.size a0 pos ty HI.out hp
        have HE2 := HE.out
        rw [runesAt_end a0 pos hp, List.map_nil, List.append_nil] at HE2
        have HF : Aside0 (acc = r) := ⟨by rw [HC.out, HE2]; exact HR.out⟩
        clear HE2
        go_wp2
        go_ret
        exact ⟨by rw [← HF.out]; rfl, HB.out⟩
end Go.Proofs.YtfkemfkleceeiaaDoor
