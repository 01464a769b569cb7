/- fuzzysearch.matchTransformed by hand: the runes of a source stand in a target, in their order (targets without U+FFFD and bytes that are no text). -/
import Derived.Test.YtfkemfkleceeiaaDoorIter
import Derived.Test.YtfkemfkleceeiaaDoorTexts
import Derived.Test.YtfkemfkleceeiaaDoorP0
import Derived.Test.YtfkemfkleceeiaaDoorShelf
import Derived.WalkLawsBesides
import Derived.Test.YtfkemfkleceeiaaDoorExtFold
namespace Go.Proofs.YtfkemfkleceeiaaDoor
open Go.RowKit Go.Proofs.YtfkemfkleceeiaaDoorW.PrintWords
set_option linter.unusedVariables false
set_option linter.unusedSimpArgs false

def matchB (a0 a1 : ByteArray) : Bool := if a1.size < a0.size then false else if a1.size = a0.size ∧ (a0.toList == a1.toList) = true then true else isSub (strRunes a0) (strRunes a1)
def fuzzysearch_matchTransformed.f (a0 a1 : ByteArray) : Option Bool := if a0.size ≤ 1099511627776 ∧ a1.size ≤ 1099511627776 ∧ ∀ x ∈ strRunes a1, x ≠ 65533 then some (matchB a0 a1) else none

set_option maxHeartbeats 1000000 in
set_option maxRecDepth 100000 in
theorem match_loop (a0 a1 : ByteArray) (r : Bool) (w : World) (h0 : a0.size ≤ 1099511627776) (h1 : a1.size ≤ 1099511627776) (hx : ∀ x ∈ strRunes a1, x ≠ 65533) (hd : decide ((a1.size : Int) - (a0.size : Int) < 0) = false) (he : ((a1.size : Int) - (a0.size : Int) == 0) = false) (h : isSub (strRunes a0) (strRunes a1) = r) :
    Calls Tryd.prog 56 #[.string a0, .string a1] w fun e w' => e = .returned (.bool r) ∧ Below w.heap.size w w' := by
  have H1 := Aside0.mk h1
  have HX := Aside0.mk hx
  have HR := Aside0.mk h
  clear hx h
  go_enter Tryd.func56, Tryd.ntmps56
  go_wp2
  go_step3
  go_wp2
  go_step3
  go_wp2
  have HI := Aside0.mk (World.iter_heap w a0 0)
  have HB := Aside0.mk (below_alloc (Below.refl w.heap.size w) (.stringIter a0 0))
  go_loopg [1] a0.size (fun kq v1 w' => ∃ (pos : Nat) (t : ByteArray), v1 = .string t ∧ Aside0 (a0.size - pos ≤ kq) ∧ Aside0 (w'.heap[w.heap.size]? = some (.stringIter a0 pos)) ∧ Aside0 (Below w.heap.size w w') ∧ Aside0 (t.size ≤ 1099511627776) ∧ Aside0 (∀ x ∈ strRunes t, x ≠ 65533) ∧ Aside0 (isSub (runesAt a0 pos) (strRunes t) = r))
  case atStart => exact ⟨0, a1, rfl, ⟨Nat.le_refl _⟩, HI, HB, H1, HX, ⟨HR.out⟩⟩
  case round =>
    clear HI HB HX HR H1
    obtain ⟨pos, t, rfl, HK, HI, HB, HT, HX, HE⟩ := hrel
    by_cases hp : pos < a0.size
    · have hnx : ∀ ty, (Instr.next (.pointer (some ⟨w.heap.size, 0, none⟩)) true ty).run Tryd.prog wr = _ := fun ty => Lib.run_next_any_at wr w.heap.size a0 pos ty HI.out hp
      have HE1 := HE.out
      rw [runesAt_step a0 pos hp] at HE1
      have HE2 := Aside0.mk HE1
      clear HE1 HE
      have HW := Aside0.mk (Lib.decode_width_pos a0 pos hp)
      have HI1 := Aside0.mk (Lib.iterAt_heap wr w.heap.size a0 pos (pos + (Utf8.decode a0 pos).2) HI.out)
      have HB1 := Aside0.mk (Lib.below_iterAt HB.out (Nat.le_refl _) a0 (pos + (Utf8.decode a0 pos).2))
      cases gk with
      | zero => exact absurd HK.out (by omega)
      | succ k1 =>
        go_wp2
        obtain ⟨W1, HW1⟩ : ∃ W1, W1 = wr.iterAt w.heap.size a0 (pos + (Utf8.decode a0 pos).2) := ⟨_, rfl⟩
        rw [← HW1] at HI1 HB1
        simp only [← HW1]
        clear HW1 hnx HI HB
        obtain ⟨c, hc⟩ : ∃ c : Int, c = ((Utf8.decode a0 pos).1 : Int) := ⟨_, rfl⟩
        simp only [← hc]
        simp only [← hc] at HE2
        obtain ⟨q, hq⟩ : ∃ q : Nat, q = pos + (Utf8.decode a0 pos).2 := ⟨_, rfl⟩
        rw [← hq] at HI1 HE2
        have HQ : Aside0 (a0.size - q ≤ k1) := ⟨by have := HK.out; have := HW.out; omega⟩
        clear hq hc HW hp HK
        have HI2 := Aside0.mk (iter_alloc HI1.out (.stringIter t 0))
        have HJ2 := Aside0.mk (World.iter_heap W1 t 0)
        have HB2 := Aside0.mk (below_alloc HB1.out (.stringIter t 0))
        have HN : Aside0 (w.heap.size < W1.heap.size) := ⟨(Array.getElem?_eq_some_iff.1 HI1.out).1⟩
        go_loopg [1] t.size (fun kq v1 w' => ∃ (p : Nat), v1 = .string t ∧ Aside0 (t.size - p ≤ kq) ∧ Aside0 (w'.heap[w.heap.size]? = some (.stringIter a0 q)) ∧ Aside0 (w'.heap[W1.heap.size]? = some (.stringIter t p)) ∧ Aside0 (Below w.heap.size w w') ∧ Aside0 (dropTo c (strRunes t) = dropTo c (runesAt t p)) ∧ Aside0 (∀ x ∈ runesAt t p, x ≠ 65533))
        case atStart => exact ⟨0, rfl, ⟨Nat.le_refl _⟩, HI2, HJ2, HB2, ⟨rfl⟩, ⟨HX.out⟩⟩
        case round =>
          clear HI2 HJ2 HB2 HI1 HB1
          obtain ⟨p, rfl, HK2, HI, HJ, HB, HD, HY⟩ := hrel
          by_cases hp : p < t.size
          · have hnx : ∀ ty, (Instr.next (.pointer (some ⟨W1.heap.size, 0, none⟩)) true ty).run Tryd.prog wr = _ := fun ty => Lib.run_next_any_at wr W1.heap.size t p ty HJ.out hp
            have hy := HY.out
            have hdd := HD.out
            rw [runesAt_step t p hp] at hy hdd
            have hne : (Utf8.decode t p).1 ≠ 65533 := fun e_ => hy _ (List.mem_cons_self ..) (by rw [e_]; rfl)
            have HRL := Aside0.mk (runeLen_at t p hne)
            have HY1 : Aside0 (∀ x ∈ runesAt t (p + (Utf8.decode t p).2), x ≠ 65533) := ⟨fun x hx_ => hy x (List.mem_cons_of_mem _ hx_)⟩
            have hle : ((p : Int) + ((Utf8.decode t p).2 : Int)) ≤ (t.size : Int) := by have := decode_le_size t p hp; omega
            have hbd : (t.size : Int) ≤ 1099511627776 := by have := HT.out; omega
            have HW := Aside0.mk (Lib.decode_width_pos t p hp)
            have HP := Aside0.mk hp
            have HJ1 := Aside0.mk (Lib.iterAt_heap wr W1.heap.size t p (p + (Utf8.decode t p).2) HJ.out)
            have HI1 : Aside0 ((wr.iterAt W1.heap.size t (p + (Utf8.decode t p).2)).heap[w.heap.size]? = some (.stringIter a0 q)) := ⟨by rw [Lib.iterAt_other _ _ _ _ _ (by have := HN.out; omega)]; exact HI.out⟩
            have HB1 := Aside0.mk (Lib.below_iterAt HB.out (Nat.le_of_lt HN.out) t (p + (Utf8.decode t p).2))
            clear hy hne HY
            by_cases hc : (c == ((Utf8.decode t p).1 : Int)) = true
            · have hcc : c = ((Utf8.decode t p).1 : Int) := beq_iff_eq.1 hc
              have HE3 : Aside0 (isSub (runesAt a0 q) (strRunes (t.extract (p + (Utf8.decode t p).2) t.size)) = r) := ⟨by
                rw [strRunes_extract t _ (by omega)]
                have h2 := HE2.out
                rw [isSub, hdd, dropTo, if_pos hcc] at h2
                exact h2⟩
              have HX3 : Aside0 (∀ x ∈ strRunes (t.extract (p + (Utf8.decode t p).2) t.size), x ≠ 65533) := ⟨by rw [strRunes_extract t _ (by omega)]; exact HY1.out⟩
              have HT3 : Aside0 ((t.extract (p + (Utf8.decode t p).2) t.size).size ≤ 1099511627776) := ⟨by rw [size_extract_end]; omega⟩
              have HEX : Aside0 (((p : Int) + ((Utf8.decode t p).2 : Int)).toNat = p + (Utf8.decode t p).2) := ⟨by omega⟩
              clear hdd hcc
              go_wp2_with (go_at_call 57; refine (Tryd.utf8_RuneLen _ _).mono ?_; rintro e w' ⟨rfl, rfl⟩; rw [HRL.out])
              go_roundg k1
              case measure => omega
              case rel => exact ⟨q, t.extract (p + (Utf8.decode t p).2) t.size, by first | rfl | (rw [← HEX.out]) | (congr 2; have := HEX.out; omega), HQ, HI1, HB1, HT3, HX3, HE3⟩
            · replace hc := Bool.eq_false_iff.mpr hc
              have hcc : ¬ c = ((Utf8.decode t p).1 : Int) := beq_eq_false_iff_ne.1 hc
              have HD3 : Aside0 (dropTo c (strRunes t) = dropTo c (runesAt t (p + (Utf8.decode t p).2))) := ⟨by rw [hdd, dropTo, if_neg hcc]⟩
              clear hdd hcc
              cases gk with
              | zero => exact absurd HK2.out (by have := HP.out; omega)
              | succ k2 =>
                go_wp2
                go_roundg k2
                case measure => omega
                case rel => exact ⟨p + (Utf8.decode t p).2, rfl, ⟨by have := HK2.out; have := HW.out; omega⟩, HI1, HJ1, HB1, HD3, HY1⟩
          · have hnx : ∀ ty, (Instr.next (.pointer (some ⟨W1.heap.size, 0, none⟩)) true ty).run Tryd.prog wr = _ := fun ty => Lib.run_next_end_at wr W1.heap.size t p ty HJ.out hp
            have hdd := HD.out
            rw [runesAt_end t p hp] at hdd
            have HR3 : Aside0 (r = false) := ⟨by
              have h2 := HE2.out
              rw [isSub, hdd, dropTo] at h2
              exact h2.symm⟩
            clear hdd
            go_wp2
            (try rw [Exit.noGoto_ret])
            go_ret
            exact ⟨by rw [HR3.out]; rfl, HB.out⟩
    · have hnx : ∀ ty, (Instr.next (.pointer (some ⟨w.heap.size, 0, none⟩)) true ty).run Tryd.prog wr = _ := fun ty => Lib.run_next_end_at wr w.heap.size a0 pos ty HI.out hp
      have HE1 := HE.out
      rw [runesAt_end a0 pos hp] at HE1
      have HE2 : Aside0 (r = true) := ⟨by rw [← HE1]; rfl⟩
      clear HE1 HE
      go_wp2
      (try rw [Exit.noGoto_ret])
      go_ret
      exact ⟨by rw [HE2.out]; rfl, HB.out⟩
set_option maxHeartbeats 1000000 in
set_option maxRecDepth 100000 in
theorem match_loop_eq (a0 a1 : ByteArray) (r : Bool) (w : World) (h0 : a0.size ≤ 1099511627776) (h1 : a1.size ≤ 1099511627776) (hx : ∀ x ∈ strRunes a1, x ≠ 65533) (hd : decide ((a1.size : Int) - (a0.size : Int) < 0) = false) (he : ((a1.size : Int) - (a0.size : Int) == 0) = true) (hl : (a0.toList == a1.toList) = false) (h : isSub (strRunes a0) (strRunes a1) = r) :
    Calls Tryd.prog 56 #[.string a0, .string a1] w fun e w' => e = .returned (.bool r) ∧ Below w.heap.size w w' := by
  have H1 := Aside0.mk h1
  have HX := Aside0.mk hx
  have HR := Aside0.mk h
  clear hx h
  go_enter Tryd.func56, Tryd.ntmps56
  go_wp2
  go_step3
  go_wp2
  go_step3
  go_wp2
  have HI := Aside0.mk (World.iter_heap w a0 0)
  have HB := Aside0.mk (below_alloc (Below.refl w.heap.size w) (.stringIter a0 0))
  go_loopg [1] a0.size (fun kq v1 w' => ∃ (pos : Nat) (t : ByteArray), v1 = .string t ∧ Aside0 (a0.size - pos ≤ kq) ∧ Aside0 (w'.heap[w.heap.size]? = some (.stringIter a0 pos)) ∧ Aside0 (Below w.heap.size w w') ∧ Aside0 (t.size ≤ 1099511627776) ∧ Aside0 (∀ x ∈ strRunes t, x ≠ 65533) ∧ Aside0 (isSub (runesAt a0 pos) (strRunes t) = r))
  case atStart => exact ⟨0, a1, rfl, ⟨Nat.le_refl _⟩, HI, HB, H1, HX, ⟨HR.out⟩⟩
  case round =>
    clear HI HB HX HR H1
    obtain ⟨pos, t, rfl, HK, HI, HB, HT, HX, HE⟩ := hrel
    by_cases hp : pos < a0.size
    · have hnx : ∀ ty, (Instr.next (.pointer (some ⟨w.heap.size, 0, none⟩)) true ty).run Tryd.prog wr = _ := fun ty => Lib.run_next_any_at wr w.heap.size a0 pos ty HI.out hp
      have HE1 := HE.out
      rw [runesAt_step a0 pos hp] at HE1
      have HE2 := Aside0.mk HE1
      clear HE1 HE
      have HW := Aside0.mk (Lib.decode_width_pos a0 pos hp)
      have HI1 := Aside0.mk (Lib.iterAt_heap wr w.heap.size a0 pos (pos + (Utf8.decode a0 pos).2) HI.out)
      have HB1 := Aside0.mk (Lib.below_iterAt HB.out (Nat.le_refl _) a0 (pos + (Utf8.decode a0 pos).2))
      cases gk with
      | zero => exact absurd HK.out (by omega)
      | succ k1 =>
        go_wp2
        obtain ⟨W1, HW1⟩ : ∃ W1, W1 = wr.iterAt w.heap.size a0 (pos + (Utf8.decode a0 pos).2) := ⟨_, rfl⟩
        rw [← HW1] at HI1 HB1
        simp only [← HW1]
        clear HW1 hnx HI HB
        obtain ⟨c, hc⟩ : ∃ c : Int, c = ((Utf8.decode a0 pos).1 : Int) := ⟨_, rfl⟩
        simp only [← hc]
        simp only [← hc] at HE2
        obtain ⟨q, hq⟩ : ∃ q : Nat, q = pos + (Utf8.decode a0 pos).2 := ⟨_, rfl⟩
        rw [← hq] at HI1 HE2
        have HQ : Aside0 (a0.size - q ≤ k1) := ⟨by have := HK.out; have := HW.out; omega⟩
        clear hq hc HW hp HK
        have HI2 := Aside0.mk (iter_alloc HI1.out (.stringIter t 0))
        have HJ2 := Aside0.mk (World.iter_heap W1 t 0)
        have HB2 := Aside0.mk (below_alloc HB1.out (.stringIter t 0))
        have HN : Aside0 (w.heap.size < W1.heap.size) := ⟨(Array.getElem?_eq_some_iff.1 HI1.out).1⟩
        go_loopg [1] t.size (fun kq v1 w' => ∃ (p : Nat), v1 = .string t ∧ Aside0 (t.size - p ≤ kq) ∧ Aside0 (w'.heap[w.heap.size]? = some (.stringIter a0 q)) ∧ Aside0 (w'.heap[W1.heap.size]? = some (.stringIter t p)) ∧ Aside0 (Below w.heap.size w w') ∧ Aside0 (dropTo c (strRunes t) = dropTo c (runesAt t p)) ∧ Aside0 (∀ x ∈ runesAt t p, x ≠ 65533))
        case atStart => exact ⟨0, rfl, ⟨Nat.le_refl _⟩, HI2, HJ2, HB2, ⟨rfl⟩, ⟨HX.out⟩⟩
        case round =>
          clear HI2 HJ2 HB2 HI1 HB1
          obtain ⟨p, rfl, HK2, HI, HJ, HB, HD, HY⟩ := hrel
          by_cases hp : p < t.size
          · have hnx : ∀ ty, (Instr.next (.pointer (some ⟨W1.heap.size, 0, none⟩)) true ty).run Tryd.prog wr = _ := fun ty => Lib.run_next_any_at wr W1.heap.size t p ty HJ.out hp
            have hy := HY.out
            have hdd := HD.out
            rw [runesAt_step t p hp] at hy hdd
            have hne : (Utf8.decode t p).1 ≠ 65533 := fun e_ => hy _ (List.mem_cons_self ..) (by rw [e_]; rfl)
            have HRL := Aside0.mk (runeLen_at t p hne)
            have HY1 : Aside0 (∀ x ∈ runesAt t (p + (Utf8.decode t p).2), x ≠ 65533) := ⟨fun x hx_ => hy x (List.mem_cons_of_mem _ hx_)⟩
            have hle : ((p : Int) + ((Utf8.decode t p).2 : Int)) ≤ (t.size : Int) := by have := decode_le_size t p hp; omega
            have hbd : (t.size : Int) ≤ 1099511627776 := by have := HT.out; omega
            have HW := Aside0.mk (Lib.decode_width_pos t p hp)
            have HP := Aside0.mk hp
            have HJ1 := Aside0.mk (Lib.iterAt_heap wr W1.heap.size t p (p + (Utf8.decode t p).2) HJ.out)
            have HI1 : Aside0 ((wr.iterAt W1.heap.size t (p + (Utf8.decode t p).2)).heap[w.heap.size]? = some (.stringIter a0 q)) := ⟨by rw [Lib.iterAt_other _ _ _ _ _ (by have := HN.out; omega)]; exact HI.out⟩
            have HB1 := Aside0.mk (Lib.below_iterAt HB.out (Nat.le_of_lt HN.out) t (p + (Utf8.decode t p).2))
            clear hy hne HY
            by_cases hc : (c == ((Utf8.decode t p).1 : Int)) = true
            · have hcc : c = ((Utf8.decode t p).1 : Int) := beq_iff_eq.1 hc
              have HE3 : Aside0 (isSub (runesAt a0 q) (strRunes (t.extract (p + (Utf8.decode t p).2) t.size)) = r) := ⟨by
                rw [strRunes_extract t _ (by omega)]
                have h2 := HE2.out
                rw [isSub, hdd, dropTo, if_pos hcc] at h2
                exact h2⟩
              have HX3 : Aside0 (∀ x ∈ strRunes (t.extract (p + (Utf8.decode t p).2) t.size), x ≠ 65533) := ⟨by rw [strRunes_extract t _ (by omega)]; exact HY1.out⟩
              have HT3 : Aside0 ((t.extract (p + (Utf8.decode t p).2) t.size).size ≤ 1099511627776) := ⟨by rw [size_extract_end]; omega⟩
              have HEX : Aside0 (((p : Int) + ((Utf8.decode t p).2 : Int)).toNat = p + (Utf8.decode t p).2) := ⟨by omega⟩
              clear hdd hcc
              go_wp2_with (go_at_call 57; refine (Tryd.utf8_RuneLen _ _).mono ?_; rintro e w' ⟨rfl, rfl⟩; rw [HRL.out])
              go_roundg k1
              case measure => omega
              case rel => exact ⟨q, t.extract (p + (Utf8.decode t p).2) t.size, by first | rfl | (rw [← HEX.out]) | (congr 2; have := HEX.out; omega), HQ, HI1, HB1, HT3, HX3, HE3⟩
            · replace hc := Bool.eq_false_iff.mpr hc
              have hcc : ¬ c = ((Utf8.decode t p).1 : Int) := beq_eq_false_iff_ne.1 hc
              have HD3 : Aside0 (dropTo c (strRunes t) = dropTo c (runesAt t (p + (Utf8.decode t p).2))) := ⟨by rw [hdd, dropTo, if_neg hcc]⟩
              clear hdd hcc
              cases gk with
              | zero => exact absurd HK2.out (by have := HP.out; omega)
              | succ k2 =>
                go_wp2
                go_roundg k2
                case measure => omega
                case rel => exact ⟨p + (Utf8.decode t p).2, rfl, ⟨by have := HK2.out; have := HW.out; omega⟩, HI1, HJ1, HB1, HD3, HY1⟩
          · have hnx : ∀ ty, (Instr.next (.pointer (some ⟨W1.heap.size, 0, none⟩)) true ty).run Tryd.prog wr = _ := fun ty => Lib.run_next_end_at wr W1.heap.size t p ty HJ.out hp
            have hdd := HD.out
            rw [runesAt_end t p hp] at hdd
            have HR3 : Aside0 (r = false) := ⟨by
              have h2 := HE2.out
              rw [isSub, hdd, dropTo] at h2
              exact h2.symm⟩
            clear hdd
            go_wp2
            (try rw [Exit.noGoto_ret])
            go_ret
            exact ⟨by rw [HR3.out]; rfl, HB.out⟩
    · have hnx : ∀ ty, (Instr.next (.pointer (some ⟨w.heap.size, 0, none⟩)) true ty).run Tryd.prog wr = _ := fun ty => Lib.run_next_end_at wr w.heap.size a0 pos ty HI.out hp
      have HE1 := HE.out
      rw [runesAt_end a0 pos hp] at HE1
      have HE2 : Aside0 (r = true) := ⟨by rw [← HE1]; rfl⟩
      clear HE1 HE
      go_wp2
      (try rw [Exit.noGoto_ret])
      go_ret
      exact ⟨by rw [HE2.out]; rfl, HB.out⟩
set_option maxHeartbeats 1000000 in
set_option maxRecDepth 100000 in
theorem fuzzysearch_matchTransformed.calls (a0 a1 : ByteArray) (r : Bool) (w : World) (h : fuzzysearch_matchTransformed.f a0 a1 = some r) :
    Calls Tryd.prog 56 #[.string a0, .string a1] w fun e w' => e = .returned (.bool r) ∧ Below w.heap.size w w' := by
  unfold fuzzysearch_matchTransformed.f at h
  split at h
  case isFalse => cases h
  case isTrue hh =>
  obtain ⟨h0, h1, hx⟩ := hh
  have hr := Option.some.inj h
  clear h
  unfold matchB at hr
  by_cases hlt : a1.size < a0.size
  · rw [if_pos hlt] at hr
    subst hr
    have hd : decide ((a1.size : Int) - (a0.size : Int) < 0) = true := by simp; omega
    clear hx hlt
    have HB := Aside0.mk (Below.refl w.heap.size w)
    go_enter Tryd.func56, Tryd.ntmps56
    go_wp2
    go_step3
    go_wp2
    (try rw [Exit.noGoto_ret])
    go_ret
    exact ⟨rfl, HB.out⟩
  · rw [if_neg hlt] at hr
    have hd : decide ((a1.size : Int) - (a0.size : Int) < 0) = false := by simp; omega
    by_cases hs : a1.size = a0.size
    · have he : ((a1.size : Int) - (a0.size : Int) == 0) = true := by rw [beq_iff_eq]; omega
      cases hl : (a0.toList == a1.toList) with
      | true =>
        rw [if_pos ⟨hs, hl⟩] at hr
        subst hr
        clear hx hlt hs
        have HB := Aside0.mk (Below.refl w.heap.size w)
        go_enter Tryd.func56, Tryd.ntmps56
        go_wp2
        go_step3
        go_wp2
        (try rw [Exit.noGoto_ret])
        go_ret
        exact ⟨rfl, HB.out⟩
      | false =>
        rw [if_neg (fun hh => by rw [hl] at hh; exact absurd hh.2 (by decide))] at hr
        exact match_loop_eq a0 a1 r w h0 h1 hx hd he hl hr
    · have he : ((a1.size : Int) - (a0.size : Int) == 0) = false := by rw [beq_eq_false_iff_ne]; omega
      rw [if_neg (fun hh => hs hh.1)] at hr
      exact match_loop a0 a1 r w h0 h1 hx hd he hr
end Go.Proofs.YtfkemfkleceeiaaDoor
namespace Go.Proofs.YtfkemfkleceeiaaDoor
open Go.RowKit Go.Proofs.YtfkemfkleceeiaaDoorW.PrintWords
set_option linter.unusedVariables false
set_option linter.unusedSimpArgs false

/-- What stands behind the first c; how many stand ahead of it, and n. -/
def skipTo (c : Int) : List Int → Nat → Option (Nat × List Int)
  | [], _ => none
  | x :: xs, n => if c = x then some (n, xs) else skipTo c xs (n + 1)
def rankGo : List Int → List Int → Nat → Int
  | [], l, n => ((n + l.length : Nat) : Int)
  | c :: cs, l, n => match skipTo c l n with
    | none => -1
    | some (n', l') => rankGo cs l' n'
def foldStrIf (b : Bool) (s : ByteArray) : ByteArray := if b then foldStr s else s
def rankB (a0 a1 : ByteArray) (b : Bool) : Int :=
  if a1.size < a0.size then -1 else if a1.size = a0.size ∧ ((foldStrIf b a0).toList == (foldStrIf b a1).toList) = true then 0 else rankGo (strRunes (foldStrIf b a0)) (strRunes (foldStrIf b a1)) 0
def fuzzysearch_rank.f (a0 a1 : ByteArray) (a2 : Bool) : Option Int :=
  if a0.size ≤ 1073741824 ∧ a1.size ≤ 1073741824 ∧ ∀ x ∈ strRunes (foldStrIf a2 a1), x ≠ 65533 then some (rankB a0 a1 a2) else none
theorem fold_f (a0 : ByteArray) (b : Bool) (h : a0.size ≤ 1073741824) : fuzzysearch_stringTransform.f a0 b = some (foldStrIf b a0) := by
  unfold fuzzysearch_stringTransform.f foldStrIf
  cases b
  · rfl
  · rw [if_neg (by decide), if_pos h]; rfl
theorem foldIf_size (a0 : ByteArray) (b : Bool) : (foldStrIf b a0).size ≤ 4 * a0.size := by
  unfold foldStrIf foldStr
  cases b
  · simp; omega
  · simp
    have h1 := runesBytes_size ((strRunes a0).map Lib.toLowerU)
    have h2 := strRunes_length a0
    simp at h1
    omega
theorem runeCount_from (s : ByteArray) : ∀ f pos, Lib.runeCountFrom s f pos = (runesFrom s f pos).length
  | 0, _ => rfl
  | f + 1, pos => by
    unfold Lib.runeCountFrom runesFrom
    split
    · rw [runeCount_from s f, List.length_cons, Nat.add_comm]
    · rfl
theorem runeCount_eq (s : ByteArray) : Lib.runeCount s = (strRunes s).length := runeCount_from s _ _

set_option maxHeartbeats 2000000 in
set_option maxRecDepth 100000 in
theorem rank_loop (a0 a1 : ByteArray) (a2 : Bool) (r : Int) (w : World) (hA_ : Amb w) (h0 : a0.size ≤ 1073741824) (h1 : a1.size ≤ 1073741824) (hx : ∀ x ∈ strRunes (foldStrIf a2 a1), x ≠ 65533) (hd : decide ((a1.size : Int) - (a0.size : Int) < 0) = false) (he : ((a1.size : Int) - (a0.size : Int) == 0) = false) (h : rankGo (strRunes (foldStrIf a2 a0)) (strRunes (foldStrIf a2 a1)) 0 = r) :
    Calls Tryd.prog 49 #[.string a0, .string a1, .bool a2] w fun e w' => e = .returned (.int .i64 r) ∧ Below w.heap.size w w' := by
  have H0 := Aside0.mk h0
  have H1 := Aside0.mk h1
  have HX := Aside0.mk hx
  have HR := Aside0.mk h
  have HAMB := Aside0.mk hA_
  clear hx h hA_
  go_enter Tryd.func49, Tryd.ntmps49
  go_wp2
  go_step3
  go_wp2_with fail
  go_at_call 55
  refine (fuzzysearch_stringTransform.calls a0 a2 (foldStrIf a2 a0) _ HAMB.out (fold_f a0 a2 H0.out)).mono ?_
  rintro e W2 ⟨rfl, hb2⟩
  have HBa := Aside0.mk hb2
  have HAM2 := Aside0.mk (Amb.below HAMB.out hb2)
  clear hb2
  go_wp2_with fail
  go_at_call 55
  refine (fuzzysearch_stringTransform.calls a1 a2 (foldStrIf a2 a1) _ HAM2.out (fold_f a1 a2 H1.out)).mono ?_
  rintro e W3 ⟨rfl, hb3⟩
  have HBb := Aside0.mk (below_step HBa.out hb3)
  clear hb3 HBa HAM2 HAMB
  have HSZ : Aside0 ((foldStrIf a2 a1).size ≤ 4294967296) := ⟨by have := foldIf_size a1 a2; have := H1.out; omega⟩
  obtain ⟨s, hs_⟩ : ∃ s, s = foldStrIf a2 a0 := ⟨_, rfl⟩
  obtain ⟨t0, ht_⟩ : ∃ t0, t0 = foldStrIf a2 a1 := ⟨_, rfl⟩
  simp only [← hs_, ← ht_] at *
  clear hs_ ht_
  go_wp2
  go_step3
  go_wp2
  have HI := Aside0.mk (World.iter_heap W3 s 0)
  have HB := Aside0.mk (below_alloc HBb.out (.stringIter s 0))
  have HN0 : Aside0 (w.heap.size ≤ W3.heap.size) := ⟨below_size HBb.out⟩
  go_loopg [1, 8] s.size (fun kq v1 v8 w' => ∃ (pos n : Nat) (t : ByteArray), v1 = .string t ∧ v8 = .int .i64 (n : Int) ∧ Aside0 (s.size - pos ≤ kq) ∧ Aside0 (w'.heap[W3.heap.size]? = some (.stringIter s pos)) ∧ Aside0 (Below w.heap.size w w') ∧ Aside0 (n + t.size ≤ 4294967296) ∧ Aside0 (∀ x ∈ strRunes t, x ≠ 65533) ∧ Aside0 (rankGo (runesAt s pos) (strRunes t) n = r))
  case atStart => exact ⟨0, 0, t0, rfl, rfl, ⟨Nat.le_refl _⟩, HI, HB, ⟨by have := HSZ.out; omega⟩, HX, ⟨HR.out⟩⟩
  case round =>
    clear HI HB HX HR H1 H0 HSZ
    obtain ⟨pos, n, t, rfl, rfl, HK, HI, HB, HT, HX, HE⟩ := hrel
    by_cases hp : pos < s.size
    · have hnx : ∀ ty, (Instr.next (.pointer (some ⟨W3.heap.size, 0, none⟩)) true ty).run Tryd.prog wr = _ := fun ty => Lib.run_next_any_at wr W3.heap.size s pos ty HI.out hp
      have HE1 := HE.out
      rw [runesAt_step s pos hp] at HE1
      have HE2 := Aside0.mk HE1
      clear HE1 HE
      have HW := Aside0.mk (Lib.decode_width_pos s pos hp)
      have HI1 := Aside0.mk (Lib.iterAt_heap wr W3.heap.size s pos (pos + (Utf8.decode s pos).2) HI.out)
      have HB1 := Aside0.mk (Lib.below_iterAt HB.out HN0.out s (pos + (Utf8.decode s pos).2))
      cases gk with
      | zero => exact absurd HK.out (by omega)
      | succ k1 =>
        go_wp2
        obtain ⟨W1, HW1⟩ : ∃ W1, W1 = wr.iterAt W3.heap.size s (pos + (Utf8.decode s pos).2) := ⟨_, rfl⟩
        rw [← HW1] at HI1 HB1
        simp only [← HW1]
        clear HW1 hnx HI HB
        obtain ⟨c, hc⟩ : ∃ c : Int, c = ((Utf8.decode s pos).1 : Int) := ⟨_, rfl⟩
        simp only [← hc]
        simp only [← hc] at HE2
        obtain ⟨q, hq⟩ : ∃ q : Nat, q = pos + (Utf8.decode s pos).2 := ⟨_, rfl⟩
        rw [← hq] at HI1 HE2
        have HQ : Aside0 (s.size - q ≤ k1) := ⟨by have := HK.out; have := HW.out; omega⟩
        clear hq hc HW hp HK
        have HI2 := Aside0.mk (iter_alloc HI1.out (.stringIter t 0))
        have HJ2 := Aside0.mk (World.iter_heap W1 t 0)
        have HB2 := Aside0.mk (below_alloc HB1.out (.stringIter t 0))
        have HN : Aside0 (W3.heap.size < W1.heap.size) := ⟨(Array.getElem?_eq_some_iff.1 HI1.out).1⟩
        go_loopg [1, 8] t.size (fun kq v1 v8 w' => ∃ (p m : Nat), v1 = .string t ∧ v8 = .int .i64 (m : Int) ∧ Aside0 (t.size - p ≤ kq) ∧ Aside0 (w'.heap[W3.heap.size]? = some (.stringIter s q)) ∧ Aside0 (w'.heap[W1.heap.size]? = some (.stringIter t p)) ∧ Aside0 (Below w.heap.size w w') ∧ Aside0 (m + (t.size - p) ≤ 4294967296) ∧ Aside0 (skipTo c (strRunes t) n = skipTo c (runesAt t p) m) ∧ Aside0 (∀ x ∈ runesAt t p, x ≠ 65533))
        case atStart => exact ⟨0, n, rfl, rfl, ⟨Nat.le_refl _⟩, HI2, HJ2, HB2, HT, ⟨rfl⟩, ⟨HX.out⟩⟩
        case round =>
          clear HI2 HJ2 HB2 HI1 HB1
          obtain ⟨p, m, rfl, rfl, HK2, HI, HJ, HB, HM, HD, HY⟩ := hrel
          by_cases hp : p < t.size
          · have hnx : ∀ ty, (Instr.next (.pointer (some ⟨W1.heap.size, 0, none⟩)) true ty).run Tryd.prog wr = _ := fun ty => Lib.run_next_any_at wr W1.heap.size t p ty HJ.out hp
            have hy := HY.out
            have hdd := HD.out
            rw [runesAt_step t p hp] at hy hdd
            have hne : (Utf8.decode t p).1 ≠ 65533 := fun e_ => hy _ (List.mem_cons_self ..) (by rw [e_]; rfl)
            have HRL := Aside0.mk (runeLen_at t p hne)
            have HY1 : Aside0 (∀ x ∈ runesAt t (p + (Utf8.decode t p).2), x ≠ 65533) := ⟨fun x hx_ => hy x (List.mem_cons_of_mem _ hx_)⟩
            have hle : ((p : Int) + ((Utf8.decode t p).2 : Int)) ≤ (t.size : Int) := by have := decode_le_size t p hp; omega
            have hbd : (t.size : Int) ≤ 4294967296 := by have := HT.out; omega
            have hbm : (m : Int) ≤ 4294967296 := by have := HM.out; omega
            have HW := Aside0.mk (Lib.decode_width_pos t p hp)
            have HP := Aside0.mk hp
            have HLE := Aside0.mk hle
            have HJ1 := Aside0.mk (Lib.iterAt_heap wr W1.heap.size t p (p + (Utf8.decode t p).2) HJ.out)
            have HI1 : Aside0 ((wr.iterAt W1.heap.size t (p + (Utf8.decode t p).2)).heap[W3.heap.size]? = some (.stringIter s q)) := ⟨by rw [Lib.iterAt_other _ _ _ _ _ (by have := HN.out; omega)]; exact HI.out⟩
            have HB1 := Aside0.mk (Lib.below_iterAt HB.out (Nat.le_trans HN0.out (Nat.le_of_lt HN.out)) t (p + (Utf8.decode t p).2))
            clear hy hne HY
            by_cases hc : (c == ((Utf8.decode t p).1 : Int)) = true
            · have hcc : c = ((Utf8.decode t p).1 : Int) := beq_iff_eq.1 hc
              have HE3 : Aside0 (rankGo (runesAt s q) (strRunes (t.extract (p + (Utf8.decode t p).2) t.size)) m = r) := ⟨by
                rw [strRunes_extract t _ (by omega)]
                have h2 := HE2.out
                rw [rankGo, hdd, skipTo, if_pos hcc] at h2
                exact h2⟩
              have HX3 : Aside0 (∀ x ∈ strRunes (t.extract (p + (Utf8.decode t p).2) t.size), x ≠ 65533) := ⟨by rw [strRunes_extract t _ (by omega)]; exact HY1.out⟩
              have HT3 : Aside0 (m + (t.extract (p + (Utf8.decode t p).2) t.size).size ≤ 4294967296) := ⟨by rw [size_extract_end]; have := HM.out; omega⟩
              have HEX : Aside0 (((p : Int) + ((Utf8.decode t p).2 : Int)).toNat = p + (Utf8.decode t p).2) := ⟨by omega⟩
              clear hdd hcc
              go_wp2_with (go_at_call 57; refine (Tryd.utf8_RuneLen _ _).mono ?_; rintro e w' ⟨rfl, rfl⟩; rw [HRL.out])
              go_roundg k1
              case measure => omega
              case rel => exact ⟨q, m, t.extract (p + (Utf8.decode t p).2) t.size, by first | rfl | (rw [← HEX.out]) | (congr 2; have := HEX.out; omega), rfl, HQ, HI1, HB1, HT3, HX3, HE3⟩
            · replace hc := Bool.eq_false_iff.mpr hc
              have hcc : ¬ c = ((Utf8.decode t p).1 : Int) := beq_eq_false_iff_ne.1 hc
              have HD3 : Aside0 (skipTo c (strRunes t) n = skipTo c (runesAt t (p + (Utf8.decode t p).2)) (m + 1)) := ⟨by rw [hdd, skipTo, if_neg hcc]⟩
              clear hdd hcc
              cases gk with
              | zero => exact absurd HK2.out (by have := HP.out; omega)
              | succ k2 =>
                go_wp2
                go_roundg k2
                case measure => omega
                case rel => exact ⟨p + (Utf8.decode t p).2, m + 1, rfl, by go_num, ⟨by have := HK2.out; have := HW.out; omega⟩, HI1, HJ1, HB1, ⟨by have := HM.out; have := HW.out; have := HLE.out; omega⟩, HD3, HY1⟩
          · have hnx : ∀ ty, (Instr.next (.pointer (some ⟨W1.heap.size, 0, none⟩)) true ty).run Tryd.prog wr = _ := fun ty => Lib.run_next_end_at wr W1.heap.size t p ty HJ.out hp
            have hdd := HD.out
            rw [runesAt_end t p hp] at hdd
            have HR3 : Aside0 (r = -1) := ⟨by
              have h2 := HE2.out
              rw [rankGo, hdd, skipTo] at h2
              exact h2.symm⟩
            clear hdd
            go_wp2
            (try rw [Exit.noGoto_ret])
            go_ret
            exact ⟨by rw [HR3.out]; rfl, HB.out⟩
    · have hnx : ∀ ty, (Instr.next (.pointer (some ⟨W3.heap.size, 0, none⟩)) true ty).run Tryd.prog wr = _ := fun ty => Lib.run_next_end_at wr W3.heap.size s pos ty HI.out hp
      have HE1 := HE.out
      rw [runesAt_end s pos hp] at HE1
      have HE2 : Aside0 (r = (n : Int) + ((strRunes t).length : Int)) := ⟨by rw [← HE1]; simp [rankGo]⟩
      have HC := Aside0.mk (runeCount_eq t)
      have hb8 : (n : Int) + ((strRunes t).length : Int) ≤ 4294967296 := by have := strRunes_length t; have := HT.out; omega
      have HTS : Aside0 (t.size < 9223372036854775807) := ⟨by have := HT.out; omega⟩
      clear HE1 HE
      go_wp2_with (go_at_call 58; refine (Tryd.utf8_RuneCountInString t _ HTS.out).mono ?_; rintro e w' ⟨rfl, qq, rfl⟩; rw [HC.out])
      (try rw [Exit.noGoto_ret])
      go_ret
      exact ⟨by rw [HE2.out]; rfl, below_alloc HB.out _⟩
set_option maxHeartbeats 2000000 in
set_option maxRecDepth 100000 in
theorem rank_loop_eq (a0 a1 : ByteArray) (a2 : Bool) (r : Int) (w : World) (hA_ : Amb w) (h0 : a0.size ≤ 1073741824) (h1 : a1.size ≤ 1073741824) (hx : ∀ x ∈ strRunes (foldStrIf a2 a1), x ≠ 65533) (hd : decide ((a1.size : Int) - (a0.size : Int) < 0) = false) (he : ((a1.size : Int) - (a0.size : Int) == 0) = true) (hl : ((foldStrIf a2 a0).toList == (foldStrIf a2 a1).toList) = false) (h : rankGo (strRunes (foldStrIf a2 a0)) (strRunes (foldStrIf a2 a1)) 0 = r) :
    Calls Tryd.prog 49 #[.string a0, .string a1, .bool a2] w fun e w' => e = .returned (.int .i64 r) ∧ Below w.heap.size w w' := by
  have H0 := Aside0.mk h0
  have H1 := Aside0.mk h1
  have HX := Aside0.mk hx
  have HR := Aside0.mk h
  have HAMB := Aside0.mk hA_
  clear hx h hA_
  go_enter Tryd.func49, Tryd.ntmps49
  go_wp2
  go_step3
  go_wp2_with fail
  go_at_call 55
  refine (fuzzysearch_stringTransform.calls a0 a2 (foldStrIf a2 a0) _ HAMB.out (fold_f a0 a2 H0.out)).mono ?_
  rintro e W2 ⟨rfl, hb2⟩
  have HBa := Aside0.mk hb2
  have HAM2 := Aside0.mk (Amb.below HAMB.out hb2)
  clear hb2
  go_wp2_with fail
  go_at_call 55
  refine (fuzzysearch_stringTransform.calls a1 a2 (foldStrIf a2 a1) _ HAM2.out (fold_f a1 a2 H1.out)).mono ?_
  rintro e W3 ⟨rfl, hb3⟩
  have HBb := Aside0.mk (below_step HBa.out hb3)
  clear hb3 HBa HAM2 HAMB
  have HSZ : Aside0 ((foldStrIf a2 a1).size ≤ 4294967296) := ⟨by have := foldIf_size a1 a2; have := H1.out; omega⟩
  obtain ⟨s, hs_⟩ : ∃ s, s = foldStrIf a2 a0 := ⟨_, rfl⟩
  obtain ⟨t0, ht_⟩ : ∃ t0, t0 = foldStrIf a2 a1 := ⟨_, rfl⟩
  simp only [← hs_, ← ht_] at *
  clear hs_ ht_
  go_wp2
  go_step3
  go_wp2
  have HI := Aside0.mk (World.iter_heap W3 s 0)
  have HB := Aside0.mk (below_alloc HBb.out (.stringIter s 0))
  have HN0 : Aside0 (w.heap.size ≤ W3.heap.size) := ⟨below_size HBb.out⟩
  go_loopg [1, 8] s.size (fun kq v1 v8 w' => ∃ (pos n : Nat) (t : ByteArray), v1 = .string t ∧ v8 = .int .i64 (n : Int) ∧ Aside0 (s.size - pos ≤ kq) ∧ Aside0 (w'.heap[W3.heap.size]? = some (.stringIter s pos)) ∧ Aside0 (Below w.heap.size w w') ∧ Aside0 (n + t.size ≤ 4294967296) ∧ Aside0 (∀ x ∈ strRunes t, x ≠ 65533) ∧ Aside0 (rankGo (runesAt s pos) (strRunes t) n = r))
  case atStart => exact ⟨0, 0, t0, rfl, rfl, ⟨Nat.le_refl _⟩, HI, HB, ⟨by have := HSZ.out; omega⟩, HX, ⟨HR.out⟩⟩
  case round =>
    clear HI HB HX HR H1 H0 HSZ
    obtain ⟨pos, n, t, rfl, rfl, HK, HI, HB, HT, HX, HE⟩ := hrel
    by_cases hp : pos < s.size
    · have hnx : ∀ ty, (Instr.next (.pointer (some ⟨W3.heap.size, 0, none⟩)) true ty).run Tryd.prog wr = _ := fun ty => Lib.run_next_any_at wr W3.heap.size s pos ty HI.out hp
      have HE1 := HE.out
      rw [runesAt_step s pos hp] at HE1
      have HE2 := Aside0.mk HE1
      clear HE1 HE
      have HW := Aside0.mk (Lib.decode_width_pos s pos hp)
      have HI1 := Aside0.mk (Lib.iterAt_heap wr W3.heap.size s pos (pos + (Utf8.decode s pos).2) HI.out)
      have HB1 := Aside0.mk (Lib.below_iterAt HB.out HN0.out s (pos + (Utf8.decode s pos).2))
      cases gk with
      | zero => exact absurd HK.out (by omega)
      | succ k1 =>
        go_wp2
        obtain ⟨W1, HW1⟩ : ∃ W1, W1 = wr.iterAt W3.heap.size s (pos + (Utf8.decode s pos).2) := ⟨_, rfl⟩
        rw [← HW1] at HI1 HB1
        simp only [← HW1]
        clear HW1 hnx HI HB
        obtain ⟨c, hc⟩ : ∃ c : Int, c = ((Utf8.decode s pos).1 : Int) := ⟨_, rfl⟩
        simp only [← hc]
        simp only [← hc] at HE2
        obtain ⟨q, hq⟩ : ∃ q : Nat, q = pos + (Utf8.decode s pos).2 := ⟨_, rfl⟩
        rw [← hq] at HI1 HE2
        have HQ : Aside0 (s.size - q ≤ k1) := ⟨by have := HK.out; have := HW.out; omega⟩
        clear hq hc HW hp HK
        have HI2 := Aside0.mk (iter_alloc HI1.out (.stringIter t 0))
        have HJ2 := Aside0.mk (World.iter_heap W1 t 0)
        have HB2 := Aside0.mk (below_alloc HB1.out (.stringIter t 0))
        have HN : Aside0 (W3.heap.size < W1.heap.size) := ⟨(Array.getElem?_eq_some_iff.1 HI1.out).1⟩
        go_loopg [1, 8] t.size (fun kq v1 v8 w' => ∃ (p m : Nat), v1 = .string t ∧ v8 = .int .i64 (m : Int) ∧ Aside0 (t.size - p ≤ kq) ∧ Aside0 (w'.heap[W3.heap.size]? = some (.stringIter s q)) ∧ Aside0 (w'.heap[W1.heap.size]? = some (.stringIter t p)) ∧ Aside0 (Below w.heap.size w w') ∧ Aside0 (m + (t.size - p) ≤ 4294967296) ∧ Aside0 (skipTo c (strRunes t) n = skipTo c (runesAt t p) m) ∧ Aside0 (∀ x ∈ runesAt t p, x ≠ 65533))
        case atStart => exact ⟨0, n, rfl, rfl, ⟨Nat.le_refl _⟩, HI2, HJ2, HB2, HT, ⟨rfl⟩, ⟨HX.out⟩⟩
        case round =>
          clear HI2 HJ2 HB2 HI1 HB1
          obtain ⟨p, m, rfl, rfl, HK2, HI, HJ, HB, HM, HD, HY⟩ := hrel
          by_cases hp : p < t.size
          · have hnx : ∀ ty, (Instr.next (.pointer (some ⟨W1.heap.size, 0, none⟩)) true ty).run Tryd.prog wr = _ := fun ty => Lib.run_next_any_at wr W1.heap.size t p ty HJ.out hp
            have hy := HY.out
            have hdd := HD.out
            rw [runesAt_step t p hp] at hy hdd
            have hne : (Utf8.decode t p).1 ≠ 65533 := fun e_ => hy _ (List.mem_cons_self ..) (by rw [e_]; rfl)
            have HRL := Aside0.mk (runeLen_at t p hne)
            have HY1 : Aside0 (∀ x ∈ runesAt t (p + (Utf8.decode t p).2), x ≠ 65533) := ⟨fun x hx_ => hy x (List.mem_cons_of_mem _ hx_)⟩
            have hle : ((p : Int) + ((Utf8.decode t p).2 : Int)) ≤ (t.size : Int) := by have := decode_le_size t p hp; omega
            have hbd : (t.size : Int) ≤ 4294967296 := by have := HT.out; omega
            have hbm : (m : Int) ≤ 4294967296 := by have := HM.out; omega
            have HW := Aside0.mk (Lib.decode_width_pos t p hp)
            have HP := Aside0.mk hp
            have HLE := Aside0.mk hle
            have HJ1 := Aside0.mk (Lib.iterAt_heap wr W1.heap.size t p (p + (Utf8.decode t p).2) HJ.out)
            have HI1 : Aside0 ((wr.iterAt W1.heap.size t (p + (Utf8.decode t p).2)).heap[W3.heap.size]? = some (.stringIter s q)) := ⟨by rw [Lib.iterAt_other _ _ _ _ _ (by have := HN.out; omega)]; exact HI.out⟩
            have HB1 := Aside0.mk (Lib.below_iterAt HB.out (Nat.le_trans HN0.out (Nat.le_of_lt HN.out)) t (p + (Utf8.decode t p).2))
            clear hy hne HY
            by_cases hc : (c == ((Utf8.decode t p).1 : Int)) = true
            · have hcc : c = ((Utf8.decode t p).1 : Int) := beq_iff_eq.1 hc
              have HE3 : Aside0 (rankGo (runesAt s q) (strRunes (t.extract (p + (Utf8.decode t p).2) t.size)) m = r) := ⟨by
                rw [strRunes_extract t _ (by omega)]
                have h2 := HE2.out
                rw [rankGo, hdd, skipTo, if_pos hcc] at h2
                exact h2⟩
              have HX3 : Aside0 (∀ x ∈ strRunes (t.extract (p + (Utf8.decode t p).2) t.size), x ≠ 65533) := ⟨by rw [strRunes_extract t _ (by omega)]; exact HY1.out⟩
              have HT3 : Aside0 (m + (t.extract (p + (Utf8.decode t p).2) t.size).size ≤ 4294967296) := ⟨by rw [size_extract_end]; have := HM.out; omega⟩
              have HEX : Aside0 (((p : Int) + ((Utf8.decode t p).2 : Int)).toNat = p + (Utf8.decode t p).2) := ⟨by omega⟩
              clear hdd hcc
              go_wp2_with (go_at_call 57; refine (Tryd.utf8_RuneLen _ _).mono ?_; rintro e w' ⟨rfl, rfl⟩; rw [HRL.out])
              go_roundg k1
              case measure => omega
              case rel => exact ⟨q, m, t.extract (p + (Utf8.decode t p).2) t.size, by first | rfl | (rw [← HEX.out]) | (congr 2; have := HEX.out; omega), rfl, HQ, HI1, HB1, HT3, HX3, HE3⟩
            · replace hc := Bool.eq_false_iff.mpr hc
              have hcc : ¬ c = ((Utf8.decode t p).1 : Int) := beq_eq_false_iff_ne.1 hc
              have HD3 : Aside0 (skipTo c (strRunes t) n = skipTo c (runesAt t (p + (Utf8.decode t p).2)) (m + 1)) := ⟨by rw [hdd, skipTo, if_neg hcc]⟩
              clear hdd hcc
              cases gk with
              | zero => exact absurd HK2.out (by have := HP.out; omega)
              | succ k2 =>
                go_wp2
                go_roundg k2
                case measure => omega
                case rel => exact ⟨p + (Utf8.decode t p).2, m + 1, rfl, by go_num, ⟨by have := HK2.out; have := HW.out; omega⟩, HI1, HJ1, HB1, ⟨by have := HM.out; have := HW.out; have := HLE.out; omega⟩, HD3, HY1⟩
          · have hnx : ∀ ty, (Instr.next (.pointer (some ⟨W1.heap.size, 0, none⟩)) true ty).run Tryd.prog wr = _ := fun ty => Lib.run_next_end_at wr W1.heap.size t p ty HJ.out hp
            have hdd := HD.out
            rw [runesAt_end t p hp] at hdd
            have HR3 : Aside0 (r = -1) := ⟨by
              have h2 := HE2.out
              rw [rankGo, hdd, skipTo] at h2
              exact h2.symm⟩
            clear hdd
            go_wp2
            (try rw [Exit.noGoto_ret])
            go_ret
            exact ⟨by rw [HR3.out]; rfl, HB.out⟩
    · have hnx : ∀ ty, (Instr.next (.pointer (some ⟨W3.heap.size, 0, none⟩)) true ty).run Tryd.prog wr = _ := fun ty => Lib.run_next_end_at wr W3.heap.size s pos ty HI.out hp
      have HE1 := HE.out
      rw [runesAt_end s pos hp] at HE1
      have HE2 : Aside0 (r = (n : Int) + ((strRunes t).length : Int)) := ⟨by rw [← HE1]; simp [rankGo]⟩
      have HC := Aside0.mk (runeCount_eq t)
      have hb8 : (n : Int) + ((strRunes t).length : Int) ≤ 4294967296 := by have := strRunes_length t; have := HT.out; omega
      have HTS : Aside0 (t.size < 9223372036854775807) := ⟨by have := HT.out; omega⟩
      clear HE1 HE
      go_wp2_with (go_at_call 58; refine (Tryd.utf8_RuneCountInString t _ HTS.out).mono ?_; rintro e w' ⟨rfl, qq, rfl⟩; rw [HC.out])
      (try rw [Exit.noGoto_ret])
      go_ret
      exact ⟨by rw [HE2.out]; rfl, below_alloc HB.out _⟩
set_option maxHeartbeats 1000000 in
set_option maxRecDepth 100000 in
theorem fuzzysearch_rank.calls (a0 a1 : ByteArray) (a2 : Bool) (r : Int) (w : World) (hA_ : Amb w) (h : fuzzysearch_rank.f a0 a1 a2 = some r) :
    Calls Tryd.prog 49 #[.string a0, .string a1, .bool a2] w fun e w' => e = .returned (.int .i64 r) ∧ Below w.heap.size w w' := by
  unfold fuzzysearch_rank.f at h
  split at h
  case isFalse => cases h
  case isTrue hh =>
  obtain ⟨h0, h1, hx⟩ := hh
  have hr := Option.some.inj h
  clear h
  unfold rankB at hr
  by_cases hlt : a1.size < a0.size
  · rw [if_pos hlt] at hr
    subst hr
    have hd : decide ((a1.size : Int) - (a0.size : Int) < 0) = true := by simp; omega
    clear hx hlt hA_
    have HB := Aside0.mk (Below.refl w.heap.size w)
    go_enter Tryd.func49, Tryd.ntmps49
    go_wp2
    go_step3
    go_wp2
    (try rw [Exit.noGoto_ret])
    go_ret
    exact ⟨rfl, HB.out⟩
  · rw [if_neg hlt] at hr
    have hd : decide ((a1.size : Int) - (a0.size : Int) < 0) = false := by simp; omega
    by_cases hs : a1.size = a0.size
    · have he : ((a1.size : Int) - (a0.size : Int) == 0) = true := by rw [beq_iff_eq]; omega
      cases hl : ((foldStrIf a2 a0).toList == (foldStrIf a2 a1).toList) with
      | true =>
        rw [if_pos ⟨hs, hl⟩] at hr
        subst hr
        have H0 := Aside0.mk h0
        have H1 := Aside0.mk h1
        have HAMB := Aside0.mk hA_
        clear hx hlt hs hA_
        go_enter Tryd.func49, Tryd.ntmps49
        go_wp2
        go_step3
        go_wp2_with fail
        go_at_call 55
        refine (fuzzysearch_stringTransform.calls a0 a2 (foldStrIf a2 a0) _ HAMB.out (fold_f a0 a2 H0.out)).mono ?_
        rintro e W2 ⟨rfl, hb2⟩
        have HBa := Aside0.mk hb2
        have HAM2 := Aside0.mk (Amb.below HAMB.out hb2)
        clear hb2
        go_wp2_with fail
        go_at_call 55
        refine (fuzzysearch_stringTransform.calls a1 a2 (foldStrIf a2 a1) _ HAM2.out (fold_f a1 a2 H1.out)).mono ?_
        rintro e W3 ⟨rfl, hb3⟩
        have HBb := Aside0.mk (below_step HBa.out hb3)
        clear hb3 HBa HAM2 HAMB
        go_wp2
        (try rw [Exit.noGoto_ret])
        go_ret
        exact ⟨rfl, HBb.out⟩
      | false =>
        rw [if_neg (fun hh => by rw [hl] at hh; exact absurd hh.2 (by decide))] at hr
        exact rank_loop_eq a0 a1 a2 r w hA_ h0 h1 hx hd he hl hr
    · have he : ((a1.size : Int) - (a0.size : Int) == 0) = false := by rw [beq_eq_false_iff_ne]; omega
      rw [if_neg (fun hh => hs hh.1)] at hr
      exact rank_loop a0 a1 a2 r w hA_ h0 h1 hx hd he hr
end Go.Proofs.YtfkemfkleceeiaaDoor
