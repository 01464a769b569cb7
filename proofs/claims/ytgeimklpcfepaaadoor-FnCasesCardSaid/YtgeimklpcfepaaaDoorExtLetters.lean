/- spec.Letters by hand: the runes of a text and where each begins. -/
import Derived.Test.YtgeimklpcfepaaaDoorIter
import Derived.Test.YtgeimklpcfepaaaDoorP0
namespace Go.Proofs.YtgeimklpcfepaaaDoor
open Go.RowKit Go.Proofs.YtgeimklpcfepaaaDoorW.PrintWords
open P
set_option linter.unusedVariables false
set_option linter.unusedSimpArgs false

/-- The letters of a string from a place on, by at most so many. -/
def lettersFrom (s : ByteArray) : Nat → Nat → List S45
  | 0, _ => []
  | f + 1, pos => if pos < s.size then (⟨((Utf8.decode s pos).1 : Int), (pos : Int)⟩ : S45) :: lettersFrom s f (pos + (Utf8.decode s pos).2) else []
def lettersAt (s : ByteArray) (pos : Nat) : List S45 := lettersFrom s s.size pos
def letters (s : ByteArray) : List S45 := lettersAt s 0
theorem lettersFrom_end (s : ByteArray) (f pos : Nat) (h : ¬ pos < s.size) : lettersFrom s f pos = [] := by
  cases f <;> simp [lettersFrom, h]
theorem lettersFrom_length (s : ByteArray) : ∀ f pos, (lettersFrom s f pos).length ≤ f
  | 0, _ => by simp [lettersFrom]
  | f + 1, pos => by
    have ih := lettersFrom_length s f (pos + (Utf8.decode s pos).2)
    unfold lettersFrom
    split <;> simp <;> omega
theorem letters_length (s : ByteArray) : (letters s).length ≤ s.size := lettersFrom_length s _ _
theorem lettersFrom_more (s : ByteArray) : ∀ f g pos, s.size ≤ pos + f → s.size ≤ pos + g → lettersFrom s f pos = lettersFrom s g pos
  | 0, g, pos, h, _ => by rw [lettersFrom_end s g pos (by omega)]; rfl
  | f + 1, 0, pos, _, h => by rw [lettersFrom_end s (f + 1) pos (by omega)]; rfl
  | f + 1, g + 1, pos, h, h' => by
    unfold lettersFrom
    by_cases hp : pos < s.size
    · have hw := Lib.decode_width_pos s pos hp
      rw [if_pos hp, if_pos hp, lettersFrom_more s f g _ (by omega) (by omega)]
    · rw [if_neg hp, if_neg hp]
theorem lettersAt_end (s : ByteArray) (pos : Nat) (h : ¬ pos < s.size) : lettersAt s pos = [] := lettersFrom_end s _ _ h
theorem lettersAt_step (s : ByteArray) (pos : Nat) (h : pos < s.size) : lettersAt s pos = (⟨((Utf8.decode s pos).1 : Int), (pos : Int)⟩ : S45) :: lettersAt s (pos + (Utf8.decode s pos).2) := by
  have hw := Lib.decode_width_pos s pos h
  unfold lettersAt
  obtain ⟨n, hn⟩ : ∃ n, s.size = n + 1 := ⟨s.size - 1, by omega⟩
  rw [hn]
  rw [lettersFrom, if_pos h, lettersFrom_more s n (n + 1) _ (by omega) (by omega)]
def spec_Letters.f (a0 : ByteArray) : Option (List S45) := if a0.size ≤ 1073741824 then some (letters a0) else none

set_option maxHeartbeats 1000000 in
set_option maxRecDepth 100000 in
theorem spec_Letters.calls (a0 : ByteArray) (r : List S45) (w : World) (h : spec_Letters.f a0 = some r) :
    Calls Tryd.prog 19 #[.string a0] w fun e w' => ∃ v0_ : Value, e = .returned (v0_) ∧ Kd.R k45 45 w' w.heap.size (fun _ => True) v0_ r ∧ Below w.heap.size w w' := by
  unfold spec_Letters.f at h
  split at h
  case isFalse => cases h
  case isTrue hsz =>
  have HR := Aside0.mk (Option.some.inj h)
  clear h
  have HSZ := Aside0.mk hsz
  have HB := Aside0.mk (Below.refl w.heap.size w)
  go_enter Tryd.func19, Tryd.ntmps19
  go_wp2_with (first | ((with_reducible refine gate_dst (N := 6) rfl ?_); refine Kd.R_lit k45 _ 45 ?hg (N := 6) ?hd (xs := ([] : List S45)) (inner := []) (ok := fun _ => True) (okp := fun _ => True) ?hr ?hp (fun _ hk => hk) trivial (Below.refl _ _) (Nat.le_refl _) (by simp) ?_; (case hd => rfl); (case hg => rfl); (case hr => first | (go_simp; done) | (go_simp; rfl)); (case hp => exact (Reps.none _ _)); intro v124 w2 ho3 hb hg_ hnew_; clear hg_ hnew_; have HO := Aside0.mk (Kd.R_lower ho3 (Nat.le_refl _)); clear HB; have HB := Aside0.mk hb; clear hb ho3))
  have HL : Aside0 (r.length ≤ 1073741824) := ⟨by rw [← HR.out]; exact Nat.le_trans (letters_length a0) HSZ.out⟩
  have HI := Aside0.mk (World.iter_heap w2 a0 0)
  have HZ : Aside0 (w.heap.size ≤ w2.heap.size) := ⟨below_size HB.out⟩
  have HO' := Aside0.mk (Kd.R_alloc HO.out (.stringIter a0 0))
  have HB' := Aside0.mk (below_alloc HB.out (.stringIter a0 0))
  clear HO HB
  go_loopw [3] (fun v3 w' => ∃ (pos : Nat) (acc : List S45), Aside0 (w'.heap[w2.heap.size]? = some (.stringIter a0 pos)) ∧ Aside0 (Kd.R k45 45 w' w.heap.size (fun _ => True) v3 acc) ∧ Aside0 (Below w.heap.size w w') ∧ Aside0 (acc ++ lettersAt a0 pos = r)) (fun _ w' => a0.size - w'.iterPos w2.heap.size)
  case atStart => exact ⟨0, [], HI, HO', HB', ⟨by rw [List.nil_append]; exact HR.out⟩⟩
  case round =>
    clear HR HI HO' HB'
    obtain ⟨pos, acc, HI, HO, HB, HE⟩ := hrel
    by_cases hp : pos < a0.size
    · have hnx : ∀ ty, (Instr.next (.pointer (some ⟨w2.heap.size, 0, none⟩)) true ty).run Tryd.prog wr = _ := fun ty => Lib.run_next_any_at wr w2.heap.size a0 pos ty HI.out hp
      have HE1 := HE.out
      rw [lettersAt_step a0 pos hp] at HE1
      have HN : Aside0 (acc.length + 1 ≤ 1073741824) := ⟨by have := congrArg List.length HE1; simp at this; have := HL.out; omega⟩
      have HW := Aside0.mk (Lib.decode_width_pos a0 pos hp)
      have HI1 := Aside0.mk (Lib.iterAt_heap wr w2.heap.size a0 pos (pos + (Utf8.decode a0 pos).2) HI.out)
      have HO1 := Aside0.mk (Kd.R_iterAt HO.out HI.out (pos + (Utf8.decode a0 pos).2))
      have HB1 := Aside0.mk (Lib.below_iterAt HB.out HZ.out a0 (pos + (Utf8.decode a0 pos).2))
      have HE2 : Aside0 ((acc ++ [(⟨((Utf8.decode a0 pos).1 : Int), (pos : Int)⟩ : S45)]) ++ lettersAt a0 (pos + (Utf8.decode a0 pos).2) = r) := ⟨by rw [List.append_assoc]; exact HE1⟩
      clear HE1
      go_wp2_with (first | ((with_reducible refine gate_builtin (b := .append) (xs := #[.tmp 13, .tmp 17]) rfl ?_); at_builtin; refine Kd.R_append k45 (w0 := w) w.heap.size rfl (.tmp 13) (.tmp 17) 36 45 (.agg #[(.int .i32 0), (.int .i64 0)]) 16 rfl Tryd.underlying36 info45 rfl (by decide) (by omega) u3 acc (⟨((Utf8.decode a0 pos).1 : Int), (pos : Int)⟩ : S45) [.int .i32 ((Utf8.decode a0 pos).1 : Int), .int .i64 (pos : Int)] (fun _ => True) (fun _ => False) rfl rfl ?aP (fun _ hk => hk.elim) ?aF ?aO ?aB ?aS ?aL ?_; (case aP => exact k45_mkM _ _ _ (⟨((Utf8.decode a0 pos).1 : Int), (pos : Int)⟩ : S45)); (case aF => exact fun _ _ => trivial); (case aO => (with_reducible repeat (first | apply Kd.R_alloc | apply Kd.R_drewN | apply Kd.R_drew)); exact HO1.out); (case aB => exact (by repeat (first | (with_reducible first | exact HB1.out | apply below_alloc | apply pw_below_drewN | apply below_drew1) | exact HB1.out))); (case aS => exact below_size (by repeat (first | (with_reducible first | exact HB1.out | apply below_alloc | apply pw_below_drewN | apply below_drew1) | exact HB1.out))); (case aL => have := HN.out; omega); intro v6 w6 ho hb hg hat; have HO2 := Aside0.mk ho; have HB2 := Aside0.mk hb; have HI2 := Aside0.mk (iter_grown (e := 45) (base := w.heap.size) (ok := fun _ => True) (by (with_reducible repeat (first | apply Kd.R_alloc | apply Kd.R_drewN | apply Kd.R_drew)); exact HO1.out) (by first | exact HI1.out | exact iter_below HI1.out (by repeat (first | exact Below.refl _ _ | apply below_alloc | apply pw_below_drewN | apply below_drew1))) hg); clear ho hb hg hat))
      go_roundw
      case rel => exact ⟨pos + (Utf8.decode a0 pos).2, acc ++ [(⟨((Utf8.decode a0 pos).1 : Int), (pos : Int)⟩ : S45)], HI2, HO2, HB2, HE2⟩
      case measure =>
        have h1 : ∀ W : World, W.heap[w2.heap.size]? = some (.stringIter a0 (pos + (Utf8.decode a0 pos).2)) → W.iterPos w2.heap.size = pos + (Utf8.decode a0 pos).2 := fun W hW => by simp [World.iterPos, hW]
        have h2 : wr.iterPos w2.heap.size = pos := by have := HI.out; simp [World.iterPos, this]
        rw [h1 _ HI2.out, h2]
        have := HW.out
        omega
    · have hnx : ∀ ty, (Instr.next (.pointer (some ⟨w2.heap.size, 0, none⟩)) true ty).run Tryd.prog wr = _ := fun ty => Lib.run_next_end_at wr w2.heap.size a0 pos ty HI.out hp
      have HE2 := HE.out
      rw [lettersAt_end a0 pos hp, List.append_nil] at HE2
      subst HE2
      go_wp2
      go_ret
      exact ⟨_, rfl, HO.out, HB.out⟩
end Go.Proofs.YtgeimklpcfepaaaDoor
