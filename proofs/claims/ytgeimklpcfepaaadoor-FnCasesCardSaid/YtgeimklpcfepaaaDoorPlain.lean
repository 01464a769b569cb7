/- Plain facts on strings and their runes: what a range over a string, or []rune(s), hands over; nothing of the program. -/
import Derived.Laws.IdiomStrings
import Derived.Lib.RuneCount
import Derived.Lib.CaseU
namespace Go.Proofs.YtgeimklpcfepaaaDoor
open Go

/-- The runes of a string from a place on, by at most so many. -/
def runesFrom (s : ByteArray) : Nat → Nat → List Int
  | 0, _ => []
  | f + 1, pos => if pos < s.size then ((Utf8.decode s pos).1 : Int) :: runesFrom s f (pos + (Utf8.decode s pos).2) else []
/-- The runes of a string. -/
def strRunes (s : ByteArray) : List Int := runesFrom s s.size 0

theorem runesFrom_end (s : ByteArray) (f pos : Nat) (h : ¬ pos < s.size) : runesFrom s f pos = [] := by
  cases f <;> simp [runesFrom, h]
theorem runesFrom_length (s : ByteArray) : ∀ f pos, (runesFrom s f pos).length ≤ f
  | 0, _ => by simp [runesFrom]
  | f + 1, pos => by
    have ih := runesFrom_length s f (pos + (Utf8.decode s pos).2)
    unfold runesFrom
    split <;> simp <;> omega
theorem strRunes_length (s : ByteArray) : (strRunes s).length ≤ s.size := runesFrom_length s _ _
/-- More rounds than bytes are left tell nothing more. -/
theorem runesFrom_more (s : ByteArray) : ∀ f g pos, s.size ≤ pos + f → s.size ≤ pos + g → runesFrom s f pos = runesFrom s g pos
  | 0, g, pos, h, _ => by rw [runesFrom_end s g pos (by omega)]; rfl
  | f + 1, 0, pos, _, h => by rw [runesFrom_end s (f + 1) pos (by omega)]; rfl
  | f + 1, g + 1, pos, h, h' => by
    unfold runesFrom
    by_cases hp : pos < s.size
    · have hw := Lib.decode_width_pos s pos hp
      rw [if_pos hp, if_pos hp, runesFrom_more s f g _ (by omega) (by omega)]
    · rw [if_neg hp, if_neg hp]
theorem runesFrom_step (s : ByteArray) (f pos : Nat) (h : pos < s.size) : runesFrom s (f + 1) pos = ((Utf8.decode s pos).1 : Int) :: runesFrom s f (pos + (Utf8.decode s pos).2) := by
  rw [runesFrom, if_pos h]
/-- What is left from a place on, with as many rounds as wanted. -/
def runesAt (s : ByteArray) (pos : Nat) : List Int := runesFrom s s.size pos
theorem runesAt_end (s : ByteArray) (pos : Nat) (h : ¬ pos < s.size) : runesAt s pos = [] := runesFrom_end s _ _ h
theorem runesAt_step (s : ByteArray) (pos : Nat) (h : pos < s.size) : runesAt s pos = ((Utf8.decode s pos).1 : Int) :: runesAt s (pos + (Utf8.decode s pos).2) := by
  have hw := Lib.decode_width_pos s pos h
  unfold runesAt
  obtain ⟨n, hn⟩ : ∃ n, s.size = n + 1 := ⟨s.size - 1, by omega⟩
  rw [hn, runesFrom_step s n pos h, runesFrom_more s n (n + 1) _ (by omega) (by omega)]
theorem strRunes_at (s : ByteArray) : strRunes s = runesAt s 0 := rfl
theorem runesAt_length (s : ByteArray) (pos : Nat) : (runesAt s pos).length ≤ s.size - pos := by
  unfold runesAt
  rw [runesFrom_more s s.size (s.size - pos) pos (by omega) (by omega)]
  exact runesFrom_length s _ _

/-- The model's own list of runes. -/
theorem conv_runes (s : ByteArray) : ∀ (f pos : Nat) (acc : Array Value), s.size ≤ pos + f → Conv.runesFrom s f pos acc = acc ++ ((runesFrom s f pos).map (Value.int .i32)).toArray
  | 0, pos, acc, h => by simp [Conv.runesFrom, runesFrom]
  | f + 1, pos, acc, h => by
    unfold Conv.runesFrom runesFrom
    by_cases hp : pos < s.size
    · have hw := Lib.decode_width_pos s pos hp
      rw [if_pos hp, if_pos hp]
      refine (conv_runes s f (pos + (Utf8.decode s pos).2) (acc.push (.int .i32 (Int.ofNat (Utf8.decode s pos).1))) (by omega)).trans ?_
      simp
    · simp [hp]
theorem conv_strRunes (s : ByteArray) : Conv.runesFrom s s.size 0 #[] = ((strRunes s).map (Value.int .i32)).toArray := by
  rw [conv_runes s s.size 0 #[] (by omega)]
  simp [strRunes]

theorem decode_fst_lt (s : ByteArray) (pos : Nat) : (Utf8.decode s pos).1 ≤ 1114111 := by
  have hb : ∀ k, (s.get! (pos + k)).toNat < 256 := fun k => (s.get! (pos + k)).toNat_lt
  have h0 := hb 0; have h1 := hb 1; have h2 := hb 2; have h3 := hb 3
  simp only [Utf8.decode]
  repeat' split
  all_goals simp_all [Utf8.runeError, Utf8.valid]
  all_goals omega
theorem runesFrom_range (s : ByteArray) : ∀ f pos, ∀ r ∈ runesFrom s f pos, 0 ≤ r ∧ r ≤ 1114111
  | 0, _, r, h => by simp [runesFrom] at h
  | f + 1, pos, r, h => by
    unfold runesFrom at h
    split at h
    · rcases List.mem_cons.1 h with rfl | h
      · have := decode_fst_lt s pos; omega
      · exact runesFrom_range s f _ r h
    · simp at h
theorem strRunes_range (s : ByteArray) : ∀ r ∈ strRunes s, 0 ≤ r ∧ r ≤ 1114111 := runesFrom_range s _ _
end Go.Proofs.YtgeimklpcfepaaaDoor
