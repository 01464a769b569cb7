/- Plain facts on cutting texts between runes; runes that stand among others. -/
import Derived.Test.YtgeimklpcfepaaaDoorPlain
import Derived.Lib.MapLaws
import Derived.Lib.IndexBytes
import Derived.Lib.Small
namespace Go.Proofs.YtgeimklpcfepaaaDoor
open Go

theorem extract_list (s : ByteArray) (p : Nat) (_hp : p ≤ s.size) : (s.extract p s.size).data.toList = s.data.toList.drop p := by
  simp [ByteArray.data_extract, Array.toList_extract]
  exact List.take_of_length_le (by simp)
theorem decode_extract (s : ByteArray) (p i : Nat) (hp : p ≤ s.size) : Utf8.decode (s.extract p s.size) i = Utf8.decode s (p + i) := by
  rw [← Lib.decodeL_drop, ← Lib.decodeL_drop, extract_list s p hp, List.drop_drop]
theorem size_extract_end (s : ByteArray) (p : Nat) : (s.extract p s.size).size = s.size - p := by simp [ByteArray.size_extract]
theorem runesFrom_extract (s : ByteArray) (p : Nat) (hp : p ≤ s.size) : ∀ f i, runesFrom (s.extract p s.size) f i = runesFrom s f (p + i)
  | 0, _ => rfl
  | f + 1, i => by
    unfold runesFrom
    rw [size_extract_end, decode_extract s p i hp]
    by_cases h : i < s.size - p
    · rw [if_pos h, if_pos (by omega), runesFrom_extract s p hp f, Nat.add_assoc]
    · rw [if_neg h, if_neg (by omega)]
theorem strRunes_extract (s : ByteArray) (p : Nat) (hp : p ≤ s.size) : strRunes (s.extract p s.size) = runesAt s p := by
  show runesFrom _ _ _ = runesFrom _ _ _
  rw [runesFrom_extract s p hp, size_extract_end, Nat.add_zero]
  exact runesFrom_more s _ _ _ (by omega) (by omega)
theorem decode_le_size (s : ByteArray) (pos : Nat) (h : pos < s.size) : pos + (Utf8.decode s pos).2 ≤ s.size := by
  have := Lib.decodeL_le (s.data.toList.drop pos) (by intro he; have := congrArg List.length he; simp at this; omega)
  rw [Lib.decodeL_drop] at this
  simp at this
  omega
theorem runeLen_at (s : ByteArray) (pos : Nat) (h : (Utf8.decode s pos).1 ≠ 65533) : Lib.runeLen ((Utf8.decode s pos).1 : Int) = ((Utf8.decode s pos).2 : Int) := by
  have := Lib.runeLen_decode (s.data.toList.drop pos) (by rw [Lib.decodeL_drop]; exact h)
  rwa [Lib.decodeL_drop] at this

/-- What stands behind the first c. -/
def dropTo (c : Int) : List Int → Option (List Int)
  | [] => none
  | x :: xs => if c = x then some xs else dropTo c xs
/-- Do runes stand among others, in their order? -/
def isSub : List Int → List Int → Bool
  | [], _ => true
  | c :: cs, l => match dropTo c l with
    | none => false
    | some l' => isSub cs l'
theorem dropTo_length {c : Int} : ∀ {l l' : List Int}, dropTo c l = some l' → l'.length < l.length
  | [], _, h => by cases h
  | x :: xs, l', h => by
    unfold dropTo at h
    split at h
    · cases h; simp
    · have := dropTo_length h; simp; omega
theorem dropTo_mem {c : Int} : ∀ {l l' : List Int}, dropTo c l = some l' → ∀ x ∈ l', x ∈ l
  | [], _, h => by cases h
  | y :: xs, l', h => by
    unfold dropTo at h
    split at h
    · cases h; exact fun x hx => List.mem_cons_of_mem _ hx
    · exact fun x hx => List.mem_cons_of_mem _ (dropTo_mem h x hx)
/-- A text without U+FFFD is its runes' bytes. -/
theorem bytes_of_runes (s : ByteArray) : ∀ f pos, s.size ≤ pos + f → (∀ x ∈ runesFrom s f pos, x ≠ 65533) → s.data.toList.drop pos = (runesFrom s f pos).flatMap Lib.encodeRune
  | 0, pos, h, _ => by
    rw [List.drop_eq_nil_of_le (by simpa using h)]; rfl
  | f + 1, pos, h, hx => by
    unfold runesFrom at hx ⊢
    by_cases hp : pos < s.size
    · rw [if_pos hp] at hx ⊢
      have hw := Lib.decode_width_pos s pos hp
      have hne : s.data.toList.drop pos ≠ [] := by intro he; have := congrArg List.length he; simp at this; omega
      have h1 : (Utf8.decode s pos).1 ≠ 65533 := fun e => hx _ (List.mem_cons_self ..) (by rw [e]; rfl)
      have h2 := Lib.encode_decode (s.data.toList.drop pos) hne (by rw [Lib.decodeL_drop]; exact fun hh => h1 hh.1)
      rw [Lib.decodeL_drop] at h2
      have h3 := bytes_of_runes s f (pos + (Utf8.decode s pos).2) (by omega) (fun x hx' => hx x (List.mem_cons_of_mem _ hx'))
      rw [List.flatMap_cons, h2, ← h3, ← List.drop_drop, List.take_append_drop]
    · rw [if_neg hp]
      rw [List.drop_eq_nil_of_le (by simp; omega)]; rfl
theorem runes_inj {s t : ByteArray} (hs : ∀ x ∈ strRunes s, x ≠ 65533) (ht : ∀ x ∈ strRunes t, x ≠ 65533) (h : strRunes s = strRunes t) : s.data.toList = t.data.toList := by
  have h1 := bytes_of_runes s s.size 0 (by omega) hs
  have h2 := bytes_of_runes t t.size 0 (by omega) ht
  rw [List.drop_zero] at h1 h2
  rw [h1, h2]
  exact congrArg _ h
theorem runes_of_bytes {s t : ByteArray} (h : s.data.toList = t.data.toList) : s = t := by
  cases s; cases t
  simp only at h
  rw [Array.toList_inj.1 h]
end Go.Proofs.YtgeimklpcfepaaaDoor
