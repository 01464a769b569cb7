/- Plain facts on folding: texts made of runes, unicode's small letters, runes that stand among others. -/
import Derived.Test.YtfkemfkleceeiaaDoorTexts
import Derived.Laws.Cover4
import Derived.Lib.CaseU
import Derived.Shelf.Unicode.CaseLaid
namespace Go.Proofs.YtfkemfkleceeiaaDoor
open Go

/-! ### a text made of runes has just these -/
theorem decodeL_encode (r : Int) (hv : Lib.validRune r = true) (t : List UInt8) : Lib.decodeL ((Utf8.encode r).data.toList ++ t) = (r.toNat, (Utf8.encode r).data.toList.length) := by
  have hv' : (0 ≤ r ∧ r < 55296) ∨ (57343 < r ∧ r ≤ 1114111) := by simpa [Lib.validRune] using hv
  have hu : Utf8.valid r = true := by simp [Utf8.valid]; omega
  rw [Lib.decodeL_N]
  unfold Utf8.encode
  rw [hu]
  simp only [if_true]
  by_cases h1 : r.toNat < 128
  · rw [if_pos h1]
    simp [Lib.decodeN, UInt8.toNat_ofNat']
    rw [if_pos (by omega)]
    simp; omega
  · rw [if_neg h1]
    by_cases h2 : r.toNat < 2048
    · rw [if_pos h2]
      simp [Lib.decodeN, UInt8.toNat_ofNat']
      rw [if_neg (by omega), if_pos (by omega), if_pos (by omega)]
      simp; omega
    · rw [if_neg h2]
      by_cases h3 : r.toNat < 65536
      · rw [if_pos h3]
        simp [Lib.decodeN, UInt8.toNat_ofNat']
        rw [if_neg (by omega), if_neg (by omega), if_pos (by omega), if_pos (by omega)]
        simp; omega
      · rw [if_neg h3]
        simp [Lib.decodeN, UInt8.toNat_ofNat']
        rw [if_neg (by omega), if_neg (by omega), if_neg (by omega), if_pos (by omega), if_pos (by omega)]
        simp; omega
theorem encode_ne (r : Int) : (Utf8.encode r).data.toList ≠ [] := by
  unfold Utf8.encode
  simp only
  repeat' split
  all_goals simp

def lrunes : Nat → List UInt8 → List Int
  | 0, _ => []
  | f + 1, l => if l = [] then [] else ((Lib.decodeL l).1 : Int) :: lrunes f (l.drop (Lib.decodeL l).2)
theorem runesFrom_list (s : ByteArray) : ∀ f pos, runesFrom s f pos = lrunes f (s.data.toList.drop pos)
  | 0, _ => rfl
  | f + 1, pos => by
    unfold runesFrom lrunes
    by_cases hp : pos < s.size
    · rw [if_pos hp, if_neg (by intro he; have := congrArg List.length he; simp at this; omega), Lib.decodeL_drop, runesFrom_list s f, List.drop_drop]
    · rw [if_neg hp, if_pos (List.drop_eq_nil_of_le (by simp; omega))]
theorem lrunes_encode : ∀ (l : List Int), (∀ x ∈ l, Lib.validRune x = true) → ∀ n, (l.flatMap fun r => (Utf8.encode r).data.toList).length ≤ n → lrunes n (l.flatMap fun r => (Utf8.encode r).data.toList) = l
  | [], _, n, _ => by cases n <;> simp [lrunes]
  | r :: l, hv, n, hn => by
    have hne := encode_ne r
    have hl : 0 < (Utf8.encode r).data.toList.length := List.length_pos_iff.2 hne
    rw [List.flatMap_cons] at hn ⊢
    rw [List.length_append] at hn
    obtain ⟨m, rfl⟩ : ∃ m, n = m + 1 := ⟨n - 1, by omega⟩
    have hr := hv r (List.mem_cons_self ..)
    have h0 : 0 ≤ r := by simp [Lib.validRune] at hr; omega
    unfold lrunes
    rw [if_neg (by simp [hne]), decodeL_encode r hr, List.drop_left, lrunes_encode l (fun x hx => hv x (List.mem_cons_of_mem _ hx)) m (by omega)]
    congr 1
    omega
theorem runesBytes_list (l : List Int) : (runesBytes l).data.toList = l.flatMap fun r => (Utf8.encode r).data.toList := by
  have h : ∀ (l : List Int) (s : ByteArray), (l.foldl (fun r n => r ++ Utf8.encode n) s).data.toList = s.data.toList ++ l.flatMap fun r => (Utf8.encode r).data.toList := by
    intro l
    induction l with
    | nil => intro s; simp
    | cons x l ih => intro s; rw [List.foldl_cons, ih, List.flatMap_cons]; simp [ByteArray.data_append]
  have h2 := h l ByteArray.empty
  simpa [runesBytes] using h2
theorem runes_runesBytes (l : List Int) (hv : ∀ x ∈ l, Lib.validRune x = true) : strRunes (runesBytes l) = l := by
  show runesFrom _ _ _ = l
  rw [runesFrom_list, List.drop_zero, runesBytes_list]
  exact lrunes_encode l hv _ (by rw [← runesBytes_list]; simp)

/-! ### what is decoded is a rune -/
theorem decode_valid (s : ByteArray) (pos : Nat) : Lib.validRune ((Utf8.decode s pos).1 : Int) = true := by
  have hb : ∀ k, (s.get! (pos + k)).toNat < 256 := fun k => (s.get! (pos + k)).toNat_lt
  have h0 := hb 0; have h1 := hb 1; have h2 := hb 2; have h3 := hb 3
  unfold Lib.validRune
  simp only [Utf8.decode]
  repeat' split
  all_goals simp_all [Utf8.runeError, Utf8.valid]
  all_goals omega
theorem runesFrom_valid (s : ByteArray) : ∀ f pos, ∀ x ∈ runesFrom s f pos, Lib.validRune x = true
  | 0, _, r, h => by simp [runesFrom] at h
  | f + 1, pos, r, h => by
    unfold runesFrom at h
    split at h
    · rcases List.mem_cons.1 h with rfl | h
      · exact decode_valid s pos
      · exact runesFrom_valid s f _ r h
    · simp at h
theorem strRunes_valid (s : ByteArray) : ∀ x ∈ strRunes s, Lib.validRune x = true := runesFrom_valid s _ _

/-! ### small letters are runes, and none but U+FFFD is made U+FFFD -/
/-- A row's images lie among the runes, and U+FFFD is none of them. -/
def lowFits (x : Lib.CaseRow) : Bool :=
  let lo : Int := if x.delta 1 > 1114111 then (x.1 : Int) else (x.1 : Int) + x.delta 1
  let hi : Int := if x.delta 1 > 1114111 then (x.2.1 : Int) + 1 else (x.2.1 : Int) + x.delta 1
  (decide (0 ≤ lo) && decide (hi < 55296)) || (decide (57343 < lo) && decide (hi < 65533)) || (decide (65533 < lo) && decide (hi ≤ 1114111))
set_option maxRecDepth 1000000 in
theorem lowFits_all : Lib.caseT.all lowFits = true := by decide
theorem toR_fits (r : Int) : Lib.toR Lib.caseA 1 r = r ∨ (Lib.validRune (Lib.toR Lib.caseA 1 r) = true ∧ Lib.toR Lib.caseA 1 r ≠ 65533) := by
  unfold Lib.toR Lib.lookupGo
  cases hi : Lib.lookupIdx Lib.caseA r (Lib.caseA.size + 1) 0 Lib.caseA.size with
  | none => exact .inl rfl
  | some i =>
    obtain ⟨hil, hlo, hhi⟩ := Lib.lookupIdx_some Lib.caseA r _ _ _ i hi
    have hm : Lib.caseA.getD i (0, 0, 0, 0, 0) ∈ Lib.caseT := by
      unfold Lib.caseA at hil ⊢
      simp only [List.size_toArray] at hil
      simp [Array.getD, hil]
    have hf := List.all_eq_true.1 lowFits_all _ hm
    right
    simp only [Option.map_some]
    generalize Lib.caseA.getD i (0, 0, 0, 0, 0) = x at hlo hhi hf
    unfold Lib.convertR
    unfold lowFits at hf
    by_cases hd : x.delta 1 > 1114111
    · rw [if_pos hd] at hf
      rw [if_pos hd] at hf
      rw [if_pos hd]
      simp [Lib.validRune] at hf ⊢
      omega
    · rw [if_neg hd] at hf
      rw [if_neg hd] at hf
      rw [if_neg hd]
      simp [Lib.validRune] at hf ⊢
      omega
theorem lower_valid (r : Int) (h : Lib.validRune r = true) : Lib.validRune (Lib.toLowerU r) = true := by
  unfold Lib.toLowerU
  split
  · split
    · simp [Lib.validRune] at h ⊢; omega
    · exact h
  · rcases toR_fits r with e | e
    · rw [e]; exact h
    · exact e.1
theorem lower_fffd (r : Int) (h : r ≠ 65533) : Lib.toLowerU r ≠ 65533 := by
  unfold Lib.toLowerU
  split
  · split <;> omega
  · rcases toR_fits r with e | e
    · rw [e]; exact h
    · exact e.2

/-! ### runes that stand among others -/
theorem isSub_cons (c x : Int) (cs xs : List Int) : isSub (c :: cs) (x :: xs) = if c = x then isSub cs xs else isSub (c :: cs) xs := by
  by_cases h : c = x
  · rw [if_pos h, isSub, dropTo, if_pos h]
  · rw [if_neg h, isSub, dropTo, if_neg h, isSub]
theorem isSub_nil (c : Int) (cs : List Int) : isSub (c :: cs) [] = false := rfl
theorem isSub_tail : ∀ (l cs : List Int) (c : Int), isSub (c :: cs) l = true → isSub cs l = true
  | [], cs, c, h => by cases h
  | y :: l, [], c, h => by rw [isSub]
  | y :: l, d :: cs, c, h => by
    rw [isSub_cons] at h ⊢
    by_cases hc : c = y
    · rw [if_pos hc] at h
      split
      · exact isSub_tail l cs d h
      · exact h
    · rw [if_neg hc] at h
      have h2 := isSub_tail l (d :: cs) c h
      split
      · exact isSub_tail l cs d h2
      · exact h2
theorem isSub_more (l cs : List Int) (x : Int) (h : isSub cs l = true) : isSub cs (x :: l) = true := by
  match cs, h with
  | [], _ => rw [isSub]
  | c :: cs, h =>
    rw [isSub_cons]
    split
    · exact isSub_tail l cs c h
    · exact h
theorem isSub_self : ∀ l : List Int, isSub l l = true
  | [] => rfl
  | x :: l => by rw [isSub_cons, if_pos rfl]; exact isSub_self l
/-- What stands among others weighs no more. -/
theorem isSub_sum (f : Int → Nat) : ∀ (l cs : List Int), isSub cs l = true → (cs.map f).sum ≤ (l.map f).sum
  | _, [], _ => by simp
  | [], c :: cs, h => by cases h
  | x :: l, c :: cs, h => by
    rw [isSub_cons] at h
    split at h
    · have := isSub_sum f l cs h
      rename_i e
      subst e
      simp only [List.map_cons, List.sum_cons]
      omega
    · have := isSub_sum f l (c :: cs) h
      simp only [List.map_cons, List.sum_cons] at this ⊢
      omega
theorem isSub_length (l cs : List Int) (h : isSub cs l = true) : cs.length ≤ l.length := by
  have := isSub_sum (fun _ => 1) l cs h
  rwa [List.map_const', List.map_const', List.sum_replicate_nat, List.sum_replicate_nat, Nat.mul_one, Nat.mul_one] at this
theorem text_size (s : ByteArray) (h : ∀ x ∈ strRunes s, x ≠ 65533) : s.size = ((strRunes s).map fun r => (Lib.encodeRune r).length).sum := by
  have h1 := bytes_of_runes s s.size 0 (by omega) h
  rw [List.drop_zero] at h1
  have h2 := congrArg List.length h1
  rw [List.length_flatMap] at h2
  rw [Array.length_toList] at h2
  exact h2
theorem isSub_size {s t : ByteArray} (hs : ∀ x ∈ strRunes s, x ≠ 65533) (ht : ∀ x ∈ strRunes t, x ≠ 65533) (h : isSub (strRunes s) (strRunes t) = true) : s.size ≤ t.size := by
  rw [text_size s hs, text_size t ht]
  exact isSub_sum _ _ _ h
end Go.Proofs.YtfkemfkleceeiaaDoor
