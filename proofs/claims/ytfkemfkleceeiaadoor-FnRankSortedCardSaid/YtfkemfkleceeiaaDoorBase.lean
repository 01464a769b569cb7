/- Plain facts on strings and their runes: what a range over a string, or []rune(s), hands over; nothing of the program. -/
import Derived.Laws.IdiomStrings
import Derived.Lib.RuneCount
import Derived.Lib.CaseU
import Derived.Test.YtfkemfkleceeiaaDoorProg
import Derived.Test.YtfkemfkleceeiaaDoorWWords
import Derived.Test.YtfkemfkleceeiaaDoorWLast
import Derived.Test.YtfkemfkleceeiaaDoorWMore
import Derived.Shelf.Unicode.CaseLaid
namespace Go.Proofs.YtfkemfkleceeiaaDoor
open Go

/-- The runes of a string from a place on, by at most so many. -/
def runesFrom (s : ByteArray) : Nat → Nat → List Int
  | 0, _ => []
  | f + 1, pos => if pos < s.size then ((Utf8.decode s pos).1 : Int) :: runesFrom s f (pos + (Utf8.decode s pos).2) else []
/-- The runes of a string. -/
def strRunes (s : ByteArray) : List Int := runesFrom s s.size 0

theorem runesFrom_end (s : ByteArray) (f pos : Nat) (h : ¬ pos < s.size) : runesFrom s f pos = [] := by
  cases f <;> simp [runesFrom, h]
theorem runesFrom_length (s : ByteArray) : ∀ f pos, (runesFrom s f pos).length ≤ f
  | 0, _ => by simp [runesFrom]
  | f + 1, pos => by
    have ih := runesFrom_length s f (pos + (Utf8.decode s pos).2)
    unfold runesFrom
    split <;> simp <;> omega
theorem strRunes_length (s : ByteArray) : (strRunes s).length ≤ s.size := runesFrom_length s _ _
/-- More rounds than bytes are left tell nothing more. -/
theorem runesFrom_more (s : ByteArray) : ∀ f g pos, s.size ≤ pos + f → s.size ≤ pos + g → runesFrom s f pos = runesFrom s g pos
  | 0, g, pos, h, _ => by rw [runesFrom_end s g pos (by omega)]; rfl
  | f + 1, 0, pos, _, h => by rw [runesFrom_end s (f + 1) pos (by omega)]; rfl
  | f + 1, g + 1, pos, h, h' => by
    unfold runesFrom
    by_cases hp : pos < s.size
    · have hw := Lib.decode_width_pos s pos hp
      rw [if_pos hp, if_pos hp, runesFrom_more s f g _ (by omega) (by omega)]
    · rw [if_neg hp, if_neg hp]
theorem runesFrom_step (s : ByteArray) (f pos : Nat) (h : pos < s.size) : runesFrom s (f + 1) pos = ((Utf8.decode s pos).1 : Int) :: runesFrom s f (pos + (Utf8.decode s pos).2) := by
  rw [runesFrom, if_pos h]
/-- What is left from a place on, with as many rounds as wanted. -/
def runesAt (s : ByteArray) (pos : Nat) : List Int := runesFrom s s.size pos
theorem runesAt_end (s : ByteArray) (pos : Nat) (h : ¬ pos < s.size) : runesAt s pos = [] := runesFrom_end s _ _ h
theorem runesAt_step (s : ByteArray) (pos : Nat) (h : pos < s.size) : runesAt s pos = ((Utf8.decode s pos).1 : Int) :: runesAt s (pos + (Utf8.decode s pos).2) := by
  have hw := Lib.decode_width_pos s pos h
  unfold runesAt
  obtain ⟨n, hn⟩ : ∃ n, s.size = n + 1 := ⟨s.size - 1, by omega⟩
  rw [hn, runesFrom_step s n pos h, runesFrom_more s n (n + 1) _ (by omega) (by omega)]
theorem strRunes_at (s : ByteArray) : strRunes s = runesAt s 0 := rfl
theorem runesAt_length (s : ByteArray) (pos : Nat) : (runesAt s pos).length ≤ s.size - pos := by
  unfold runesAt
  rw [runesFrom_more s s.size (s.size - pos) pos (by omega) (by omega)]
  exact runesFrom_length s _ _

/-- The model's own list of runes. -/
theorem conv_runes (s : ByteArray) : ∀ (f pos : Nat) (acc : Array Value), s.size ≤ pos + f → Conv.runesFrom s f pos acc = acc ++ ((runesFrom s f pos).map (Value.int .i32)).toArray
  | 0, pos, acc, h => by simp [Conv.runesFrom, runesFrom]
  | f + 1, pos, acc, h => by
    unfold Conv.runesFrom runesFrom
    by_cases hp : pos < s.size
    · have hw := Lib.decode_width_pos s pos hp
      rw [if_pos hp, if_pos hp]
      refine (conv_runes s f (pos + (Utf8.decode s pos).2) (acc.push (.int .i32 (Int.ofNat (Utf8.decode s pos).1))) (by omega)).trans ?_
      simp
    · simp [hp]
theorem conv_strRunes (s : ByteArray) : Conv.runesFrom s s.size 0 #[] = ((strRunes s).map (Value.int .i32)).toArray := by
  rw [conv_runes s s.size 0 #[] (by omega)]
  simp [strRunes]

theorem decode_fst_lt (s : ByteArray) (pos : Nat) : (Utf8.decode s pos).1 ≤ 1114111 := by
  have hb : ∀ k, (s.get! (pos + k)).toNat < 256 := fun k => (s.get! (pos + k)).toNat_lt
  have h0 := hb 0; have h1 := hb 1; have h2 := hb 2; have h3 := hb 3
  simp only [Utf8.decode]
  repeat' split
  all_goals simp_all [Utf8.runeError, Utf8.valid]
  all_goals omega
theorem runesFrom_range (s : ByteArray) : ∀ f pos, ∀ r ∈ runesFrom s f pos, 0 ≤ r ∧ r ≤ 1114111
  | 0, _, r, h => by simp [runesFrom] at h
  | f + 1, pos, r, h => by
    unfold runesFrom at h
    split at h
    · rcases List.mem_cons.1 h with rfl | h
      · have := decode_fst_lt s pos; omega
      · exact runesFrom_range s f _ r h
    · simp at h
theorem strRunes_range (s : ByteArray) : ∀ r ∈ strRunes s, 0 ≤ r ∧ r ≤ 1114111 := runesFrom_range s _ _
end Go.Proofs.YtfkemfkleceeiaaDoor
namespace Go.Proofs.YtfkemfkleceeiaaDoor
open Go.RowKit Go.Proofs.YtfkemfkleceeiaaDoorW.PrintWords

/-- unicode.CaseRanges (variable 0) holds Go's own table. -/
def Amb (w : World) : Prop := Lib.CaseVar 0 Lib.caseA w
theorem Amb.below {w w' : World} (h : Amb w) (hb : Below w.heap.size w w') : Amb w' := by
  obtain ⟨R, oR, cap, hc, ht⟩ := h
  refine ⟨R, oR, cap, pw_cell_below hb hc, fun i hi => ?_⟩
  obtain ⟨h0, h1, h2, h3, h4⟩ := ht i hi
  exact ⟨pw_cell_below hb h0, pw_cell_below hb h1, pw_cell_below hb h2, pw_cell_below hb h3, pw_cell_below hb h4⟩

section
variable {P : Program} {ops : Array Oper} {rest : List Oper} {o : Oper} {a : Act} {Q : Exit → Act → World → Prop}
/-- A new row whose first cells are told, behind a draw or none. -/
theorem Kd.R_newcap {α : Type} {enc : α → Value} {h1 : ∀ x, (enc x).oneCell' = true} {w0 W W1 : World} (base e : Nat) (hgd : o.guard = none) {xs : List α} {cap : Nat} {C : Array Value} {ok : Nat → Prop}
    (hW : ∃ q, W1 = W.drewN q) (hrun : (execOp a.eval o).run P W = .ok (.value (.slice (some ⟨W.heap.size, 0, none⟩) xs.length cap)) (W1.alloc (.cells C e)))
    (hC : C.size = cap) (hx : C.toList.take xs.length = xs.map enc) (hcap : xs.length ≤ cap) (hm : cap ≤ maxLen) (hfresh : ok W.heap.size) (HB : Below base w0 W) (hbase : base ≤ W.heap.size)
    (h : ∀ v1 w1, (Kd.scalar enc h1).R e w1 base ok v1 xs → Below base w0 w1 → W.grownBy w1 none → (∃ b, v1.ownBlock = some b ∧ W.heap.size ≤ b) → wpList P ops Q rest (a.put o.dst v1) w1) : wpList P ops Q (o :: rest) a W := by
  obtain ⟨q, rfl⟩ := hW
  have hz : (W.drewN q).heap = W.heap := rfl
  refine Kd.event_run hgd hrun (h _ _ (Kd.R_of_own (h1 := h1) ?_ ?_) ?_ ?_ ⟨W.heap.size, by simp [Value.ownBlock], Nat.le_refl _⟩)
  · refine ⟨by simp [encs], .inr ⟨W.heap.size, cap, C, rfl, hbase, ?_, hcap, hm, by omega, ?_⟩⟩
    · have := heap_alloc_new (W.drewN q) (.cells C e)
      rwa [hz] at this
    · simpa [encs] using hx
  · intro k hk
    have : W.heap.size = k := by simpa [Value.ownBlock] using hk
    subst this
    exact hfresh
  · exact (pw_below_drewN HB q).alloc (by rw [hz]; exact hbase) _
  · exact World.grownBy.trans (grown_of_below (pw_below_drewN (Below.refl _ _) q) none) (World.grownBy_alloc _ _ none)

/-- '[]rune(s)'. -/
theorem Kd.R_runes {w0 W : World} (base e : Nat) (hgd : o.guard = none) {N : Tmp} (_hd : o.dst = some N) (src dst : TypeId) {x : Operand} {s : ByteArray} (ho : o.op = .convert src dst x) (hx : a.eval x = .string s)
    (hs : P.underlying src = some .string) (hdt : P.underlying dst = some (.slice e)) (he : P.underlying e = some (.int .i32)) {ok : Nat → Prop} (h46 : s.size ≤ 70368744177664) (hfresh : ok W.heap.size) (HB : Below base w0 W) (hbase : base ≤ W.heap.size)
    (h : ∀ v1 w1, (Kd.int .i32).R e w1 base ok v1 (strRunes s) → Below base w0 w1 → W.grownBy w1 none → (∃ b, v1.ownBlock = some b ∧ W.heap.size ≤ b) → wpList P ops Q rest (a.put o.dst v1) w1) : wpList P ops Q (o :: rest) a W := by
  have hlen := strRunes_length s
  have hsz : (Conv.runesFrom s s.size 0 #[]).size = (strRunes s).length := by rw [conv_strRunes]; simp
  have hr := run_runes_of_string (P := P) W src dst e s hs hdt he (by rw [hsz]; omega)
  have hge := grownCap_ge W (strRunes s).length 0 e
  rw [hsz] at hr
  refine Kd.R_newcap (W1 := W.drew) (C := Conv.runesFrom s s.size 0 #[] ++ Array.replicate (grownCap W (strRunes s).length 0 e - (strRunes s).length) (.int .i32 0)) base e hgd (enc := Value.int .i32) (h1 := fun _ => rfl) ⟨1, rfl⟩ (by simp [execOp, ho, hx, hr]) ?_ ?_ hge (grownCap_le_maxLen W _ 0 e (by simp only [maxLen]; omega)) hfresh HB hbase h
  · rw [conv_strRunes]
    simp
    omega
  · rw [conv_strRunes]
    simp

/-- 'make([]T, n, m)' at whole numbers. -/
theorem Kd.R_makecap {k : IntKind} {w0 W : World} (base e : Nat) (hgd : o.guard = none) {N : Tmp} (_hd : o.dst = some N) (t : TypeId) (x y : Operand) (ho : o.op = .makeSlice t x y) (n m : Nat) (hx : a.eval x = .int .i64 (n : Int)) (hy : a.eval y = .int .i64 (m : Int))
    (ht : P.underlying t = some (.slice e)) (bytes : Nat) (hinfo : (P.info? e).map (fun i => (i.zero, i.size, i.bytes)) = some (some (.int k 0), 1, bytes)) (hb0 : 0 < bytes) {ok : Nat → Prop} (hnm : n ≤ m) (hl : m * bytes ≤ 281474976710656) (hfresh : ok W.heap.size) (HB : Below base w0 W) (hbase : base ≤ W.heap.size)
    (h : ∀ v1 w1, (Kd.int k).R e w1 base ok v1 (List.replicate n 0) → Below base w0 w1 → W.grownBy w1 none → (∃ b, v1.ownBlock = some b ∧ W.heap.size ≤ b) → wpList P ops Q rest (a.put o.dst v1) w1) : wpList P ops Q (o :: rest) a W := by
  obtain ⟨i0, hi, hzz⟩ := Option.map_eq_some_iff.1 hinfo
  simp only [Prod.mk.injEq] at hzz
  obtain ⟨hz0, hz1, hz2⟩ := hzz
  have hm : m ≤ 281474976710656 := Nat.le_trans (Nat.le_mul_of_pos_right _ hb0) hl
  have hr := run_make (P := P) W t e i0 (.int k 0) ht hi hz0 .i64 .i64 (n : Int) (m : Int) (by omega) (by omega)
    (by
      have h3 : ((i0.bytes * m : Nat) : Int) ≤ 281474976710656 := by rw [hz2, Nat.mul_comm]; omega
      rwa [Int.natCast_mul] at h3) (by omega)
  simp only [Int.toNat_natCast] at hr
  rw [hz1, Nat.mul_one] at hr
  refine Kd.R_newcap (W1 := W) base e hgd (enc := Value.int k) (h1 := fun _ => rfl) (xs := List.replicate n 0) (cap := m) (C := madeCells (Value.int k 0).cells m) ⟨0, rfl⟩ (by simp [execOp, ho, hx, hy, hr]) (size_madeCells _ _) ?_ (by simpa using hnm) (by simp only [maxLen]; omega) hfresh HB hbase h
  apply List.ext_getElem
  · simp [size_madeCells]; omega
  · intro i h1 h2
    simp only [madeCells, List.getElem_take, Array.getElem_toList, Array.getElem_map, Array.getElem_range, List.getElem_map, List.getElem_replicate]
    show (#[Value.int k 0] : Array Value)[i % 1]! = _
    rw [Nat.mod_one]
    rfl
end
end Go.Proofs.YtfkemfkleceeiaaDoor
