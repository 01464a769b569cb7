/- What the printed texts of this seat lean on besides the words: []rune(s) and make with a capacity as events; the fact on the world that is handed on (Amb). -/
import Derived.Test.YtfkemfkleceeiaaDoorProg
import Derived.Test.YtfkemfkleceeiaaDoorPlain
import Derived.Test.YtfkemfkleceeiaaDoorWWords
import Derived.Test.YtfkemfkleceeiaaDoorWLast
import Derived.Test.YtfkemfkleceeiaaDoorWMore
import Derived.Shelf.Unicode.CaseLaid
namespace Go.Proofs.YtfkemfkleceeiaaDoor
open Go.RowKit Go.Proofs.YtfkemfkleceeiaaDoorW.PrintWords

/-- unicode.CaseRanges (variable 0) holds Go's own table. -/
def Amb (w : World) : Prop := Lib.CaseVar 0 Lib.caseA w
theorem Amb.below {w w' : World} (h : Amb w) (hb : Below w.heap.size w w') : Amb w' := by
  obtain ⟨R, oR, cap, hc, ht⟩ := h
  refine ⟨R, oR, cap, pw_cell_below hb hc, fun i hi => ?_⟩
  obtain ⟨h0, h1, h2, h3, h4⟩ := ht i hi
  exact ⟨pw_cell_below hb h0, pw_cell_below hb h1, pw_cell_below hb h2, pw_cell_below hb h3, pw_cell_below hb h4⟩

section
variable {P : Program} {ops : Array Oper} {rest : List Oper} {o : Oper} {a : Act} {Q : Exit → Act → World → Prop}
/-- A new row whose first cells are told, behind a draw or none. -/
theorem Kd.R_newcap {α : Type} {enc : α → Value} {h1 : ∀ x, (enc x).oneCell' = true} {w0 W W1 : World} (base e : Nat) (hgd : o.guard = none) {xs : List α} {cap : Nat} {C : Array Value} {ok : Nat → Prop}
    (hW : ∃ q, W1 = W.drewN q) (hrun : (execOp a.eval o).run P W = .ok (.value (.slice (some ⟨W.heap.size, 0, none⟩) xs.length cap)) (W1.alloc (.cells C e)))
    (hC : C.size = cap) (hx : C.toList.take xs.length = xs.map enc) (hcap : xs.length ≤ cap) (hm : cap ≤ maxLen) (hfresh : ok W.heap.size) (HB : Below base w0 W) (hbase : base ≤ W.heap.size)
    (h : ∀ v1 w1, (Kd.scalar enc h1).R e w1 base ok v1 xs → Below base w0 w1 → W.grownBy w1 none → (∃ b, v1.ownBlock = some b ∧ W.heap.size ≤ b) → wpList P ops Q rest (a.put o.dst v1) w1) : wpList P ops Q (o :: rest) a W := by
  obtain ⟨q, rfl⟩ := hW
  have hz : (W.drewN q).heap = W.heap := rfl
  refine Kd.event_run hgd hrun (h _ _ (Kd.R_of_own (h1 := h1) ?_ ?_) ?_ ?_ ⟨W.heap.size, by simp [Value.ownBlock], Nat.le_refl _⟩)
  · refine ⟨by simp [encs], .inr ⟨W.heap.size, cap, C, rfl, hbase, ?_, hcap, hm, by omega, ?_⟩⟩
    · have := heap_alloc_new (W.drewN q) (.cells C e)
      rwa [hz] at this
    · simpa [encs] using hx
  · intro k hk
    have : W.heap.size = k := by simpa [Value.ownBlock] using hk
    subst this
    exact hfresh
  · exact (pw_below_drewN HB q).alloc (by rw [hz]; exact hbase) _
  · exact World.grownBy.trans (grown_of_below (pw_below_drewN (Below.refl _ _) q) none) (World.grownBy_alloc _ _ none)

/-- '[]rune(s)'. -/
theorem Kd.R_runes {w0 W : World} (base e : Nat) (hgd : o.guard = none) {N : Tmp} (_hd : o.dst = some N) (src dst : TypeId) {x : Operand} {s : ByteArray} (ho : o.op = .convert src dst x) (hx : a.eval x = .string s)
    (hs : P.underlying src = some .string) (hdt : P.underlying dst = some (.slice e)) (he : P.underlying e = some (.int .i32)) {ok : Nat → Prop} (h46 : s.size ≤ 70368744177664) (hfresh : ok W.heap.size) (HB : Below base w0 W) (hbase : base ≤ W.heap.size)
    (h : ∀ v1 w1, (Kd.int .i32).R e w1 base ok v1 (strRunes s) → Below base w0 w1 → W.grownBy w1 none → (∃ b, v1.ownBlock = some b ∧ W.heap.size ≤ b) → wpList P ops Q rest (a.put o.dst v1) w1) : wpList P ops Q (o :: rest) a W := by
  have hlen := strRunes_length s
  have hsz : (Conv.runesFrom s s.size 0 #[]).size = (strRunes s).length := by rw [conv_strRunes]; simp
  have hr := run_runes_of_string (P := P) W src dst e s hs hdt he (by rw [hsz]; omega)
  have hge := grownCap_ge W (strRunes s).length 0 e
  rw [hsz] at hr
  refine Kd.R_newcap (W1 := W.drew) (C := Conv.runesFrom s s.size 0 #[] ++ Array.replicate (grownCap W (strRunes s).length 0 e - (strRunes s).length) (.int .i32 0)) base e hgd (enc := Value.int .i32) (h1 := fun _ => rfl) ⟨1, rfl⟩ (by simp [execOp, ho, hx, hr]) ?_ ?_ hge (grownCap_le_maxLen W _ 0 e (by simp only [maxLen]; omega)) hfresh HB hbase h
  · rw [conv_strRunes]
    simp
    omega
  · rw [conv_strRunes]
    simp

/-- 'make([]T, n, m)' at whole numbers. -/
theorem Kd.R_makecap {k : IntKind} {w0 W : World} (base e : Nat) (hgd : o.guard = none) {N : Tmp} (_hd : o.dst = some N) (t : TypeId) (x y : Operand) (ho : o.op = .makeSlice t x y) (n m : Nat) (hx : a.eval x = .int .i64 (n : Int)) (hy : a.eval y = .int .i64 (m : Int))
    (ht : P.underlying t = some (.slice e)) (bytes : Nat) (hinfo : (P.info? e).map (fun i => (i.zero, i.size, i.bytes)) = some (some (.int k 0), 1, bytes)) (hb0 : 0 < bytes) {ok : Nat → Prop} (hnm : n ≤ m) (hl : m * bytes ≤ 281474976710656) (hfresh : ok W.heap.size) (HB : Below base w0 W) (hbase : base ≤ W.heap.size)
    (h : ∀ v1 w1, (Kd.int k).R e w1 base ok v1 (List.replicate n 0) → Below base w0 w1 → W.grownBy w1 none → (∃ b, v1.ownBlock = some b ∧ W.heap.size ≤ b) → wpList P ops Q rest (a.put o.dst v1) w1) : wpList P ops Q (o :: rest) a W := by
  obtain ⟨i0, hi, hzz⟩ := Option.map_eq_some_iff.1 hinfo
  simp only [Prod.mk.injEq] at hzz
  obtain ⟨hz0, hz1, hz2⟩ := hzz
  have hm : m ≤ 281474976710656 := Nat.le_trans (Nat.le_mul_of_pos_right _ hb0) hl
  have hr := run_make (P := P) W t e i0 (.int k 0) ht hi hz0 .i64 .i64 (n : Int) (m : Int) (by omega) (by omega)
    (by
      have h3 : ((i0.bytes * m : Nat) : Int) ≤ 281474976710656 := by rw [hz2, Nat.mul_comm]; omega
      rwa [Int.natCast_mul] at h3) (by omega)
  simp only [Int.toNat_natCast] at hr
  rw [hz1, Nat.mul_one] at hr
  refine Kd.R_newcap (W1 := W) base e hgd (enc := Value.int k) (h1 := fun _ => rfl) (xs := List.replicate n 0) (cap := m) (C := madeCells (Value.int k 0).cells m) ⟨0, rfl⟩ (by simp [execOp, ho, hx, hy, hr]) (size_madeCells _ _) ?_ (by simpa using hnm) (by simp only [maxLen]; omega) hfresh HB hbase h
  apply List.ext_getElem
  · simp [size_madeCells]; omega
  · intro i h1 h2
    simp only [madeCells, List.getElem_take, Array.getElem_toList, Array.getElem_map, Array.getElem_range, List.getElem_map, List.getElem_replicate]
    show (#[Value.int k 0] : Array Value)[i % 1]! = _
    rw [Nat.mod_one]
    rfl
end
end Go.Proofs.YtfkemfkleceeiaaDoor
