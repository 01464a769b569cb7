/- What the printed texts of this seat lean on besides the words: []rune(s) and make with a capacity as events; the fact on the world that is handed on (Amb). -/
import Derived.Test.YtgeimklpcfepaaaDoorProg
import Derived.Test.YtgeimklpcfepaaaDoorPlain
import Derived.Test.YtgeimklpcfepaaaDoorWWords
import Derived.Test.YtgeimklpcfepaaaDoorWLast
import Derived.Test.YtgeimklpcfepaaaDoorWMore
import Derived.Shelf.Unicode.CaseLaid
import Derived.Shelf.Unicode.PredsPay
import Derived.Shelf.Unicode.DecodeAny
namespace Go.Proofs.YtgeimklpcfepaaaDoor
open Go.RowKit Go.Proofs.YtgeimklpcfepaaaDoorW.PrintWords

/-- unicode.asciiFold, unicode.caseOrbit: as their initialisers lay them. -/
def asciiFoldL : List Int := [
  0, 1, 2, 3, 4, 5, 6, 7, 8, 9, 10, 11, 12, 13, 14, 15, 16, 17, 18, 19, 20, 21, 22, 23, 24, 25, 26, 27, 28, 29, 30, 31,
  32, 33, 34, 35, 36, 37, 38, 39, 40, 41, 42, 43, 44, 45, 46, 47, 48, 49, 50, 51, 52, 53, 54, 55, 56, 57, 58, 59, 60, 61, 62, 63,
  64, 97, 98, 99, 100, 101, 102, 103, 104, 105, 106, 107, 108, 109, 110, 111, 112, 113, 114, 115, 116, 117, 118, 119, 120, 121, 122, 91, 92, 93, 94, 95,
  96, 65, 66, 67, 68, 69, 70, 71, 72, 73, 74, 8490, 76, 77, 78, 79, 80, 81, 82, 383, 84, 85, 86, 87, 88, 89, 90, 123, 124, 125, 126, 127]
def orbitL : List (Int × Int) := [
  (75, 107), (83, 115), (107, 8490), (115, 383), (181, 924), (197, 229), (223, 7838), (229, 8491), (304, 304), (305, 305),
  (383, 83), (452, 453), (453, 454), (454, 452), (455, 456), (456, 457), (457, 455), (458, 459), (459, 460), (460, 458),
  (497, 498), (498, 499), (499, 497), (837, 921), (912, 8147), (914, 946), (917, 949), (920, 952), (921, 953), (922, 954),
  (924, 956), (928, 960), (929, 961), (931, 962), (934, 966), (937, 969), (944, 8163), (946, 976), (949, 1013), (952, 977),
  (953, 8126), (954, 1008), (956, 181), (960, 982), (961, 1009), (962, 963), (963, 931), (966, 981), (969, 8486), (976, 914),
  (977, 1012), (981, 934), (982, 928), (1008, 922), (1009, 929), (1012, 920), (1013, 917), (1042, 1074), (1044, 1076), (1054, 1086),
  (1057, 1089), (1058, 1090), (1066, 1098), (1074, 7296), (1076, 7297), (1086, 7298), (1089, 7299), (1090, 7300), (1098, 7302), (1122, 1123),
  (1123, 7303), (7296, 1042), (7297, 1044), (7298, 1054), (7299, 1057), (7300, 7301), (7301, 1058), (7302, 1066), (7303, 1122), (7304, 42570),
  (7776, 7777), (7777, 7835), (7835, 7776), (7838, 223), (8126, 837), (8147, 912), (8163, 944), (8486, 937), (8490, 75), (8491, 197),
  (42570, 42571), (42571, 7304), (64261, 64262), (64262, 64261)]
/-- The tables that the package reads, each as the program's text lays it. -/
structure Amb (w : World) : Prop where
  cases : Lib.CaseVar 2 Lib.caseA w
  utf : Lib.Utf8Tabs 6 7 w
  props : Lib.TabIs Tryd.prog w "unicode.properties" .u8 Lib.propertiesTab
  upper : Lib.RVar 5 Lib.upperT w
  lower : Lib.RVar 4 Lib.lowerT w
  ascii : ∀ c : Nat, c < 128 → w.cell? ⟨0, c, none⟩ = some (.int .u16 (asciiFoldL.getD c 0))
  orbit : ∃ R oR cap, w.cell? ⟨1, 0, none⟩ = some (.slice (some ⟨R, oR, none⟩) 94 cap) ∧ ∀ i : Nat, i < 94 → w.cell? ⟨R, oR + i * 2, none⟩ = some (.int .u16 (orbitL.getD i (0, 0)).1) ∧ w.cell? ⟨R, oR + i * 2 + 1, none⟩ = some (.int .u16 (orbitL.getD i (0, 0)).2)
theorem Amb.below {w w' : World} (h : Amb w) (hb : Below w.heap.size w w') : Amb w' := by
  refine ⟨?_, Utf8Tabs_below h.utf hb, TabIs_below (g := 3) (by kernel_rfl) h.props hb, RVar_below h.upper hb, RVar_below h.lower hb, fun c hc => pw_cell_below hb (h.ascii c hc), ?_⟩
  · obtain ⟨R, oR, cap, hc, ht⟩ := h.cases
    refine ⟨R, oR, cap, pw_cell_below hb hc, fun i hi => ?_⟩
    obtain ⟨h0, h1, h2, h3, h4⟩ := ht i hi
    exact ⟨pw_cell_below hb h0, pw_cell_below hb h1, pw_cell_below hb h2, pw_cell_below hb h3, pw_cell_below hb h4⟩
  · obtain ⟨R, oR, cap, hc, ht⟩ := h.orbit
    exact ⟨R, oR, cap, pw_cell_below hb hc, fun i hi => ⟨pw_cell_below hb (ht i hi).1, pw_cell_below hb (ht i hi).2⟩⟩

section
variable {P : Program} {ops : Array Oper} {rest : List Oper} {o : Oper} {a : Act} {Q : Exit → Act → World → Prop}
/-- A new row whose first cells are told, behind a draw or none. -/
theorem Kd.R_newcap {α : Type} {enc : α → Value} {h1 : ∀ x, (enc x).oneCell' = true} {w0 W W1 : World} (base e : Nat) (hgd : o.guard = none) {xs : List α} {cap : Nat} {C : Array Value} {ok : Nat → Prop}
    (hW : ∃ q, W1 = W.drewN q) (hrun : (execOp a.eval o).run P W = .ok (.value (.slice (some ⟨W.heap.size, 0, none⟩) xs.length cap)) (W1.alloc (.cells C e)))
    (hC : C.size = cap) (hx : C.toList.take xs.length = xs.map enc) (hcap : xs.length ≤ cap) (hm : cap ≤ maxLen) (hfresh : ok W.heap.size) (HB : Below base w0 W) (hbase : base ≤ W.heap.size)
    (h : ∀ v1 w1, (Kd.scalar enc h1).R e w1 base ok v1 xs → Below base w0 w1 → W.grownBy w1 none → (∃ b, v1.ownBlock = some b ∧ W.heap.size ≤ b) → wpList P ops Q rest (a.put o.dst v1) w1) : wpList P ops Q (o :: rest) a W := by
  obtain ⟨q, rfl⟩ := hW
  have hz : (W.drewN q).heap = W.heap := rfl
  refine Kd.event_run hgd hrun (h _ _ (Kd.R_of_own (h1 := h1) ?_ ?_) ?_ ?_ ⟨W.heap.size, by simp [Value.ownBlock], Nat.le_refl _⟩)
  · refine ⟨by simp [encs], .inr ⟨W.heap.size, cap, C, rfl, hbase, ?_, hcap, hm, by omega, ?_⟩⟩
    · have := heap_alloc_new (W.drewN q) (.cells C e)
      rwa [hz] at this
    · simpa [encs] using hx
  · intro k hk
    have : W.heap.size = k := by simpa [Value.ownBlock] using hk
    subst this
    exact hfresh
  · exact (pw_below_drewN HB q).alloc (by rw [hz]; exact hbase) _
  · exact World.grownBy.trans (grown_of_below (pw_below_drewN (Below.refl _ _) q) none) (World.grownBy_alloc _ _ none)

/-- '[]rune(s)'. -/
theorem Kd.R_runes {w0 W : World} (base e : Nat) (hgd : o.guard = none) {N : Tmp} (_hd : o.dst = some N) (src dst : TypeId) {x : Operand} {s : ByteArray} (ho : o.op = .convert src dst x) (hx : a.eval x = .string s)
    (hs : P.underlying src = some .string) (hdt : P.underlying dst = some (.slice e)) (he : P.underlying e = some (.int .i32)) {ok : Nat → Prop} (h46 : s.size ≤ 70368744177664) (hfresh : ok W.heap.size) (HB : Below base w0 W) (hbase : base ≤ W.heap.size)
    (h : ∀ v1 w1, (Kd.int .i32).R e w1 base ok v1 (strRunes s) → Below base w0 w1 → W.grownBy w1 none → (∃ b, v1.ownBlock = some b ∧ W.heap.size ≤ b) → wpList P ops Q rest (a.put o.dst v1) w1) : wpList P ops Q (o :: rest) a W := by
  have hlen := strRunes_length s
  have hsz : (Conv.runesFrom s s.size 0 #[]).size = (strRunes s).length := by rw [conv_strRunes]; simp
  have hr := run_runes_of_string (P := P) W src dst e s hs hdt he (by rw [hsz]; omega)
  have hge := grownCap_ge W (strRunes s).length 0 e
  rw [hsz] at hr
  refine Kd.R_newcap (W1 := W.drew) (C := Conv.runesFrom s s.size 0 #[] ++ Array.replicate (grownCap W (strRunes s).length 0 e - (strRunes s).length) (.int .i32 0)) base e hgd (enc := Value.int .i32) (h1 := fun _ => rfl) ⟨1, rfl⟩ (by simp [execOp, ho, hx, hr]) ?_ ?_ hge (grownCap_le_maxLen W _ 0 e (by simp only [maxLen]; omega)) hfresh HB hbase h
  · rw [conv_strRunes]
    simp
    omega
  · rw [conv_strRunes]
    simp

/-- 'make([]T, n, m)' at whole numbers. -/
theorem Kd.R_makecap {k : IntKind} {w0 W : World} (base e : Nat) (hgd : o.guard = none) {N : Tmp} (_hd : o.dst = some N) (t : TypeId) (x y : Operand) (ho : o.op = .makeSlice t x y) (n m : Nat) (hx : a.eval x = .int .i64 (n : Int)) (hy : a.eval y = .int .i64 (m : Int))
    (ht : P.underlying t = some (.slice e)) (bytes : Nat) (hinfo : (P.info? e).map (fun i => (i.zero, i.size, i.bytes)) = some (some (.int k 0), 1, bytes)) (hb0 : 0 < bytes) {ok : Nat → Prop} (hnm : n ≤ m) (hl : m * bytes ≤ 281474976710656) (hfresh : ok W.heap.size) (HB : Below base w0 W) (hbase : base ≤ W.heap.size)
    (h : ∀ v1 w1, (Kd.int k).R e w1 base ok v1 (List.replicate n 0) → Below base w0 w1 → W.grownBy w1 none → (∃ b, v1.ownBlock = some b ∧ W.heap.size ≤ b) → wpList P ops Q rest (a.put o.dst v1) w1) : wpList P ops Q (o :: rest) a W := by
  obtain ⟨i0, hi, hzz⟩ := Option.map_eq_some_iff.1 hinfo
  simp only [Prod.mk.injEq] at hzz
  obtain ⟨hz0, hz1, hz2⟩ := hzz
  have hm : m ≤ 281474976710656 := Nat.le_trans (Nat.le_mul_of_pos_right _ hb0) hl
  have hr := run_make (P := P) W t e i0 (.int k 0) ht hi hz0 .i64 .i64 (n : Int) (m : Int) (by omega) (by omega)
    (by
      have h3 : ((i0.bytes * m : Nat) : Int) ≤ 281474976710656 := by rw [hz2, Nat.mul_comm]; omega
      rwa [Int.natCast_mul] at h3) (by omega)
  simp only [Int.toNat_natCast] at hr
  rw [hz1, Nat.mul_one] at hr
  refine Kd.R_newcap (W1 := W) base e hgd (enc := Value.int k) (h1 := fun _ => rfl) (xs := List.replicate n 0) (cap := m) (C := madeCells (Value.int k 0).cells m) ⟨0, rfl⟩ (by simp [execOp, ho, hx, hy, hr]) (size_madeCells _ _) ?_ (by simpa using hnm) (by simp only [maxLen]; omega) hfresh HB hbase h
  apply List.ext_getElem
  · simp [size_madeCells]; omega
  · intro i h1 h2
    simp only [madeCells, List.getElem_take, Array.getElem_toList, Array.getElem_map, Array.getElem_range, List.getElem_map, List.getElem_replicate]
    show (#[Value.int k 0] : Array Value)[i % 1]! = _
    rw [Nat.mod_one]
    rfl
end
end Go.Proofs.YtgeimklpcfepaaaDoor
