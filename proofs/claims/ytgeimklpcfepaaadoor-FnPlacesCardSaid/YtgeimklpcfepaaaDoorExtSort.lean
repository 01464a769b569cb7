/- sort.Stable over a slice of Matches (four cells each), at most twenty of them: the insertion sort; the methods are reached through the interface. -/
import Derived.Test.YtgeimklpcfepaaaDoorBase
import Derived.Test.YtgeimklpcfepaaaDoorP0
import Derived.Shelf.GgSortFunc.RowK
import Derived.Shelf.GgSortMore.Iface
import Derived.RegionTactic
import Derived.Deep.QuietTactic
namespace Go.Proofs.YtgeimklpcfepaaaDoor
open Go.RowKit Go.Lib Go.Sort Go.Proofs.YtgeimklpcfepaaaDoorW.PrintWords
set_option linter.unusedVariables false
set_option linter.unusedSimpArgs false

theorem drewN_ahead (w : World) (q : Nat) : w.drewN q = Sort.ahead w q := rfl
theorem mlen_reached (p : Option Addr) (n c : Nat) : Reaches Tryd.prog 40 (.slice p n c) "Len" 69 := ⟨fun _ => by kernel_rfl, enters_of Tryd.func69 (by kernel_rfl) rfl⟩
theorem less_reached (p : Option Addr) (n c : Nat) : Reaches Tryd.prog 40 (.slice p n c) "Less" 70 := ⟨fun _ => by kernel_rfl, enters_of Tryd.func70 (by kernel_rfl) rfl⟩
theorem swap_reached (p : Option Addr) (n c : Nat) : Reaches Tryd.prog 40 (.slice p n c) "Swap" 71 := ⟨fun _ => by kernel_rfl, enters_of Tryd.func71 (by kernel_rfl) rfl⟩

set_option maxHeartbeats 2000000 in
theorem r_Len (p : Option Addr) (n c : Nat) (W : World) : Calls Tryd.prog 69 #[.slice p n c] W fun e w' => e = .returned (.int .i64 n) ∧ ∃ q, w' = W.drewN q := by
  go_enter Tryd.func69, Tryd.ntmps69
  go_wp2
  go_ret
  exact ⟨rfl, 0, rfl⟩

set_option maxHeartbeats 2000000 in
theorem r_Less (blk off c size : Nat) (W : World) (G : Nat → Int) (hc : ∀ t, t < size → W.cell? ⟨blk, off + t * 4 + 3, none⟩ = some (.int .i64 (G t))) (i j : Nat) (hi : i < size) (hj : j < size) (_hsz : size < 4611686018427387904) :
    Calls Tryd.prog 70 #[.slice (some ⟨blk, off, none⟩) size c, .int .i64 i, .int .i64 j] W fun e w' => e = .returned (.bool (decide (G i > G j))) ∧ ∃ q, w' = W.drewN q := by
  have ci := hc i hi
  have cj := hc j hj
  go_enter Tryd.func70, Tryd.ntmps70
  go_wp2
  go_quiet (fail)
  go_wp2
  go_ret
  exact ⟨rfl, nq, rfl⟩

theorem some_set {w : World} {p q : Addr} {x : Value} (h : ∃ v, w.cell? q = some v) : ∃ v, (w.setCell p x).cell? q = some v := by
  obtain ⟨v, h⟩ := h
  exact cell?_setCell_some h
set_option maxHeartbeats 4000000 in
theorem r_Swap (blk off c size : Nat) (W : World) (X0 Y0 : ByteArray) (X1 X3 Y1 Y3 : Int) (XA YA : Option Addr) (Xn Xc Yn Yc : Nat) (i j : Nat) (hi : i < size) (hj : j < size) (_hsz : size < 4611686018427387904)
    (x0 : W.cell? ⟨blk, off + i * 4, none⟩ = some (.string X0)) (x1 : W.cell? ⟨blk, off + i * 4 + 1, none⟩ = some (.int .i64 X1)) (x2 : W.cell? ⟨blk, off + i * 4 + 2, none⟩ = some (.slice XA Xn Xc)) (x3 : W.cell? ⟨blk, off + i * 4 + 3, none⟩ = some (.int .i64 X3))
    (y0 : W.cell? ⟨blk, off + j * 4, none⟩ = some (.string Y0)) (y1 : W.cell? ⟨blk, off + j * 4 + 1, none⟩ = some (.int .i64 Y1)) (y2 : W.cell? ⟨blk, off + j * 4 + 2, none⟩ = some (.slice YA Yn Yc)) (y3 : W.cell? ⟨blk, off + j * 4 + 3, none⟩ = some (.int .i64 Y3))
    (hfr : ∀ t, W.frozen? ⟨blk, t, none⟩ = false) :
    Calls Tryd.prog 71 #[.slice (some ⟨blk, off, none⟩) size c, .int .i64 i, .int .i64 j] W fun e w' => e = .returned (.tuple #[]) ∧ ∃ q, w' = ((W.setCells blk (off + i * 4) [.string Y0, .int .i64 Y1, .slice YA Yn Yc, .int .i64 Y3]).setCells blk (off + j * 4) [.string X0, .int .i64 X1, .slice XA Xn Xc, .int .i64 X3]).drewN q := by
  have fi0 : W.frozen? ⟨blk, off + i * 4, none⟩ = false := hfr _
  have fi1 : W.frozen? ⟨blk, off + i * 4 + 1, none⟩ = false := hfr _
  have fi2 : W.frozen? ⟨blk, off + i * 4 + 2, none⟩ = false := hfr _
  have fi3 : W.frozen? ⟨blk, off + i * 4 + 3, none⟩ = false := hfr _
  have fj0 : W.frozen? ⟨blk, off + j * 4, none⟩ = false := hfr _
  have fj1 : W.frozen? ⟨blk, off + j * 4 + 1, none⟩ = false := hfr _
  have fj2 : W.frozen? ⟨blk, off + j * 4 + 2, none⟩ = false := hfr _
  have fj3 : W.frozen? ⟨blk, off + j * 4 + 3, none⟩ = false := hfr _
  obtain ⟨m0, hm0⟩ : ∃ v, ((((W.setCell ⟨blk, off + i * 4, none⟩ (.string Y0)).setCell ⟨blk, off + i * 4 + 1, none⟩ (.int .i64 Y1)).setCell ⟨blk, off + i * 4 + 2, none⟩ (.slice YA Yn Yc)).setCell ⟨blk, off + i * 4 + 3, none⟩ (.int .i64 Y3)).cell? ⟨blk, off + j * 4, none⟩ = some v := some_set (some_set (some_set (some_set ⟨_, y0⟩)))
  obtain ⟨m1, hm1⟩ : ∃ v, ((((W.setCell ⟨blk, off + i * 4, none⟩ (.string Y0)).setCell ⟨blk, off + i * 4 + 1, none⟩ (.int .i64 Y1)).setCell ⟨blk, off + i * 4 + 2, none⟩ (.slice YA Yn Yc)).setCell ⟨blk, off + i * 4 + 3, none⟩ (.int .i64 Y3)).cell? ⟨blk, off + j * 4 + 1, none⟩ = some v := some_set (some_set (some_set (some_set ⟨_, y1⟩)))
  obtain ⟨m2, hm2⟩ : ∃ v, ((((W.setCell ⟨blk, off + i * 4, none⟩ (.string Y0)).setCell ⟨blk, off + i * 4 + 1, none⟩ (.int .i64 Y1)).setCell ⟨blk, off + i * 4 + 2, none⟩ (.slice YA Yn Yc)).setCell ⟨blk, off + i * 4 + 3, none⟩ (.int .i64 Y3)).cell? ⟨blk, off + j * 4 + 2, none⟩ = some v := some_set (some_set (some_set (some_set ⟨_, y2⟩)))
  obtain ⟨m3, hm3⟩ : ∃ v, ((((W.setCell ⟨blk, off + i * 4, none⟩ (.string Y0)).setCell ⟨blk, off + i * 4 + 1, none⟩ (.int .i64 Y1)).setCell ⟨blk, off + i * 4 + 2, none⟩ (.slice YA Yn Yc)).setCell ⟨blk, off + i * 4 + 3, none⟩ (.int .i64 Y3)).cell? ⟨blk, off + j * 4 + 3, none⟩ = some v := some_set (some_set (some_set (some_set ⟨_, y3⟩)))
  clear hfr
  go_enter Tryd.func71, Tryd.ntmps71
  go_wp2
  go_region
  all_goals (try go_wp2)
  all_goals go_end0
  all_goals exact ⟨rfl, 1, rfl⟩

section
variable {α : Type} [Inhabited α]
def LessK (gl : Nat) (rv : Value) (enc : α → List Value) (lt : α → α → Bool) (blk off size : Nat) (w : World) : Prop :=
  ∀ (m : Nat) (dk : Array α), dk.size = size → ∀ i j : Nat, i < size → j < size →
    Calls Tryd.prog gl #[rv, .int .i64 i, .int .i64 j] (putRowK enc 4 (Sort.ahead w m) blk off dk) fun e w' => e = .returned (.bool (lt dk[i]! dk[j]!)) ∧ ∃ q, w' = (putRowK enc 4 (Sort.ahead w m) blk off dk).drewN q
def SwapK (gs : Nat) (rv : Value) (enc : α → List Value) (blk off size : Nat) (w : World) : Prop :=
  ∀ (m : Nat) (dk : Array α), dk.size = size → ∀ i j : Nat, i < size → j < size →
    Calls Tryd.prog gs #[rv, .int .i64 i, .int .i64 j] (putRowK enc 4 (Sort.ahead w m) blk off dk) fun e w' => e = .returned (.tuple #[]) ∧ ∃ q, w' = (((putRowK enc 4 (Sort.ahead w m) blk off dk).setCells blk (off + i * 4) (enc dk[j]!)).setCells blk (off + j * 4) (enc dk[i]!)).drewN q

set_option maxHeartbeats 4000000 in
set_option maxRecDepth 100000 in
theorem ins_sort (rv : Value) (gl gs T : Nat) (rL : Reaches Tryd.prog T rv "Less" gl) (rS : Reaches Tryd.prog T rv "Swap" gs) (enc : α → List Value) (hk : ∀ x, (enc x).length = 4) (lt : α → α → Bool) (blk off a b : Nat) (d : Array α) (w : World)
    (hless : LessK gl rv enc lt blk off d.size w) (hswap : SwapK gs rv enc blk off d.size w)
    (hH : HoldsK enc 4 w blk off d) (hab : a ≤ b) (hb : b ≤ d.size) (hsz : d.size < 4611686018427387904) :
    Calls Tryd.prog 49 #[.iface T rv, .int .i64 a, .int .i64 b] w fun e w' =>
      e = .returned (.tuple #[]) ∧ ∃ n, w' = putRowK enc 4 (Sort.ahead w n) blk off (Sort.insertionSort lt d a b) := by
  have mL : ∀ w, Sem.run Tryd.prog (method 222 T rv "Less") w = .ok (gl, rv) w := rL.finds
  have mS : ∀ w, Sem.run Tryd.prog (method 222 T rv "Swap") w = .ok (gs, rv) w := rS.finds
  have eL := rL.enters
  have eS := rS.enters
  go_enter Tryd.func49, Tryd.ntmps49
  go_wp2
  go_loopw [6] (fun vi wr => ∃ (i n : Nat) (dk : Array α), vi = .int .i64 i ∧ a < i ∧ i ≤ b + 1 ∧ dk.size = d.size ∧ wr = putRowK enc 4 (Sort.ahead w n) blk off dk ∧
      insOuter lt a b i dk = insOuter lt a b (a + 1) d) (fun vi _ => b + 1 - (intOf vi).toNat)
  case atStart => exact ⟨a + 1, 0, d, by go_num, by omega, by omega, rfl, (putRowK_self _ _ _ _ _ _ hH).symm, rfl⟩
  case round =>
    obtain ⟨i, n, dk, rfl, hai, hib, hsk, hwr, hO⟩ := hrel
    have HO : Hid (insOuter lt a b i dk = insOuter lt a b (a + 1) d) := hO
    clear hO
    go_wp2
    · -- i < b: the inner loop
      go_loopw [7] (fun vj wr2 => ∃ (j m : Nat) (dj : Array α), vj = .int .i64 j ∧ a ≤ j ∧ j ≤ i ∧ dj.size = d.size ∧ wr2 = putRowK enc 4 (Sort.ahead w m) blk off dj ∧
          insInner lt a j dj = insInner lt a i dk) (fun vj _ => (intOf vj).toNat)
      case atStart => exact ⟨i, n, dk, rfl, by omega, Nat.le_refl _, hsk, rfl, rfl⟩
      case round =>
        obtain ⟨j, m, dj, rfl, haj, hji, hsj, hw2, hI⟩ := hrel
        have hlt : i < b := by assumption
        have HW : Hid (wr = putRowK enc 4 (Sort.ahead w m) blk off dj) := hw2
        have HI : Hid (insInner lt a j dj = insInner lt a i dk) := hI
        clear hw2 hI hH
        have out : (j ≤ a ∨ lt dj[j]! dj[j - 1]! = false) → ∀ q, ∃ i' n' dk', Value.int .i64 ((i : Int) + 1) = .int .i64 (i' : Nat) ∧ a < i' ∧ i' ≤ b + 1 ∧ dk'.size = d.size ∧
            wr.drewN q = putRowK enc 4 (Sort.ahead w n') blk off dk' ∧ insOuter lt a b i' dk' = insOuter lt a b (a + 1) d := fun hs q =>
          ⟨i + 1, m + q, dj, by go_num, by omega, by omega, hsj, by rw [HW.out]; exact putRowK_drewN _ _ _ _ _ _ _ _,
            by rw [← HO.out, insOuter_go _ _ _ _ _ hlt, ← HI.out, insInner_stop _ _ _ _ hs]⟩
        have OUT : Hid _ := out
        clear out
        by_cases hja : a < j
        · have hl := hless m dj hsj j (j - 1) (by omega) (by omega)
          rw [← HW.out] at hl
          rw [show (((j - 1 : Nat) : Int)) = (j : Int) - 1 by omega] at hl
          have hsw : ∀ q, Calls Tryd.prog gs #[rv, .int .i64 j, .int .i64 ((j : Int) - 1)] (wr.drewN q) fun e w' => e = .returned (.tuple #[]) ∧ ∃ q2, w' = putRowK enc 4 (Sort.ahead w (m + q + q2)) blk off (swp dj j (j - 1)) := fun q => by
            have h1 := hswap (m + q) dj hsj j (j - 1) (by omega) (by omega)
            rw [HW.out, putRowK_drewN]
            rw [show (((j - 1 : Nat) : Int)) = (j : Int) - 1 by omega] at h1
            refine h1.mono ?_
            rintro e w' ⟨rfl, q2, rfl⟩
            refine ⟨rfl, q2, ?_⟩
            have h2 := swap_worldK enc 4 hk w (m + q) 0 blk off dj j (j - 1) (by omega) (by omega)
            have h3 : ∀ W : World, W.drewN 0 = W := fun _ => rfl
            rw [h3] at h2
            rw [h2, putRowK_drewN]
            rfl
          have HSW : Hid _ := hsw
          clear hsw
          cases hlv : lt dj[j]! dj[j - 1]! with
          | true =>
            rw [hlv] at hl
            go_wp2_with (first
              | (go_at_fn gl; refine hl.mono ?_; rintro e w' ⟨rfl, q, rfl⟩)
              | (go_at_fn gs; refine (HSW.out _).mono ?_; rintro e w' ⟨rfl, q2, rfl⟩))
            go_roundw
            case rel =>
              (repeat apply Exists.intro)
              refine ⟨⟨j - 1, m + q + q2, swp dj j (j - 1), by congr 1 <;> omega, by omega, by omega, by rw [size_swp]; exact hsj, rfl, ?_⟩, by rw [decide_eq_true hlt, show ((j - 1 : Nat) : Int) = (j : Int) - 1 by omega]⟩
              rw [← HI.out, insInner_go lt a j dj hja hlv]
            case measure => simp [intOf]; omega
          | false =>
            rw [hlv] at hl
            go_wp2_with (go_at_fn gl; refine hl.mono ?_; rintro e w' ⟨rfl, q, rfl⟩)
            go_roundw
            case rel => exact OUT.out (Or.inr hlv) q
            case measure => simp [intOf]; omega
        · go_wp2
          go_roundw
          case rel => exact OUT.out (Or.inl (by omega)) 0
          case measure => simp [intOf]; omega
    · -- the outer loop is at its end
      have hge : ¬ i < b := by assumption
      go_end0
      exact ⟨rfl, n, by unfold Sort.insertionSort; rw [← HO.out, insOuter_stop _ _ _ _ _ hge]⟩
end

section
variable {α : Type} [Inhabited α]
theorem insertionSort_done (lt : α → α → Bool) (d : Array α) (a b : Nat) (h : b ≤ a + 1) : Sort.insertionSort lt d a b = d := by
  unfold Sort.insertionSort; rw [insOuter_stop _ _ _ _ _ (by omega)]
set_option maxHeartbeats 4000000 in
set_option maxRecDepth 100000 in
theorem ins_none (rv : Value) (T a b : Nat) (h : b ≤ a + 1) (hb : b < 4611686018427387904) (ha : a < 4611686018427387904) (w : World) :
    Calls Tryd.prog 49 #[.iface T rv, .int .i64 a, .int .i64 b] w fun e w' => e = .returned (.tuple #[]) ∧ w' = w := by
  go_enter Tryd.func49, Tryd.ntmps49
  go_wp2
  refine wp_loop_rounds 1 ?_
  rw [rounds_succ]
  go_wp2
  all_goals first | (exfalso; omega) | (go_end0; exact ⟨rfl, rfl⟩)

set_option maxHeartbeats 4000000 in
set_option maxRecDepth 100000 in
theorem stable_under20 (rv : Value) (gl gs T : Nat) (rL : Reaches Tryd.prog T rv "Less" gl) (rS : Reaches Tryd.prog T rv "Swap" gs) (enc : α → List Value) (hk : ∀ x, (enc x).length = 4) (lt : α → α → Bool) (blk off : Nat) (d : Array α) (w : World)
    (hless : LessK gl rv enc lt blk off d.size w) (hswap : SwapK gs rv enc blk off d.size w)
    (hH : HoldsK enc 4 w blk off d) (h20 : d.size < 20) :
    Calls Tryd.prog 46 #[.iface T rv, .int .i64 d.size] w fun e w' => e = .returned (.tuple #[]) ∧ ∃ n, w' = putRowK enc 4 (Sort.ahead w n) blk off (Sort.insertionSort lt d 0 d.size) := by
  have hc := ins_sort rv gl gs T rL rS enc hk lt blk off 0 d.size d w hless hswap hH (Nat.zero_le _) (Nat.le_refl _) (by omega)
  clear hless hswap hH
  go_enter Tryd.func46, Tryd.ntmps46
  go_wp2
  refine wp_loop_rounds 1 ?_
  rw [rounds_succ]
  go_wp2_with (go_at_call 49; refine hc.mono ?_; rintro e w1 ⟨rfl, n, rfl⟩)
  refine wp_loop_rounds 1 ?_
  rw [rounds_succ]
  go_wp2
  all_goals first | (exfalso; omega) | (go_end0; exact ⟨rfl, n, rfl⟩)
set_option maxHeartbeats 4000000 in
set_option maxRecDepth 100000 in
theorem stable_at20 (rv : Value) (gl gs T : Nat) (rL : Reaches Tryd.prog T rv "Less" gl) (rS : Reaches Tryd.prog T rv "Swap" gs) (enc : α → List Value) (hk : ∀ x, (enc x).length = 4) (lt : α → α → Bool) (blk off : Nat) (d : Array α) (w : World)
    (hless : LessK gl rv enc lt blk off d.size w) (hswap : SwapK gs rv enc blk off d.size w)
    (hH : HoldsK enc 4 w blk off d) (h20 : d.size = 20) :
    Calls Tryd.prog 46 #[.iface T rv, .int .i64 d.size] w fun e w' => e = .returned (.tuple #[]) ∧ ∃ n, w' = putRowK enc 4 (Sort.ahead w n) blk off (Sort.insertionSort lt d 0 d.size) := by
  have hc := ins_sort rv gl gs T rL rS enc hk lt blk off 0 d.size d w hless hswap hH (Nat.zero_le _) (Nat.le_refl _) (by omega)
  have hn : ∀ w1, Calls Tryd.prog 49 #[.iface T rv, .int .i64 (20 : Nat), .int .i64 (20 : Nat)] w1 fun e w' => e = .returned (.tuple #[]) ∧ w' = w1 := fun w1 => ins_none rv T 20 20 (by omega) (by omega) (by omega) w1
  rw [h20] at hc ⊢
  have hc2 : Calls Tryd.prog 49 #[.iface T rv, .int .i64 0, .int .i64 20] w fun e w' => e = .returned (.tuple #[]) ∧ ∃ n, w' = putRowK enc 4 (Sort.ahead w n) blk off (Sort.insertionSort lt d 0 20) := hc
  have hn2 : ∀ w1, Calls Tryd.prog 49 #[.iface T rv, .int .i64 20, .int .i64 20] w1 fun e w' => e = .returned (.tuple #[]) ∧ w' = w1 := hn
  clear hless hswap hH hc
  go_enter Tryd.func46, Tryd.ntmps46
  go_wp2
  refine wp_loop_rounds 2 ?_
  rw [rounds_succ]
  go_wp2_with (go_at_call 49; refine hc2.mono ?_; rintro e w1 ⟨rfl, n, rfl⟩)
  rw [rounds_succ]
  go_wp2_with (go_at_call 49; refine (hn _).mono ?_; rintro e w2 ⟨rfl, rfl⟩)
  refine wp_loop_rounds 1 ?_
  rw [rounds_succ]
  go_wp2
  go_end0
  exact ⟨rfl, n, rfl⟩
set_option maxHeartbeats 4000000 in
set_option maxRecDepth 100000 in
/-- sort.Stable of at most twenty: the insertion sort. -/
theorem sort_stable (rv : Value) (gn gl gs T : Nat) (rN : Reaches Tryd.prog T rv "Len" gn) (rL : Reaches Tryd.prog T rv "Less" gl) (rS : Reaches Tryd.prog T rv "Swap" gs) (enc : α → List Value) (hk : ∀ x, (enc x).length = 4) (lt : α → α → Bool) (blk off : Nat) (d : Array α) (w : World)
    (hlen : Calls Tryd.prog gn #[rv] w fun e w' => e = .returned (.int .i64 d.size) ∧ ∃ q, w' = w.drewN q)
    (hless : ∀ q, LessK gl rv enc lt blk off d.size (w.drewN q)) (hswap : ∀ q, SwapK gs rv enc blk off d.size (w.drewN q))
    (hH : HoldsK enc 4 w blk off d) (h20 : d.size ≤ 20) :
    Calls Tryd.prog 43 #[.iface T rv] w fun e w' => e = .returned (.tuple #[]) ∧ ∃ n, w' = putRowK enc 4 (Sort.ahead w n) blk off (Sort.insertionSort lt d 0 d.size) := by
  have hc : ∀ q, Calls Tryd.prog 46 #[.iface T rv, .int .i64 d.size] (w.drewN q) fun e w' => e = .returned (.tuple #[]) ∧ ∃ n, w' = putRowK enc 4 (Sort.ahead w n) blk off (Sort.insertionSort lt d 0 d.size) := fun q => by
    have h1 : Calls Tryd.prog 46 #[.iface T rv, .int .i64 d.size] (w.drewN q) fun e w' => e = .returned (.tuple #[]) ∧ ∃ n, w' = putRowK enc 4 (Sort.ahead (w.drewN q) n) blk off (Sort.insertionSort lt d 0 d.size) := by
      rcases Nat.lt_or_ge d.size 20 with h | h
      · exact stable_under20 rv gl gs T rL rS enc hk lt blk off d _ (hless q) (hswap q) hH h
      · exact stable_at20 rv gl gs T rL rS enc hk lt blk off d _ (hless q) (hswap q) hH (by omega)
    refine h1.mono ?_
    rintro e w' ⟨rfl, n, rfl⟩
    refine ⟨rfl, q + n, ?_⟩
    rw [drewN_ahead, ahead_ahead]
  have HC : Hid _ := hc
  clear hc hless hswap hH
  have mN : ∀ w, Sem.run Tryd.prog (method 222 T rv "Len") w = .ok (gn, rv) w := rN.finds
  have eN := rN.enters
  go_enter Tryd.func43, Tryd.ntmps43
  go_wp2_with (first
    | (go_at_fn gn; refine hlen.mono ?_; rintro e w' ⟨rfl, q, rfl⟩)
    | (go_at_call 46; refine (HC.out _).mono ?_; rintro e w' ⟨rfl, n, rfl⟩))
  go_end0
  exact ⟨rfl, n, rfl⟩
end
end Go.Proofs.YtgeimklpcfepaaaDoor
