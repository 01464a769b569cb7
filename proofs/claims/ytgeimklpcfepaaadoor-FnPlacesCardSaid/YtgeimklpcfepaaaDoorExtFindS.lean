/- sahilm.Find: what is found, in the stable order of the scores. -/
import Derived.Test.YtgeimklpcfepaaaDoorFindFrom
import Derived.Test.YtgeimklpcfepaaaDoorExtSort
import Derived.Test.YtgeimklpcfepaaaDoorSortPlain
namespace Go.Proofs.YtgeimklpcfepaaaDoor
open Go.RowKit Go.Lib Go.Sort Go.Proofs.YtgeimklpcfepaaaDoorW.PrintWords Go.Proofs.YtgeimklpcfepaaaDoorW.PrintMore
open P
set_option linter.unusedVariables false
set_option linter.unusedSimpArgs false

instance : Inhabited S49 := ⟨z49⟩
/-- A match, with the slice that stands in its cells. -/
abbrev M49 : Type := S49 × (Option Addr × Nat × Nat)
instance : Inhabited M49 := ⟨(z49, none, 0, 0)⟩
def encM (x : M49) : List Value := [.string x.1.f0, .int .i64 x.1.f1, .slice x.2.1 x.2.2.1 x.2.2.2, .int .i64 x.1.f3]
def ltM (x y : M49) : Bool := decide (x.1.f3 > y.1.f3)
def lt49 (x y : S49) : Bool := decide (x.f3 > y.f3)
theorem encM_length (x : M49) : (encM x).length = 4 := rfl
theorem take4 {l : List Value} {s : Nat} {a b c d : Value} (h0 : l[s]? = some a) (h1 : l[s + 1]? = some b) (h2 : l[s + 2]? = some c) (h3 : l[s + 3]? = some d) : (l.drop s).take 4 = [a, b, c, d] := by
  apply List.ext_getElem?
  intro i
  match i with
  | 0 => rw [List.getElem?_take_of_lt (by omega), List.getElem?_drop]; exact h0
  | 1 => rw [List.getElem?_take_of_lt (by omega), List.getElem?_drop]; exact h1
  | 2 => rw [List.getElem?_take_of_lt (by omega), List.getElem?_drop]; exact h2
  | 3 => rw [List.getElem?_take_of_lt (by omega), List.getElem?_drop]; exact h3
  | i + 4 => rw [List.getElem?_eq_none (by simp; omega), List.getElem?_eq_none (by simp)]
theorem of_take4 {l e : List Value} {s : Nat} (h : (l.drop s).take 4 = e) (i : Nat) (hi : i < 4) : l[s + i]? = e[i]? := by
  rw [← h, List.getElem?_take_of_lt hi, List.getElem?_drop]
theorem list_of {α : Type} (p : Nat → α → Prop) : ∀ n : Nat, (∀ j, j < n → ∃ x, p j x) → ∃ E : List α, E.length = n ∧ ∀ j x, E[j]? = some x → p j x
  | 0, _ => ⟨[], rfl, fun j x h => by simp at h⟩
  | n + 1, h => by
    obtain ⟨E, h1, h2⟩ := list_of p n (fun j hj => h j (by omega))
    obtain ⟨x, hx⟩ := h n (by omega)
    refine ⟨E ++ [x], by simp [h1], fun j y hy => ?_⟩
    by_cases hj : j < E.length
    · rw [List.getElem?_append_left hj] at hy
      exact h2 j y hy
    · rw [List.getElem?_append_right (by omega)] at hy
      by_cases he : j - E.length = 0
      · rw [he] at hy
        have : x = y := by simpa using hy
        subst this
        rw [show j = n by omega]
        exact hx
      · rw [List.getElem?_eq_none (by simp; omega)] at hy
        cases hy
theorem insRev_mem {α : Type} (lt : α → α → Bool) (x y : α) : ∀ l : List α, y ∈ insRev lt x l → y = x ∨ y ∈ l
  | [], h => by simpa [insRev] using h
  | a :: l, h => by
    rw [insRev] at h
    split at h
    · rcases List.mem_cons.1 h with h | h
      · exact Or.inr (by simp [h])
      · rcases insRev_mem lt x y l h with h | h
        · exact Or.inl h
        · exact Or.inr (by simp [h])
    · rcases List.mem_cons.1 h with h | h
      · exact Or.inl h
      · exact Or.inr h
theorem foldl_mem {α : Type} (lt : α → α → Bool) (y : α) : ∀ (l R : List α), y ∈ l.foldl (fun R x => insRev lt x R) R → y ∈ R ∨ y ∈ l
  | [], R, h => Or.inl h
  | x :: l, R, h => by
    rcases foldl_mem lt y l _ h with h | h
    · rcases insRev_mem lt x y R h with h | h
      · exact Or.inr (by simp [h])
      · exact Or.inl h
    · exact Or.inr (by simp [h])
theorem isort_mem {α : Type} [Inhabited α] (lt : α → α → Bool) (l : List α) (y : α) (h : y ∈ isort lt l) : y ∈ l := by
  unfold isort at h
  rw [List.mem_reverse] at h
  rcases foldl_mem lt y l [] h with h | h
  · exact absurd h (by simp)
  · exact h
theorem cellsM {w : World} {blk off : Nat} {d : Array M49} (h : HoldsK encM 4 w blk off d) (i : Nat) (hi : i < d.size) :
    w.cell? ⟨blk, off + i * 4, none⟩ = some (.string d[i]!.1.f0) ∧ w.cell? ⟨blk, off + i * 4 + 1, none⟩ = some (.int .i64 d[i]!.1.f1) ∧ w.cell? ⟨blk, off + i * 4 + 2, none⟩ = some (.slice d[i]!.2.1 d[i]!.2.2.1 d[i]!.2.2.2) ∧ w.cell? ⟨blk, off + i * 4 + 3, none⟩ = some (.int .i64 d[i]!.1.f3) :=
  ⟨(h.cell hi (c := 0) (by omega)).1, (h.cell hi (c := 1) (by omega)).1, (h.cell hi (c := 2) (by omega)).1, (h.cell hi (c := 3) (by omega)).1⟩
theorem lessM {w : World} {g c : Nat} {d : Array M49} (h : HoldsK encM 4 w g 0 d) (hz : d.size ≤ 20) : LessK 70 (.slice (some ⟨g, 0, none⟩) d.size c) encM ltM g 0 d.size w := fun m dk hs i j hi hj => by
  have h1 := holdsK_putRowK encM 4 _ g 0 d dk (holdsK_ahead encM 4 w m g 0 d h) hs
  exact r_Less g 0 c d.size _ (fun t => dk[t]!.1.f3) (fun t ht => (cellsM h1 t (by omega)).2.2.2) i j hi hj (by omega)
theorem swapM {w : World} {g c : Nat} {cs : Array Value} {d : Array M49} (hb : w.heap[g]? = some (.cells cs 49 (0, 0))) (h : HoldsK encM 4 w g 0 d) (hz : d.size ≤ 20) : SwapK 71 (.slice (some ⟨g, 0, none⟩) d.size c) encM g 0 d.size w := fun m dk hs i j hi hj => by
  have h1 := holdsK_putRowK encM 4 _ g 0 d dk (holdsK_ahead encM 4 w m g 0 d h) hs
  obtain ⟨x0, x1, x2, x3⟩ := cellsM h1 i (by omega)
  obtain ⟨y0, y1, y2, y3⟩ := cellsM h1 j (by omega)
  exact r_Swap g 0 c d.size _ _ _ _ _ _ _ _ _ _ _ _ _ i j hi hj (by omega) x0 x1 x2 x3 y0 y1 y2 y3 (fun t => by
    unfold putRowK; rw [frozen?_putRow, frozen?_ahead]; exact blk_frozen hb _)
theorem below_putRow {B : Nat} {w : World} {g n : Nat} {d : Array M49} (hg : B ≤ g) : Below B w (putRowK encM 4 (Sort.ahead w n) g 0 d) := by
  refine ⟨rfl, rfl, rfl, ?_, fun k hk => ?_⟩
  · unfold putRowK; rw [size_putRow]; exact Nat.le_refl _
  · show (w.heap.modify g _)[k]? = _
    rw [Array.getElem?_modify, if_neg (by omega)]
theorem putRow_block {w : World} {g n : Nat} {cur : Array Value} {d : Array M49} (hb : w.heap[g]? = some (.cells cur 49 (0, 0))) : (putRowK encM 4 (Sort.ahead w n) g 0 d).heap[g]? = some (.cells (putCells id 0 (flatK encM 4 d) cur) 49 (0, 0)) := by
  show (w.heap.modify g _)[g]? = _
  rw [Array.getElem?_modify, if_pos rfl, hb]
  rfl
theorem putRow_far {w : World} {g n : Nat} {d : Array M49} (k : Nat) (hk : k ≠ g) : (putRowK encM 4 (Sort.ahead w n) g 0 d).heap[k]? = w.heap[k]? := by
  show (w.heap.modify g _)[k]? = _
  rw [Array.getElem?_modify, if_neg (fun e => hk e.symm)]
/-- The matches' order; they stand in the same row. -/
theorem sorted_49 {w : World} {base : Nat} {ok : Nat → Prop} {v : Value} {L : List S49} (h : Kd.R k49 49 w base ok v L) (h20 : L.length ≤ 20) :
    Calls Tryd.prog 43 #[.iface 40 v] w fun e w' => e = .returned (.tuple #[]) ∧ Kd.R k49 49 w' base ok v (isort lt49 L) ∧ Below base w w' := by
  obtain ⟨h0, inner, ho, hr⟩ := h
  rcases ho.2 with ⟨rfl, hn⟩ | ⟨g, cap, cur, rfl, hg, hb, hnc, hcm, hcs, htk⟩
  · obtain rfl := List.length_eq_zero_iff.1 hn
    have hH : HoldsK encM 4 w base 0 (#[] : Array M49) := fun t ht => by simp at ht
    refine (sort_stable (.slice none 0 0) 69 70 71 40 (mlen_reached _ _ _) (less_reached _ _ _) (swap_reached _ _ _) encM encM_length ltM base 0 #[] w (r_Len _ _ _ _) (fun q m dk hs i j hi hj => absurd hi (by simp)) (fun q m dk hs i j hi hj => absurd hi (by simp)) hH (by simp)).mono ?_
    rintro e w' ⟨rfl, n, rfl⟩
    exact ⟨rfl, Kd.R_nil _ _ _ _ _, below_putRow (Nat.le_refl _)⟩
  · have hcs4 : cur.size = cap * 4 := hcs
    have htk4 : cur.toList.take (L.length * 4) = inner := htk
    clear hcs htk ho
    generalize hn : L.length = n at *
    obtain ⟨E, hE, hE2⟩ := list_of (fun (j : Nat) (x : M49) => L[j]? = some x.1 ∧ (inner.drop (j * 4)).take 4 = encM x ∧ (Kd.int .i64).R 3 w base (fun k => ok k ∧ some k ≠ (Value.slice (some ⟨g, 0, none⟩) n cap).ownBlock) (.slice x.2.1 x.2.2.1 x.2.2.2) x.1.f2) n (fun j hj => by
      have hg := List.getElem?_eq_getElem (show j < L.length by omega)
      obtain ⟨v2, e, hR⟩ := k49_openM (hr.2 j _ hg)
      obtain ⟨A, c, rfl⟩ := Kd.R_slice hR
      exact ⟨(L[j], A, _, c), hg, e, hR⟩)
    have hmap : E.map (·.1) = L := by
      apply List.ext_getElem?
      intro j
      rw [List.getElem?_map]
      by_cases hj : j < E.length
      · have := hE2 j _ (List.getElem?_eq_getElem hj)
        rw [List.getElem?_eq_getElem hj, this.1]; rfl
      · rw [List.getElem?_eq_none (by omega), List.getElem?_eq_none (by omega)]; rfl
    have hEa : ∀ j, j < E.length → ∃ x, E[j]? = some x ∧ E.toArray[j]! = x := fun j hj => ⟨E[j], List.getElem?_eq_getElem hj, by simp [Array.getElem!_eq_getD, Array.getD_eq_getD_getElem?, hj]⟩
    have hH : HoldsK encM 4 w g 0 E.toArray := by
      intro t ht
      rw [size_flatK] at ht
      have ht2 : t < E.length * 4 := by simpa using ht
      refine ⟨?_, blk_frozen hb _⟩
      rw [get_flatK _ _ _ _ ht, Nat.zero_add, blk_cell hb]
      obtain ⟨x, hx1, hx2⟩ := hEa (t / 4) (by omega)
      have h4 := of_take4 (hE2 _ _ hx1).2.1 (t % 4) (Nat.mod_lt _ (by omega))
      rw [show t / 4 * 4 + t % 4 = t by omega, ← htk4, List.getElem?_take_of_lt (by omega), Array.getElem?_toList] at h4
      rw [hx2, h4]
      have hm : t % 4 < 4 := Nat.mod_lt _ (by omega)
      generalize t % 4 = p at hm ⊢
      match p, hm with
      | 0, _ => rfl
      | 1, _ => rfl
      | 2, _ => rfl
      | 3, _ => rfl
    have hz : E.toArray.size ≤ 20 := by simp; omega
    have hs : (insertionSort ltM E.toArray 0 E.length).toList = isort ltM E := sort_list ltM E
    have hs2 : (insertionSort ltM E.toArray 0 E.length).size = E.length := by
      rw [← Array.length_toList, hs, isort_length]
    have hsz : E.toArray.size = n := by simp [hE]
    have hE3 : E.toArray.size = E.length := by simp
    subst hsz
    refine (sort_stable (.slice (some ⟨g, 0, none⟩) E.toArray.size cap) 69 70 71 40 (mlen_reached _ _ _) (less_reached _ _ _) (swap_reached _ _ _) encM encM_length ltM g 0 E.toArray w (r_Len _ _ _ _)
      (fun q => lessM (w := w.drewN q) hH hz) (fun q => swapM (w := w.drewN q) hb hH hz) hH hz).mono ?_
    rintro e w' ⟨rfl, m, rfl⟩
    refine ⟨rfl, ?_, below_putRow hg⟩
    have hDe : insertionSort ltM E.toArray 0 E.toArray.size = insertionSort ltM E.toArray 0 E.length := by rw [hE3]
    rw [hDe]
    generalize hD : insertionSort ltM E.toArray 0 E.length = D at hs hs2
    have hH2 : HoldsK encM 4 (putRowK encM 4 (Sort.ahead w m) g 0 D) g 0 D := holdsK_putRowK encM 4 _ g 0 E.toArray D (holdsK_ahead encM 4 w m g 0 E.toArray hH) (by rw [hs2, hE3])
    have hb2 := putRow_block (n := m) (d := D) hb
    have hL2 : isort lt49 L = (isort ltM E).map (·.1) := by
      rw [← hmap]
      exact (isort_map ltM lt49 (·.1) (fun x y => rfl) E).symm
    have hl2 : (isort lt49 L).length = E.toArray.size := by rw [isort_length, hn]
    have hfar : ∀ k, (ok k ∧ some k ≠ (Value.slice (some ⟨g, 0, none⟩) E.toArray.size cap).ownBlock) → (putRowK encM 4 (Sort.ahead w m) g 0 D).heap[k]? = w.heap[k]? := fun k hk => putRow_far k (fun e => hk.2 (by rw [e]; rfl))
    generalize hW' : putRowK encM 4 (Sort.ahead w m) g 0 D = w' at hH2 hb2 hfar ⊢
    have hcz : (putCells id 0 (flatK encM 4 D) cur).size = cap * 4 := by unfold putCells; rw [Array.size_mapIdx]; exact hcs4
    generalize putCells id 0 (flatK encM 4 D) cur = cur2 at hb2 hcz
    have hzl : (cur2.toList.take (E.toArray.size * 4)).length = E.toArray.size * 4 := by
      rw [List.length_take, Array.length_toList, hcz]
      have := Nat.mul_le_mul_right 4 hnc
      omega
    refine ⟨h0, cur2.toList.take (E.toArray.size * 4), ⟨?_, Or.inr ⟨g, cap, cur2, ?_, hg, hb2, ?_, hcm, hcz, ?_⟩⟩, ?_, fun j p hj => ?_⟩
    · rw [hl2]; exact hzl
    · rw [hl2]
    · rw [hl2]; exact hnc
    · rw [hl2]; rfl
    · rw [hl2]; exact hzl
    · rw [hL2, List.getElem?_map] at hj
      obtain ⟨x, hx, rfl⟩ := Option.map_eq_some_iff.1 hj
      have hjl : j < E.length := by
        have := (List.getElem?_eq_some_iff.1 hx).1
        rw [isort_length] at this
        exact this
      have hDj : D[j]! = x := by
        rw [← hs, Array.getElem?_toList] at hx
        simp [Array.getElem!_eq_getD, Array.getD_eq_getD_getElem?, hx]
      obtain ⟨c0, c1, c2, c3⟩ := cellsM hH2 j (by omega)
      rw [blk_cell hb2, Nat.zero_add, hDj] at c0 c1 c2 c3
      have get : ∀ (t : Nat) (u : Value), t < E.toArray.size * 4 → cur2[t]? = some u → (cur2.toList.take (E.toArray.size * 4))[t]? = some u := fun t u ht hu => by
        rw [List.getElem?_take_of_lt ht, Array.getElem?_toList]; exact hu
      have e4 := take4 (get (j * 4) _ (by omega) c0) (get (j * 4 + 1) _ (by omega) c1) (get (j * 4 + 2) _ (by omega) c2) (get (j * 4 + 3) _ (by omega) c3)
      have hxE : x ∈ E := isort_mem ltM E x (List.mem_of_getElem? hx)
      obtain ⟨i, hi, rfl⟩ := List.getElem_of_mem hxE
      have hRx := (hE2 i _ (List.getElem?_eq_getElem hi)).2.2
      show k49.M w' base _ _ ((List.drop (j * 4) (cur2.toList.take (E.toArray.size * 4))).take 4)
      rw [e4]
      exact k49_mkM _ _ _ _ (Kd.R_move hRx hfar)
namespace P
def sahilm_Find.f (a0 : ByteArray) (l1 : List ByteArray) : Option (List S49) := if okTexts a0 l1 = true ∧ l1.length ≤ 20 then some (isort lt49 (findAll a0 l1)) else none
end P
theorem findAll_len (a0 : ByteArray) (l : List ByteArray) : (findAll a0 l).length ≤ l.length := by
  have : ∀ (W : List Int) (l : List ByteArray) (i : Nat), (findS W l i).length ≤ l.length := by
    intro W l
    induction l with
    | nil => intro i; exact Nat.le_refl _
    | cons s r ih =>
      intro i
      have := ih (i + 1)
      rw [findS]
      split <;> simp <;> omega
  unfold findAll
  split
  · simp
  · exact this _ _ _
set_option maxHeartbeats 4000000 in
set_option maxRecDepth 100000 in
theorem findFrom_calls (a0 : ByteArray) (A : Option Addr) (c : Nat) (l : List ByteArray) (w : World) (hC : Kd.C Kd.string w A l.length l) (hA : Amb w) (h : okTexts a0 l = true) (h20 : l.length ≤ 20) :
    Calls Tryd.prog 31 #[.string a0, .iface 51 (.slice A l.length c)] w fun e w' => ∃ v0_ : Value, e = .returned (v0_) ∧ Kd.R k49 49 w' w.heap.size (fun _ => True) v0_ (isort lt49 (findAll a0 l)) ∧ Below w.heap.size w w' := by
  have HF := Aside0.mk (from_calls a0 A c l w hC hA h)
  have HL := Aside0.mk (Nat.le_trans (findAll_len a0 l) h20)
  clear hC hA h h20
  generalize findAll a0 l = R at HF HL ⊢
  have HS := Aside0.mk (fun (w1 : World) (v : Value) (hR : Kd.R k49 49 w1 w.heap.size (fun _ => True) v R) => sorted_49 hR HL.out)
  clear HL
  go_enter Tryd.func31, Tryd.ntmps31
  go_wp2_with (go_at_call 27; (with_reducible refine HF.out.mono ?_); rintro e w1 ⟨v, rfl, hR, hb⟩; have HR := Aside0.mk hR; have HB := Aside0.mk hb; clear hR hb)
  go_wp2_with (go_at_call 43; (with_reducible refine (HS.out _ _ HR.out).mono ?_); rintro e w2 ⟨rfl, hR2, hb2⟩; have HR2 := Aside0.mk hR2; have HB2 := Aside0.mk hb2; clear hR2 hb2)
  go_ret
  exact ⟨_, rfl, HR2.out, Below.trans HB.out HB2.out⟩
set_option maxHeartbeats 2000000 in
theorem P.sahilm_Find.calls (a0 : ByteArray) (A1 : Option Addr) (c1 : Nat) (l1 : List ByteArray) (r : List S49) (w : World) (hr1 : Kd.C Kd.string w A1 l1.length l1) (hc1 : l1.length ≤ c1) (hA_ : Amb w) (h : sahilm_Find.f a0 l1 = some r) :
    Calls Tryd.prog 26 #[.string a0, .slice A1 l1.length c1] w fun e w' => ∃ v0_ : Value, e = .returned (v0_) ∧ Kd.R k49 49 w' w.heap.size (fun _ => True) v0_ r ∧ Below w.heap.size w w' := by
  unfold sahilm_Find.f at h
  split at h
  case isFalse => cases h
  rename_i hok
  obtain rfl := Option.some.inj h
  have HF := Aside0.mk (findFrom_calls a0 A1 c1 l1 w hr1 hA_ hok.1 hok.2)
  clear h hr1 hc1 hA_ hok
  generalize isort lt49 (findAll a0 l1) = R at HF ⊢
  go_enter Tryd.func26, Tryd.ntmps26
  go_wp2_with (go_at_call 31; (with_reducible refine HF.out.mono ?_); rintro e w1 ⟨v, rfl, hR, hb⟩; have HR := Aside0.mk hR; have HB := Aside0.mk hb; clear hR hb)
  go_ret
  exact ⟨_, rfl, HR.out, HB.out⟩
end Go.Proofs.YtgeimklpcfepaaaDoor
