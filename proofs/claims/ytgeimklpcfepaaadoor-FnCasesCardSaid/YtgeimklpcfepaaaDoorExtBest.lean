/- spec.Best: its rows and its order, ahead of the walk. -/
import Derived.Test.YtgeimklpcfepaaaDoorBase
import Derived.Test.YtgeimklpcfepaaaDoorP0
import Derived.Test.YtgeimklpcfepaaaDoorExtFindS
import Derived.Shelf.GgSortFunc.RowK
import Derived.RegionTactic
import Derived.Deep.QuietTactic
import Derived.BigQuiet
import Derived.Deep.CutBlock
import Derived.Deep.CutRange
import Derived.Deep.DeepCutAuto
import Derived.Test.YtgeimklpcfepaaaDoorWLast
namespace Go.Proofs.YtgeimklpcfepaaaDoor
open Go.RowKit Go.Lib Go.Sort Go.Proofs.YtgeimklpcfepaaaDoorW.PrintWords Go.Proofs.YtgeimklpcfepaaaDoorW.PrintMore
open P
set_option linter.unusedVariables false
set_option linter.unusedSimpArgs false

instance : Inhabited S33 := ⟨z33⟩
/-- One that is found, with the slice that stands in its cells. -/
abbrev F33 : Type := S33 × (Option Addr × Nat × Nat)
def zF : F33 := (z33, none, 0, 0)
instance : Inhabited F33 := ⟨zF⟩
def encF (x : F33) : List Value := [.string x.1.f0, .int .i64 x.1.f1, .slice x.2.1 x.2.2.1 x.2.2.2, .int .i64 x.1.f3]
def ltF (x y : F33) : Bool := decide (y.1.f3 < x.1.f3)
def lt33 (x y : S33) : Bool := decide (y.f3 < x.f3)
theorem encF_length (x : F33) : (encF x).length = 4 := rfl
/-- Its kind: what its cells say, and no more. -/
def kF : Kd F33 where
  sz := 4
  E := []
  K := fun _ x cs => cs = encF x
  M := fun _ _ _ x cs => cs = encF x
  K_len := fun h => by rw [h]; rfl
  K_one := fun h u hu => by
    rw [h] at hu
    simp only [encF, List.mem_cons, List.not_mem_nil, or_false] at hu
    rcases hu with rfl | rfl | rfl | rfl <;> rfl
  K_below := fun _ h => h
  K_of_M := fun h => h
  M_mono := fun _ h => h
  M_bound := fun h => h
  M_move := fun _ h => h
  M_lower := fun _ h => h
/-- The slice in its cells is its places', in an elder world. -/
def Good (w : World) (x : F33) : Prop := x.2.2.1 = x.1.f2.length ∧ x.1.f2.length ≤ x.2.2.2 ∧ (Kd.int .i64).C w x.2.1 x.1.f2.length x.1.f2
theorem good_K {w w' : World} {x : F33} (h : Good w x) (hb : Below w.heap.size w w') : k33.K w' x.1 (encF x) := by
  obtain ⟨h1, h2, h3⟩ := h
  unfold encF
  rw [h1]
  exact k33_mk w' x.1 h2 (Kd.C_below h3 hb)
theorem C_of_kF {w0 w w' : World} {base : Nat} {ok : Nat → Prop} {v : Value} {E : List F33} (h : Kd.R kF 33 w' base ok v E) (hg : ∀ x ∈ E, Good w0 x) (hb : Below w0.heap.size w0 w') :
    ∃ A c, v = .slice A (E.map (·.1)).length c ∧ (E.map (·.1)).length ≤ c ∧ Kd.C k33 w' A (E.map (·.1)).length (E.map (·.1)) := by
  obtain ⟨A, c, e, hc, hC⟩ := Kd.R_reads h
  refine ⟨A, c, by rw [List.length_map]; exact e, by rw [List.length_map]; exact hc, ?_⟩
  obtain ⟨h1, h2, h3⟩ := hC
  rw [List.length_map]
  refine ⟨List.length_map .., h2, fun hn => ?_⟩
  obtain ⟨ad, e1, h4⟩ := h3 hn
  refine ⟨ad, e1, fun j p hj => ?_⟩
  rw [List.getElem?_map] at hj
  obtain ⟨x, hx, rfl⟩ := Option.map_eq_some_iff.1 hj
  obtain ⟨c', hl, hK, hcell⟩ := h4 j x hx
  refine ⟨c', hl, ?_, hcell⟩
  have : c' = encF x := hK
  rw [this]
  exact good_K (hg x (List.mem_of_getElem? hx)) hb
/-- Where one is put: behind those that are not less. -/
theorem insRev_at {α : Type} (lt : α → α → Bool) (x : α) (A : List α) (hA : ∀ a, A.head? = some a → lt x a = false) : ∀ B : List α, (∀ p ∈ B, lt x p = true) → insRev lt x (B ++ A) = B ++ x :: A
  | [], _ => by
    cases A with
    | nil => rfl
    | cons a A =>
      rw [List.nil_append, List.nil_append, insRev, if_neg (by rw [hA a rfl]; decide)]
  | b :: B, h => by
    rw [List.cons_append, insRev, if_pos (h b (by simp)), insRev_at lt x A hA B (fun p hp => h p (by simp [hp]))]
    rfl
theorem ins_at {α : Type} (lt : α → α → Bool) (x : α) (E : List α) (k : Nat) (hk : k ≤ E.length) (h1 : ∀ t p, k ≤ t → E[t]? = some p → lt x p = true) (h2 : ∀ p, 0 < k → E[k - 1]? = some p → lt x p = false) :
    (insRev lt x E.reverse).reverse = E.take k ++ x :: E.drop k := by
  have e : E.reverse = (E.drop k).reverse ++ (E.take k).reverse := by rw [← List.reverse_append, List.take_append_drop]
  rw [e, insRev_at lt x (E.take k).reverse (fun a ha => ?_) (E.drop k).reverse (fun p hp => ?_)]
  · simp
  · rw [List.head?_reverse, List.getLast?_eq_getElem?, List.length_take, Nat.min_eq_left hk] at ha
    by_cases h0 : k = 0
    · subst h0; simp at ha
    · rw [List.getElem?_take_of_lt (by omega)] at ha
      exact h2 a (by omega) ha
  · rw [List.mem_reverse] at hp
    obtain ⟨i, hi, rfl⟩ := List.getElem_of_mem hp
    rw [List.getElem_drop]
    simp at hi
    exact h1 (k + i) _ (by omega) (List.getElem?_eq_getElem _)
theorem setMany_one {α : Type} [Inhabited α] (enc : α → List Value) (k : Nat) (hk : ∀ x, (enc x).length = k) (d : Array α) (i : Nat) (x : α) (hi : i < d.size) :
    setMany (flatK enc k d) (i * k) (enc x) = flatK enc k (d.setIfInBounds i x) := by
  refine ext_get! (by simp) fun t ht => ?_
  have ht' : t < d.size * k := by simpa using ht
  have k0 : 0 < k := by rcases Nat.eq_zero_or_pos k with h | h; · subst h; simp at ht'
                        · exact h
  rw [get_setMany _ _ _ t (by simpa using ht'), get_flatK _ _ _ t ht', get_flatK _ _ _ t (by simpa using ht'), hk]
  have m : ∀ q, t / k = q → t - q * k = t % k := fun q h => by subst h; rw [Nat.mod_eq_sub_div_mul]
  by_cases a : t / k = i
  · rw [if_pos ((blk_iff k i t k0).2 a), m i a, a, getElem!_set_same d i x hi]
  · rw [if_neg (fun h => a ((blk_iff k i t k0).1 h)), getElem!_set_other d i _ x a]
theorem set_worldK {α : Type} [Inhabited α] (enc : α → List Value) (k : Nat) (hk : ∀ x, (enc x).length = k) (w : World) (m q blk off : Nat) (d : Array α) (i : Nat) (x : α) (hi : i < d.size) :
    ((putRowK enc k (Sort.ahead w m) blk off d).drewN q).setCells blk (off + i * k) (enc x) = putRowK enc k (Sort.ahead w (m + q)) blk off (d.setIfInBounds i x) := by
  have b : i * k + k ≤ d.size * k := by
    have := Nat.mul_le_mul_right k (show i + 1 ≤ d.size from hi); rwa [Nat.add_mul, Nat.one_mul] at this
  unfold putRowK
  rw [Go.Proofs.putRow_drewN, setCells_putRow _ _ _ _ _ _ (by rw [hk, size_flatK]; exact b), setMany_one enc k hk d i x hi]
theorem cellsF {w : World} {blk off : Nat} {d : Array F33} (h : HoldsK encF 4 w blk off d) (i : Nat) (hi : i < d.size) :
    w.cell? ⟨blk, off + i * 4, none⟩ = some (.string d[i]!.1.f0) ∧ w.cell? ⟨blk, off + i * 4 + 1, none⟩ = some (.int .i64 d[i]!.1.f1) ∧ w.cell? ⟨blk, off + i * 4 + 2, none⟩ = some (.slice d[i]!.2.1 d[i]!.2.2.1 d[i]!.2.2.2) ∧ w.cell? ⟨blk, off + i * 4 + 3, none⟩ = some (.int .i64 d[i]!.1.f3) :=
  ⟨(h.cell hi (c := 0) (by omega)).1, (h.cell hi (c := 1) (by omega)).1, (h.cell hi (c := 2) (by omega)).1, (h.cell hi (c := 3) (by omega)).1⟩
/-- A row of these, held. -/
theorem own_kF {w : World} {base : Nat} {ok : Nat → Prop} {v : Value} {E : List F33} (h : Kd.R kF 33 w base ok v E) (h0 : 0 < E.length) :
    ∃ g cap cur, v = .slice (some ⟨g, 0, none⟩) E.length cap ∧ base ≤ g ∧ w.heap[g]? = some (.cells cur 33 (0, 0)) ∧ E.length ≤ cap ∧ cap ≤ maxLen ∧ cur.size = cap * 4 ∧ HoldsK encF 4 w g 0 E.toArray := by
  obtain ⟨h1, inner, ho, hr⟩ := h
  rcases ho.2 with ⟨rfl, hn⟩ | ⟨g, cap, cur, rfl, hg, hb, hnc, hcm, hcs, htk⟩
  · omega
  · refine ⟨g, cap, cur, rfl, hg, hb, hnc, hcm, hcs, fun t ht => ?_⟩
    rw [size_flatK] at ht
    have ht2 : t < E.length * 4 := by simpa using ht
    refine ⟨?_, blk_frozen hb _⟩
    have hq : t / 4 < E.length := by omega
    have hr2 : (inner.drop (t / 4 * 4)).take 4 = encF E[t / 4] := hr.2 (t / 4) E[t / 4] (List.getElem?_eq_getElem hq)
    have h4 : inner[t / 4 * 4 + t % 4]? = (encF E[t / 4])[t % 4]? := by rw [← hr2, List.getElem?_take_of_lt (Nat.mod_lt _ (by omega)), List.getElem?_drop]
    have htk4 : cur.toList.take (E.length * 4) = inner := htk
    rw [show t / 4 * 4 + t % 4 = t by omega, ← htk4, List.getElem?_take_of_lt (by omega), Array.getElem?_toList] at h4
    rw [get_flatK _ _ _ _ ht, Nat.zero_add, blk_cell hb, h4]
    have hx : E.toArray[t / 4]! = E[t / 4] := by simp [Array.getElem!_eq_getD, Array.getD_eq_getD_getElem?, hq]
    rw [hx]
    have hm : t % 4 < 4 := Nat.mod_lt _ (by omega)
    generalize t % 4 = p at hm ⊢
    match p, hm with
    | 0, _ => rfl
    | 1, _ => rfl
    | 2, _ => rfl
    | 3, _ => rfl
theorem take4F {l : List Value} {s : Nat} {a b c d : Value} (h0 : l[s]? = some a) (h1 : l[s + 1]? = some b) (h2 : l[s + 2]? = some c) (h3 : l[s + 3]? = some d) : (l.drop s).take 4 = [a, b, c, d] := by
  apply List.ext_getElem?
  intro i
  match i with
  | 0 => rw [List.getElem?_take_of_lt (by omega), List.getElem?_drop]; exact h0
  | 1 => rw [List.getElem?_take_of_lt (by omega), List.getElem?_drop]; exact h1
  | 2 => rw [List.getElem?_take_of_lt (by omega), List.getElem?_drop]; exact h2
  | 3 => rw [List.getElem?_take_of_lt (by omega), List.getElem?_drop]; exact h3
  | i + 4 => rw [List.getElem?_eq_none (by simp; omega), List.getElem?_eq_none (by simp)]
/-- .. and told again. -/
theorem kF_of_holds {w : World} {base g cap : Nat} {cur : Array Value} {ok : Nat → Prop} {D : Array F33} (hok : ok g) (hg : base ≤ g) (hb : w.heap[g]? = some (.cells cur 33 (0, 0))) (hnc : D.size ≤ cap) (hcm : cap ≤ maxLen) (hcs : cur.size = cap * 4) (hH : HoldsK encF 4 w g 0 D) :
    Kd.R kF 33 w base ok (.slice (some ⟨g, 0, none⟩) D.size cap) D.toList := by
  have hl : D.toList.length = D.size := Array.length_toList
  have hzl : (cur.toList.take (D.size * 4)).length = D.size * 4 := by
    rw [List.length_take, Array.length_toList, hcs]
    have := Nat.mul_le_mul_right 4 hnc
    omega
  refine ⟨fun k hk => ?_, cur.toList.take (D.size * 4), ⟨by rw [hl]; exact hzl, Or.inr ⟨g, cap, cur, by rw [hl], hg, hb, by rw [hl]; exact hnc, hcm, hcs, by rw [hl]; rfl⟩⟩, by rw [hl]; exact hzl, fun j p hj => ?_⟩
  · have : g = k := by simpa [Value.ownBlock] using hk
    rw [← this]; exact hok
  · have hjl : j < D.size := by
      have := (List.getElem?_eq_some_iff.1 hj).1
      rwa [hl] at this
    have hDj : D[j]! = p := by
      rw [Array.getElem?_toList] at hj
      simp [Array.getElem!_eq_getD, Array.getD_eq_getD_getElem?, hj]
    obtain ⟨c0, c1, c2, c3⟩ := cellsF hH j hjl
    rw [blk_cell hb, Nat.zero_add, hDj] at c0 c1 c2 c3
    have get : ∀ (t : Nat) (u : Value), t < D.size * 4 → cur[t]? = some u → (cur.toList.take (D.size * 4))[t]? = some u := fun t u ht hu => by
      rw [List.getElem?_take_of_lt ht, Array.getElem?_toList]; exact hu
    exact take4F (get (j * 4) _ (by omega) c0) (get (j * 4 + 1) _ (by omega) c1) (get (j * 4 + 2) _ (by omega) c2) (get (j * 4 + 3) _ (by omega) c3)
theorem putF_block {w : World} {g n : Nat} {cur : Array Value} {d : Array F33} (hb : w.heap[g]? = some (.cells cur 33 (0, 0))) : ∃ cur2, (putRowK encF 4 (Sort.ahead w n) g 0 d).heap[g]? = some (.cells cur2 33 (0, 0)) ∧ cur2.size = cur.size := by
  refine ⟨putCells id 0 (flatK encF 4 d) cur, ?_, by unfold putCells; rw [Array.size_mapIdx]⟩
  show (w.heap.modify g _)[g]? = _
  rw [Array.getElem?_modify, if_pos rfl, hb]
  rfl
theorem putF_far {w : World} {g n : Nat} {d : Array F33} (k : Nat) (hk : k ≠ g) : (putRowK encF 4 (Sort.ahead w n) g 0 d).heap[k]? = w.heap[k]? := by
  show (w.heap.modify g _)[k]? = _
  rw [Array.getElem?_modify, if_neg (fun e => hk e.symm)]
theorem below_putF {B : Nat} {w : World} {g n : Nat} {d : Array F33} (hg : B ≤ g) : Below B w (putRowK encF 4 (Sort.ahead w n) g 0 d) := by
  refine ⟨rfl, rfl, rfl, ?_, fun k hk => putF_far k (by omega)⟩
  unfold putRowK; rw [size_putRow]; exact Nat.le_refl _
end Go.Proofs.YtgeimklpcfepaaaDoor
namespace Go.Proofs.YtgeimklpcfepaaaDoor
open Go.RowKit Go.Lib Go.Sort Go.Proofs.YtgeimklpcfepaaaDoorW Go.Proofs.YtgeimklpcfepaaaDoorW.PrintWords Go.Proofs.YtgeimklpcfepaaaDoorW.PrintMore
open P
set_option linter.unusedVariables false
set_option linter.unusedSimpArgs false

theorem best_step {l0 : List S33} {i k : Nat} {E : List F33} {X : F33} (hE : E.map (·.1) = isort lt33 (l0.take i)) (hI : l0.take (i + 1) = l0.take i ++ [X.1]) (hk : k ≤ E.length) (h1 : ∀ t p, k ≤ t → E[t]? = some p → ltF X p = true) (h2 : ∀ p, 0 < k → E[k - 1]? = some p → ltF X p = false) :
    (E.take k ++ X :: E.drop k).map (·.1) = isort lt33 (l0.take (i + 1)) := by
  rw [hI, isort_concat, ← hE, ← ins_at ltF X E k hk h1 h2, List.map_reverse, insRev_map ltF lt33 (·.1) (fun x y => rfl), List.map_reverse]
theorem best_row {w6 : World} {base g cap m n : Nat} {cur : Array Value} {D0 D : Array F33} {E : List F33} (hg : base ≤ g) (hb : w6.heap[g]? = some (.cells cur 33 (0, 0))) (hnc : n ≤ cap) (hcm : cap ≤ maxLen) (hcs : cur.size = cap * 4) (hH : HoldsK encF 4 w6 g 0 D0) (h0 : D0.size = n) (hD : D.size = n) (hL : D.toList = E) :
    Kd.R kF 33 (putRowK encF 4 (Sort.ahead w6 m) g 0 D) base (fun _ => True) (.slice (some ⟨g, 0, none⟩) n cap) E := by
  obtain ⟨cur2, h1, h2⟩ := putF_block (n := m) (d := D) hb
  have h3 := kF_of_holds (ok := fun _ => True) trivial hg h1 (by omega) hcm (h2.trans hcs) (holdsK_putRowK encF 4 _ g 0 D0 D (holdsK_ahead encF 4 w6 m g 0 D0 hH) (by omega))
  rwa [hD, hL] at h3
/-- The row, one step of the shift on. -/
theorem shift_step {E : List F33} {D : Array F33} {s : Nat} {p : F33} (hs : s < E.length) (h : D.toList = E.take (s + 1) ++ p :: E.drop (s + 1)) : D[s]! = E[s] ∧ (D.setIfInBounds (s + 1) E[s]).toList = E.take s ++ E[s] :: E.drop s := by
  have h1 : D.toList = E.take s ++ E[s] :: p :: E.drop (s + 1) := by
    have e : E.take (s + 1) = E.take s ++ [E[s]] := by rw [List.take_add_one, List.getElem?_eq_getElem hs]; rfl
    rw [h, e, List.append_assoc]; rfl
  have hl : (E.take s).length = s := by rw [List.length_take]; omega
  have g := get_mid D (E.take s) (p :: E.drop (s + 1)) E[s] h1
  rw [hl] at g
  refine ⟨g, ?_⟩
  have m1 := set_mid1 (E.take s) (E.drop (s + 1)) E[s] p E[s]
  rw [hl] at m1
  rw [Array.toList_setIfInBounds, h1, m1, List.drop_eq_getElem_cons hs]
theorem shift_end {E : List F33} {D : Array F33} {k : Nat} {p X : F33} (hk : k ≤ E.length) (h : D.toList = E.take k ++ p :: E.drop k) : (D.setIfInBounds k X).toList = E.take k ++ X :: E.drop k := by
  have hl : (E.take k).length = k := by rw [List.length_take]; omega
  have m1 := set_mid (E.take k) (E.drop k) p X
  rw [hl] at m1
  rw [Array.toList_setIfInBounds, h, m1]
theorem shift_size {E : List F33} {D : Array F33} {t : Nat} {p : F33} (ht : t ≤ E.length) (h : D.toList = E.take t ++ p :: E.drop t) : D.size = E.length + 1 := by
  have := congrArg List.length h
  rw [Array.length_toList, List.length_append, List.length_cons, List.length_take, List.length_drop] at this
  omega
namespace P
def spec_Best.f (l : List S33) : Option (List S33) := if l.length ≤ 1000 then some (isort lt33 l) else none
set_option maxHeartbeats 8000000 in
set_option maxRecDepth 100000 in
theorem spec_Best.calls (A0 : Option Addr) (c0 : Nat) (l0 : List S33) (r : List S33) (w : World) (hr0 : Kd.C k33 w A0 l0.length l0) (hc0 : l0.length ≤ c0) (h : spec_Best.f l0 = some r) :
    Calls Tryd.prog 16 #[.slice A0 l0.length c0] w fun e w' => ∃ v0_ : Value, e = .returned (v0_) ∧ (∃ A c, v0_ = .slice A r.length c ∧ r.length ≤ c ∧ Kd.C k33 w' A r.length r) ∧ Below w.heap.size w w' := by
  unfold spec_Best.f at h
  split at h
  case isFalse => cases h
  rename_i hsz
  have HR := Aside0.mk (Option.some.inj h)
  clear h
  have HC := Aside0.mk hr0
  clear hr0
  have HB := Aside0.mk (Below.refl w.heap.size w)
  go_enter Tryd.func16, Tryd.ntmps16
  go_wp2_with (first | ((with_reducible refine gate_dst (N := 8) rfl ?_); refine Kd.R_lit kF _ 33 ?hg (N := 8) ?hd (xs := ([] : List F33)) (inner := []) (ok := fun _ => True) (okp := fun _ => True) ?hr ?hp (fun _ hk => hk) trivial (Below.refl _ _) (Nat.le_refl _) (by simp) ?_; (case hd => rfl); (case hg => rfl); (case hr => first | (go_simp; done) | (go_simp; rfl)); (case hp => exact (Reps.none _ _)); intro v124 w2 ho3 hb hg_ hnew_; clear hg_ hnew_; have HO := Aside0.mk (Kd.R_lower ho3 (Nat.le_refl _)); clear HB; have HB := Aside0.mk hb; clear hb ho3))
  go_loopw [3, 11] (fun v3 v11 w' => ∃ (i : Nat) (E : List F33), v11 = .int .i64 (i : Int) ∧ i ≤ l0.length ∧ Aside0 (Kd.R kF 33 w' w.heap.size (fun _ => True) v3 E) ∧ Aside0 (Below w.heap.size w w') ∧ Aside0 (E.map (·.1) = isort lt33 (l0.take i)) ∧ Aside0 (∀ x ∈ E, Good w x)) (fun _ v11 _ => l0.length - (intOf v11).toNat)
  case atStart => exact ⟨0, [], rfl, Nat.zero_le _, HO, HB, ⟨rfl⟩, ⟨fun x hx => absurd hx (by simp)⟩⟩
  case round =>
    clear HO HB
    obtain ⟨i, E, rfl, hi, HO, HB, HE, HG⟩ := hrel
    have HEN : Aside0 (E.length = i) := ⟨by
      have h := congrArg List.length HE.out
      rw [List.length_map, isort_length, List.length_take] at h
      omega⟩
    by_cases hlt : i < l0.length
    · have p1 : (0 : Int) ≤ (i : Int) := by omega
      have q1 : (i : Int) < (l0.length : Int) := by omega
      obtain ⟨ad, A2, c2, e0, hx0, hx1, hx2, hx3, hx4, hx5⟩ := at_T33 HC.out (i : Int) p1 q1
      subst e0
      have hxr : rd_T33 l0 (i : Int) = l0[i] := by unfold rd_T33; rw [Int.toNat_natCast, List.getD_eq_getElem?_getD, List.getElem?_eq_getElem hlt]; rfl
      rw [hxr] at hx0 hx1 hx2 hx3 hx4 hx5
      replace hx0 := (HB.out.cell (World.block_lt_of_cell? w _ hx0)).trans hx0
      replace hx1 := (HB.out.cell (World.block_lt_of_cell? w _ hx1)).trans hx1
      replace hx2 := (HB.out.cell (World.block_lt_of_cell? w _ hx2)).trans hx2
      replace hx3 := (HB.out.cell (World.block_lt_of_cell? w _ hx3)).trans hx3
      have HX := Aside0.mk (show Good w (l0[i], A2, l0[i].f2.length, c2) from ⟨rfl, hx4, hx5⟩)
      have HI := Aside0.mk (show l0.take (i + 1) = l0.take i ++ [l0[i]] from by rw [List.take_add_one, List.getElem?_eq_getElem hlt]; rfl)
      clear hx4 hx5 hxr
      generalize l0[i] = X at hx0 hx1 hx2 hx3 HX HI
      obtain ⟨X0, X1, X2, X3⟩ := X
      simp only [Int.toNat_natCast] at hx0 hx1 hx2 hx3
      obtain ⟨Ao, co, eo⟩ := Kd.R_slice HO.out
      subst eo
      go_upto_block 2 with (first | ((with_reducible refine gate_dst (N := 5) rfl ?_); refine box_event ?hg (N := 5) ?hd (cs := #[.string ⟨#[]⟩, .int .i64 0, .slice none 0 0, .int .i64 0]) (t := 33) ?hr ?_; (case hd => rfl); (case hg => rfl); (case hr => first | (go_simp; done) | (go_simp; rfl)); intro gb hgb w13 hbox hb; have HBX := Aside0.mk hbox; have HGB := Aside0.mk hgb; have HBB := Aside0.mk hb; have hcz0 : w13.cell? ⟨gb, 0, none⟩ = some (.string ⟨#[]⟩) := (blk_cell hbox 0).trans rfl; have hcz1 : w13.cell? ⟨gb, 1, none⟩ = some (.int .i64 0) := (blk_cell hbox 1).trans rfl; have hcz2 : w13.cell? ⟨gb, 2, none⟩ = some (.slice none 0 0) := (blk_cell hbox 2).trans rfl; have hcz3 : w13.cell? ⟨gb, 3, none⟩ = some (.int .i64 0) := (blk_cell hbox 3).trans rfl; have hfz0 := blk_frozen hbox 0; have hfz1 := blk_frozen hbox 1; have hfz2 := blk_frozen hbox 2; have hfz3 := blk_frozen hbox 3; clear hbox hb hgb))
      have hge : wr.heap.size ≤ gb := by rw [HGB.out]; exact Nat.le_refl _
      have HW1 := Aside0.mk (Below.setCell (Below.setCell (Below.setCell (Below.setCell HBB.out (p := ⟨gb, 0, none⟩) hge (.string X0)) (p := ⟨gb, 1, none⟩) hge (.int .i64 X1)) (p := ⟨gb, 2, none⟩) hge (.slice A2 X2.length c2)) (p := ⟨gb, 3, none⟩) hge (.int .i64 X3))
      have HX2 : Aside0 ((((((w13.setCell ⟨gb, 0, none⟩ (.string X0)).setCell ⟨gb, 1, none⟩ (.int .i64 X1)).setCell ⟨gb, 2, none⟩ (.slice A2 X2.length c2)).setCell ⟨gb, 3, none⟩ (.int .i64 X3)).heap[gb]?) = some (.cells #[.string X0, .int .i64 X1, .slice A2 X2.length c2, .int .i64 X3] 33 (0, 0))) := ⟨blk_put (blk_put (blk_put (blk_put HBX.out 0 _ rfl) 1 _ rfl) 2 _ rfl) 3 _ rfl⟩
      clear HBX HBB hcz0 hcz1 hcz2 hcz3 hfz0 hfz1 hfz2 hfz3 hx0 hx1 hx2 hx3
      generalize (((w13.setCell ⟨gb, 0, none⟩ (.string X0)).setCell ⟨gb, 1, none⟩ (.int .i64 X1)).setCell ⟨gb, 2, none⟩ (.slice A2 X2.length c2)).setCell ⟨gb, 3, none⟩ (.int .i64 X3) = wB at HW1 HX2 ⊢
      have HOB := Aside0.mk (Kd.R_below (Kd.R_elderB HO.out gb hge) HW1.out)
      have HBB := Aside0.mk (below_step HB.out HW1.out)
      have hgw : w.heap.size ≤ gb := Nat.le_trans (below_size HB.out) hge
      have HGW := Aside0.mk hgw
      clear HO HB HW1 HGB hge hgw
      have bx3 : wB.cell? ⟨gb, 3, none⟩ = some (.int .i64 X3) := (blk_cell HX2.out 3).trans rfl
      have HEN2 := HEN.out
      go_cut [6] from 12 to 56 (fun v6 wc => ∃ (k q : Nat), v6 = .int .i64 (k : Int) ∧ k ≤ E.length ∧ wc = wB.drewN q ∧ Aside0 (∀ t p, k ≤ t → E[t]? = some p → ltF ((⟨X0, X1, X2, X3⟩ : S33), A2, X2.length, c2) p = true) ∧ Aside0 (∀ p, 0 < k → E[k - 1]? = some p → ltF ((⟨X0, X1, X2, X3⟩ : S33), A2, X2.length, c2) p = false))
      case first =>
        clear HEN2
        go_wp2
        go_loopw [6] (fun v6 wr2 => ∃ (k q : Nat), v6 = .int .i64 (k : Int) ∧ k ≤ E.length ∧ wr2 = wB.drewN q ∧ Aside0 (∀ t p, k ≤ t → E[t]? = some p → ltF ((⟨X0, X1, X2, X3⟩ : S33), A2, X2.length, c2) p = true)) (fun v6 _ => (intOf v6).toNat)
        case atStart => exact ⟨E.length, 0, rfl, Nat.le_refl _, rfl, ⟨fun t p ht hp => by rw [List.getElem?_eq_none ht] at hp; cases hp⟩⟩
        case round =>
          obtain ⟨k, q, rfl, hkE, rfl, HALL⟩ := hrel
          by_cases hk0 : 0 < k
          · obtain ⟨m, rfl⟩ : ∃ m, k = m + 1 := ⟨k - 1, by omega⟩
            obtain ⟨g, cap, cur, eg, hgB, hgb, hnc, hcm, hcs, hH⟩ := own_kF HOB.out (by omega)
            injection eg with eg1 eg2 eg3
            subst eg1 eg3
            have hkl : m < E.length := by omega
            obtain ⟨d0, d1, d2, d3⟩ := cellsF hH m (by simp; omega)
            have hP : E.toArray[m]! = E[m] := by simp [Array.getElem!_eq_getD, Array.getD_eq_getD_getElem?, hkl]
            rw [hP, Nat.zero_add] at d3
            have HP := Aside0.mk (List.getElem?_eq_getElem hkl)
            generalize E[m] = p at d3 HP
            clear d0 d1 d2 hP hH
            have e1 : IntKind.i64.wrap (m : Int) = (m : Int) := (PrintLast.i64_w _).trans (by have := HEN.out; unfold wrap64; omega)
            have b1 : (0 : Int) ≤ (m : Int) := by omega
            have b2 : (m : Int) < (E.length : Int) := by omega
            have b3 : (0 : Int) < ((m + 1 : Nat) : Int) := by omega
            go_wp2
            go_quiet (fail)
            by_cases hlv : p.1.f3 < X3
            · go_wp2
              go_roundw
              case rel =>
                refine ⟨m, q + nq, by go_num, by omega, rfl, ⟨fun t p2 ht hp2 => ?_⟩⟩
                by_cases htm : t = m
                · subst htm
                  rw [HP.out] at hp2
                  obtain rfl := Option.some.inj hp2
                  exact decide_eq_true hlv
                · exact HALL.out t p2 (by omega) hp2
              case measure => simp [intOf]
            · go_wp2
              go_meet
              case rel => exact ⟨m + 1, q + nq, by go_num, hkE, rfl, HALL, ⟨fun p2 _ hp2 => by
                rw [show m + 1 - 1 = m by omega, HP.out] at hp2
                obtain rfl := Option.some.inj hp2
                exact decide_eq_false (fun h => absurd h (by first | exact hlv | exact Int.not_lt.2 hlv))⟩⟩
          · obtain rfl : k = 0 := by omega
            have cb : decide ((0 : Int) < ((0 : Nat) : Int)) = false := by decide
            go_wp2
            go_quiet (fail)
            go_wp2
            go_meet
            case rel => exact ⟨0, q + nq, by go_num, hkE, (by first | rfl | simp [World.drewN, Nat.add_assoc]), HALL, ⟨fun p2 h => by omega⟩⟩
      case rest =>
        obtain ⟨k, q, rfl, hkE, rfl, HALL, HNOT⟩ := hcut
        have HOC : Aside0 (Kd.R kF 33 (wB.drewN q) w.heap.size (fun k => True ∧ k ≠ gb) (.slice Ao E.length co) E) := ⟨by apply Kd.R_drewN; exact HOB.out⟩
        have HXC : Aside0 ((wB.drewN q).heap[gb]? = some (.cells #[.string X0, .int .i64 X1, .slice A2 X2.length c2, .int .i64 X3] 33 (0, 0))) := ⟨HX2.out⟩
        have HBC : Aside0 (Below w.heap.size w (wB.drewN q)) := ⟨by apply pw_below_drewN; exact HBB.out⟩
        generalize wB.drewN q = wC at HOC HXC HBC ⊢
        clear HOB HX2 HBB bx3 HEN2
        have hEb : E.length ≤ 1000 := by have := HEN.out; omega
        go_upto_block 4 with (first | ((with_reducible refine gate_builtin (b := .append) (xs := #[.tmp 32, .tmp 34]) rfl ?_); at_builtin; refine Kd.R_append kF (w0 := w) w.heap.size rfl (.tmp 32) (.tmp 34) 26 33 (.agg #[(.string ⟨#[]⟩), (.int .i64 0), (.slice none 0 0), (.int .i64 0)]) 56 rfl Tryd.underlying26 info33 rfl (by decide) (by omega) (.slice Ao E.length co) E zF [.string ⟨#[]⟩, .int .i64 0, .slice none 0 0, .int .i64 0] (fun k => True ∧ k ≠ gb) (fun _ => False) rfl rfl ?aP (fun _ hk => hk.elim) ?aF ?aO ?aB ?aS ?aL ?_; (case aP => rfl); (case aF => exact fun k hk => ⟨trivial, fun e => by have := blk_lt HXC.out; rw [e] at hk; exact absurd this (Nat.not_lt.2 hk)⟩); (case aO => exact HOC.out); (case aB => exact HBC.out); (case aS => exact below_size HBC.out); (case aL => omega); intro v6 w6 ho hb hg hat; have HX3 := Aside0.mk (blk_grown HXC.out hg (fun e => ((HOC.out).1 gb e.symm).2 rfl)); have HB3 := Aside0.mk hb; obtain ⟨g, cap, cur, e6, hgB, hgb, hnc, hcm, hcs, hH⟩ := own_kF ho (by simp); have hne := (ho.1 g (by rw [e6]; rfl)).2; rw [show (E ++ [zF]).length = E.length + 1 from by simp] at e6 hnc; subst e6; have HGB := Aside0.mk hgB; have HGH := Aside0.mk hgb; have HNC := Aside0.mk hnc; have HCM := Aside0.mk hcm; have HCS := Aside0.mk hcs; have HH := Aside0.mk hH; have HNE := Aside0.mk hne; clear ho hb hg hat hgB hgb hnc hcm hcs hH hne))
        go_wp2
        go_loopw [7] (fun v7 wr3 => ∃ (t m : Nat) (D : Array F33) (p : F33), v7 = .int .i64 (t : Int) ∧ k ≤ t ∧ t ≤ E.length ∧ wr3 = putRowK encF 4 (Sort.ahead w6 m) g 0 D ∧ Aside0 (D.toList = E.take t ++ p :: E.drop t)) (fun v7 _ => (intOf v7).toNat)
        case atStart => exact ⟨E.length, 0, (E ++ [zF]).toArray, zF, rfl, hkE, Nat.le_refl _, (putRowK_self _ _ _ _ _ _ HH.out).symm, ⟨by simp⟩⟩
        case round =>
          obtain ⟨t, m, D, p, rfl, hkt, htE, hw, HD⟩ := hrel
          have HW := Aside0.mk hw
          have hdz := shift_size htE HD.out
          have hH6 : HoldsK encF 4 wr g 0 D := by rw [hw]; exact holdsK_putRowK encF 4 _ g 0 (E ++ [zF]).toArray D (holdsK_ahead encF 4 w6 m g 0 _ HH.out) (by simp [hdz])
          have hbx : wr.heap[gb]? = some (.cells #[.string X0, .int .i64 X1, .slice A2 X2.length c2, .int .i64 X3] 33 (0, 0)) := by rw [hw, putF_far gb (fun e => HNE.out e.symm)]; exact HX3.out
          clear hw
          by_cases hlt2 : k < t
          · obtain ⟨s, rfl⟩ : ∃ s, t = s + 1 := ⟨t - 1, by omega⟩
            have hsl : s < E.length := by omega
            obtain ⟨hx, hD2⟩ := shift_step hsl HD.out
            obtain ⟨x0, x1, x2, x3⟩ := cellsF hH6 s (by omega)
            obtain ⟨y0, y1, y2, y3⟩ := cellsF hH6 (s + 1) (by omega)
            have z0 := (hH6.cell (i := s + 1) (c := 0) (by omega) (by omega)).2
            have z1 := (hH6.cell (i := s + 1) (c := 1) (by omega) (by omega)).2
            have z2 := (hH6.cell (i := s + 1) (c := 2) (by omega) (by omega)).2
            have z3 := (hH6.cell (i := s + 1) (c := 3) (by omega) (by omega)).2
            have hset := set_worldK encF 4 encF_length w6 m 0 g 0 D (s + 1) E[s] (by omega)
            rw [hx] at x0 x1 x2 x3
            rw [Nat.zero_add] at x0 x1 x2 x3 y0 y1 y2 y3 z0 z1 z2 z3 hset
            rw [Nat.add_zero] at z0
            have HS : Aside0 (wr.setCells g ((s + 1) * 4) (encF E[s]) = putRowK encF 4 (Sort.ahead w6 (m + 0)) g 0 (D.setIfInBounds (s + 1) E[s])) := ⟨by rw [HW.out]; exact hset⟩
            have HD2 := Aside0.mk hD2
            clear hset hD2 hx hbx hH6
            generalize E[s] = P at x0 x1 x2 x3 HS HD2
            obtain ⟨⟨P0, P1, P2, P3⟩, PA, Pn, Pc⟩ := P
            simp only at x0 x1 x2 x3
            generalize D[s + 1]! = Y at y0 y1 y2 y3
            have e1 : IntKind.i64.wrap (s : Int) = (s : Int) := (PrintLast.i64_w _).trans (by unfold wrap64; omega)
            have b1 : (0 : Int) ≤ (s : Int) := by omega
            have b2 : (s : Int) < (E.length : Int) := by omega
            go_wp2
            go_roundw
            case rel => exact ⟨s, m + 0, _, _, rfl, by omega, by omega, HS.out, HD2⟩
            case measure => simp [intOf]
          · obtain rfl : t = k := by omega
            obtain ⟨y0, y1, y2, y3⟩ := cellsF hH6 t (by omega)
            have z0 := (hH6.cell (i := t) (c := 0) (by omega) (by omega)).2
            have z1 := (hH6.cell (i := t) (c := 1) (by omega) (by omega)).2
            have z2 := (hH6.cell (i := t) (c := 2) (by omega) (by omega)).2
            have z3 := (hH6.cell (i := t) (c := 3) (by omega) (by omega)).2
            have bx0 : wr.cell? ⟨gb, 0, none⟩ = some (.string X0) := (blk_cell hbx 0).trans rfl
            have bx1 : wr.cell? ⟨gb, 1, none⟩ = some (.int .i64 X1) := (blk_cell hbx 1).trans rfl
            have bx2 : wr.cell? ⟨gb, 2, none⟩ = some (.slice A2 X2.length c2) := (blk_cell hbx 2).trans rfl
            have bx3 : wr.cell? ⟨gb, 3, none⟩ = some (.int .i64 X3) := (blk_cell hbx 3).trans rfl
            have hset := set_worldK encF 4 encF_length w6 m 0 g 0 D t ((⟨X0, X1, X2, X3⟩ : S33), A2, X2.length, c2) (by omega)
            rw [Nat.zero_add] at y0 y1 y2 y3 z0 z1 z2 z3 hset
            rw [Nat.add_zero] at z0
            have HS : Aside0 (wr.setCells g (t * 4) (encF ((⟨X0, X1, X2, X3⟩ : S33), A2, X2.length, c2)) = putRowK encF 4 (Sort.ahead w6 (m + 0)) g 0 (D.setIfInBounds t ((⟨X0, X1, X2, X3⟩ : S33), A2, X2.length, c2))) := ⟨by rw [HW.out]; exact hset⟩
            have HD2 := Aside0.mk (shift_end (X := ((⟨X0, X1, X2, X3⟩ : S33), A2, X2.length, c2)) htE HD.out)
            have HDZ := Aside0.mk hdz
            clear hset hbx hH6 hdz
            generalize D[t]! = Y at y0 y1 y2 y3
            have b1 : (0 : Int) ≤ (t : Int) := by omega
            have b2 : (t : Int) < (E.length : Int) + 1 := by omega
            have b3 : ¬ ((t : Int) < (t : Int)) := by omega
            go_wp2
            go_roundw
            case rel =>
              have hWn : ((((wr.setCell ⟨g, t * 4, none⟩ (.string X0)).setCell ⟨g, t * 4 + 1, none⟩ (.int .i64 X1)).setCell ⟨g, t * 4 + 2, none⟩ (.slice A2 X2.length c2)).setCell ⟨g, t * 4 + 3, none⟩ (.int .i64 X3)) = _ := HS.out
              rw [hWn]
              exact ⟨i + 1, E.take t ++ ((⟨X0, X1, X2, X3⟩ : S33), A2, X2.length, c2) :: E.drop t, by go_num, by omega,
                ⟨best_row HGB.out HGH.out HNC.out HCM.out HCS.out HH.out (by simp) (by rw [Array.size_setIfInBounds]; exact HDZ.out) HD2.out⟩,
                ⟨Below.trans HB3.out (below_putF HGB.out)⟩, ⟨best_step HE.out HI.out hkE HALL.out HNOT.out⟩,
                ⟨fun x hx => by
                  rcases List.mem_append.1 hx with h | h
                  · exact HG.out x (List.mem_of_mem_take h)
                  · rcases List.mem_cons.1 h with rfl | h
                    · exact HX.out
                    · exact HG.out x (List.mem_of_mem_drop h)⟩⟩
            case measure => simp [intOf]; omega
    · obtain rfl : i = l0.length := by omega
      have b3 : ¬ ((l0.length : Int) < (l0.length : Int)) := by omega
      obtain ⟨A, c, eA, hc, hC⟩ := C_of_kF (w := w) HO.out HG.out HB.out
      have hEr : E.map (·.1) = r := by rw [HE.out, List.take_length]; exact HR.out
      rw [hEr] at eA hc hC
      subst eA
      have HCr := Aside0.mk hC
      have Hc := Aside0.mk hc
      clear hC hc hEr
      go_wp2
      go_ret
      exact ⟨_, rfl, ⟨A, c, rfl, Hc.out, HCr.out⟩, HB.out⟩
end P
end Go.Proofs.YtgeimklpcfepaaaDoor
