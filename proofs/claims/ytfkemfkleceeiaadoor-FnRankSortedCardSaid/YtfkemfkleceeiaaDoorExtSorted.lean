/- impl.RankSorted: its contract. -/
import Derived.Test.YtfkemfkleceeiaaDoorPureRankFind
import Derived.Test.YtfkemfkleceeiaaDoorP15
import Derived.Test.YtfkemfkleceeiaaDoorExtSort
import Derived.Test.YtfkemfkleceeiaaDoorSortPlain
namespace Go.Proofs.YtfkemfkleceeiaaDoor
open Go.RowKit Go.Sort Go.Proofs.YtfkemfkleceeiaaDoorW.PrintWords Go.Proofs.YtfkemfkleceeiaaDoorW.PrintMore
open P
set_option linter.unusedSimpArgs false
set_option linter.unusedVariables false

instance : Inhabited S63 := ⟨z63⟩
instance : Inhabited S50 := ⟨z50⟩
def enc63 (x : S63) : List Value := [.string x.f0, .string x.f1, .int .i64 x.f2, .int .i64 x.f3]
def lt63 (x y : S63) : Bool := decide (x.f2 < y.f2)
theorem enc63_length (x : S63) : (enc63 x).length = 4 := rfl

theorem add0 (g n : Nat) : (⟨g, 0, none⟩ : Addr).add n = ⟨g, n, none⟩ := by
  unfold Addr.add
  split <;> simp_all
theorem holds_63 {w : World} {g : Nat} {cs : Array Value} {L : List S63} (hb : w.heap[g]? = some (.cells cs 63 (0, 0))) (hC : Kd.C k63 w (some ⟨g, 0, none⟩) L.length L) : HoldsK enc63 4 w g 0 L.toArray := by
  intro t ht
  rw [size_flatK] at ht
  have ht2 : t < L.length * 4 := by simpa using ht
  obtain ⟨ad, e, c0, c1, c2, c3⟩ := at_T63 hC ((t / 4 : Nat) : Int) (by omega) (by omega)
  cases e
  rw [get_flatK _ _ _ _ ht]
  have hr : rd_T63 L ((t / 4 : Nat) : Int) = L.toArray[t / 4]! := by
    unfold rd_T63
    have hl : t / 4 < L.length := by omega
    rw [Int.toNat_natCast]
    simp [Array.getElem!_eq_getD, Array.getD_eq_getD_getElem?, hl]
  rw [hr, Int.toNat_natCast, add0] at c0 c1 c2 c3
  have he : t = t / 4 * 4 + t % 4 := by omega
  refine ⟨?_, blk_frozen hb _⟩
  have hm : t % 4 < 4 := Nat.mod_lt _ (by omega)
  generalize hq : t / 4 = q at c0 c1 c2 c3 he ⊢
  generalize hp : t % 4 = p at he hm ⊢
  subst he
  match p, hm with
  | 0, _ => simpa [enc63] using c0
  | 1, _ => simpa [enc63] using c1
  | 2, _ => simpa [enc63] using c2
  | 3, _ => simpa [enc63] using c3
theorem cells_63 {w : World} {blk off : Nat} {d : Array S63} (h : HoldsK enc63 4 w blk off d) (i : Nat) (hi : i < d.size) :
    w.cell? ⟨blk, off + i * 4, none⟩ = some (.string d[i]!.f0) ∧ w.cell? ⟨blk, off + i * 4 + 1, none⟩ = some (.string d[i]!.f1) ∧ w.cell? ⟨blk, off + i * 4 + 2, none⟩ = some (.int .i64 d[i]!.f2) ∧ w.cell? ⟨blk, off + i * 4 + 3, none⟩ = some (.int .i64 d[i]!.f3) :=
  ⟨(h.cell hi (c := 0) (by omega)).1, (h.cell hi (c := 1) (by omega)).1, (h.cell hi (c := 2) (by omega)).1, (h.cell hi (c := 3) (by omega)).1⟩
theorem C_63 {w : World} {g : Nat} {d : Array S63} (h : HoldsK enc63 4 w g 0 d) (hm : d.size ≤ 9223372036854775807) : Kd.C k63 w (some ⟨g, 0, none⟩) d.toList.length d.toList := by
  refine ⟨rfl, by simpa using hm, fun _ => ⟨_, rfl, fun j p hj => ⟨enc63 p, rfl, k63_mk w p, fun i u hu => ?_⟩⟩⟩
  show w.cell? (Addr.add ⟨g, 0, none⟩ (j * 4 + i)) = some u
  rw [add0]
  have hj2 : j < d.size := by
    have := (List.getElem?_eq_some_iff.1 hj).1
    simpa using this
  have hp : d[j]! = p := by
    rw [Array.getElem?_toList] at hj
    simp [Array.getElem!_eq_getD, Array.getD_eq_getD_getElem?, hj]
  obtain ⟨c0, c1, c2, c3⟩ := cells_63 h j hj2
  rw [hp] at c0 c1 c2 c3
  match i, hu with
  | 0, hu => simp [enc63] at hu; subst hu; simpa using c0
  | 1, hu => simp [enc63] at hu; subst hu; simpa using c1
  | 2, hu => simp [enc63] at hu; subst hu; simpa using c2
  | 3, hu => simp [enc63] at hu; subst hu; simpa using c3
  | i + 4, hu => simp [enc63] at hu

theorem less_63 {w : World} {g c : Nat} {d : Array S63} (h : HoldsK enc63 4 w g 0 d) (hz : d.size ≤ 20) : LessK 84 (.slice (some ⟨g, 0, none⟩) d.size c) enc63 lt63 g 0 d.size w := fun m dk hs i j hi hj => by
  have h1 := holdsK_putRowK enc63 4 _ g 0 d dk (holdsK_ahead enc63 4 w m g 0 d h) hs
  exact r_Less g 0 c d.size _ (fun t => dk[t]!.f2) (fun t ht => (cells_63 h1 t (by omega)).2.2.1) i j hi hj (by omega)
theorem swap_63 {w : World} {g c : Nat} {cs : Array Value} {d : Array S63} (hb : w.heap[g]? = some (.cells cs 63 (0, 0))) (h : HoldsK enc63 4 w g 0 d) (hz : d.size ≤ 20) : SwapK 85 (.slice (some ⟨g, 0, none⟩) d.size c) enc63 g 0 d.size w := fun m dk hs i j hi hj => by
  have h1 := holdsK_putRowK enc63 4 _ g 0 d dk (holdsK_ahead enc63 4 w m g 0 d h) hs
  obtain ⟨x0, x1, x2, x3⟩ := cells_63 h1 i (by omega)
  obtain ⟨y0, y1, y2, y3⟩ := cells_63 h1 j (by omega)
  exact r_Swap g 0 c d.size _ _ _ _ _ _ _ _ _ i j hi hj (by omega) x0 x1 x2 x3 y0 y1 y2 y3 (fun t => by
    unfold putRowK; rw [frozen?_putRow, frozen?_ahead]; exact blk_frozen hb _)
theorem below_putRow {B : Nat} {w : World} {g n : Nat} {d : Array S63} (hg : B ≤ g) : Below B w (putRowK enc63 4 (Sort.ahead w n) g 0 d) := by
  refine ⟨rfl, rfl, rfl, ?_, fun k hk => ?_⟩
  · unfold putRowK; rw [size_putRow]; exact Nat.le_refl _
  · show (w.heap.modify g _)[k]? = _
    rw [Array.getElem?_modify, if_neg (by omega)]

theorem sorted_calls {w : World} {base : Nat} {v : Value} {L : List S63} (h : Kd.R k63 63 w base (fun _ => True) v L) (h20 : L.length ≤ 20) :
    Calls Tryd.prog 41 #[.iface 53 v] w fun e w' => e = .returned (.tuple #[]) ∧ ∃ A c, v = .slice A L.length c ∧ L.length ≤ c ∧ Kd.C k63 w' A (isort lt63 L).length (isort lt63 L) ∧ Below base w w' := by
  obtain ⟨A, c, rfl, hc, hC⟩ := Kd.R_reads h
  obtain ⟨inner, ho⟩ := Kd.R_own h
  by_cases h0 : L = []
  · subst h0
    have hH : HoldsK enc63 4 w base 0 (#[] : Array S63) := fun t ht => by simp at ht
    refine (sort_stable (.slice A 0 c) 83 84 85 53 (len_reached _ _ _) (less_reached _ _ _) (swap_reached _ _ _) enc63 enc63_length lt63 base 0 #[] w (r_Len _ _ _ _) (fun q m dk hs i j hi hj => absurd hi (by simp)) (fun q m dk hs i j hi hj => absurd hi (by simp)) hH (by simp)).mono ?_
    rintro e w' ⟨rfl, n, rfl⟩
    refine ⟨rfl, A, c, rfl, hc, ⟨rfl, by simp [isort], fun hn => absurd hn (by simp [isort])⟩, ?_⟩
    exact below_putRow (Nat.le_refl _)
  · rcases ho.2 with ⟨e, hn⟩ | ⟨g, cap, cur, e, hg, hb, _⟩
    · exact absurd (List.length_eq_zero_iff.1 hn) h0
    · injection e with e1 e2 e3
      subst e1 e3
      have hH := holds_63 hb hC
      have hz : L.toArray.size ≤ 20 := by simpa using h20
      have hs : (insertionSort lt63 L.toArray 0 L.length).toList = isort lt63 L := sort_list lt63 L
      have hs2 : (insertionSort lt63 L.toArray 0 L.length).size = L.toArray.size := by
        rw [← Array.length_toList, hs, isort_length]; simp
      refine (sort_stable (.slice (some ⟨g, 0, none⟩) L.length c) 83 84 85 53 (len_reached _ _ _) (less_reached _ _ _) (swap_reached _ _ _) enc63 enc63_length lt63 g 0 L.toArray w (r_Len _ _ _ _)
        (fun q => less_63 (w := w.drewN q) hH hz) (fun q => swap_63 (w := w.drewN q) hb hH hz) hH hz).mono ?_
      rintro e w' ⟨rfl, n, rfl⟩
      refine ⟨rfl, _, c, rfl, hc, ?_, below_putRow hg⟩
      have hH2 := holdsK_putRowK enc63 4 _ g 0 L.toArray (insertionSort lt63 L.toArray 0 L.toArray.size) (holdsK_ahead enc63 4 w n g 0 L.toArray hH) hs2
      have hC2 := C_63 hH2 (by
        have : (insertionSort lt63 L.toArray 0 L.toArray.size).size = L.toArray.size := hs2
        omega)
      have he : (insertionSort lt63 L.toArray 0 L.toArray.size).toList = isort lt63 L := hs
      rw [he] at hC2
      exact hC2

namespace P
/-- Of plain texts: what is found, in the stable order of the distances. -/
def impl_RankSorted.f (a0 a1 : Bool) (a2 : ByteArray) (l3 : List ByteArray) : Option (List S50) :=
  if a1 = false ∧ allPlainB a2 l3 = true then some ((isort lt63 (E63 a0 a2 l3 0)).map to50) else none

set_option maxHeartbeats 4000000 in
set_option maxRecDepth 100000 in
theorem impl_RankSorted.calls (a0 : Bool) (a1 : Bool) (a2 : ByteArray) (A3 : Option Addr) (c3 : Nat) (l3 : List ByteArray) (r : List (S50)) (w : World) (hr3 : Kd.C Kd.string w A3 l3.length l3) (hc3 : l3.length ≤ c3) (hA_ : Amb w) (h : impl_RankSorted.f a0 a1 a2 l3 = some r) :
    Calls Tryd.prog 26 #[.bool a0, .bool a1, .string a2, .slice A3 l3.length c3] w fun e w' => ∃ v0_ : Value, e = .returned (v0_) ∧ Kd.R k50 50 w' w.heap.size (fun _ => True) v0_ r ∧ Below w.heap.size w w' := by
  unfold impl_RankSorted.f at h
  split at h
  case isFalse => exact absurd h (by simp)
  rename_i hp
  obtain ⟨rfl, hp⟩ := hp
  obtain rfl := Option.some.inj h
  obtain ⟨k1, hk1⟩ := Ev.rounds (areTexts_ev a2 l3 hp)
  obtain ⟨k2, hk2⟩ := Ev.rounds (ranks_ev a0 a2 l3 hp)
  have hz := E63_length a0 a2 l3 0
  have hz2 := (list_plain hp).2.1
  obtain ⟨k3, hk3⟩ := Ev.rounds (ranked_ev (isort lt63 (E63 a0 a2 l3 0)) (by rw [isort_length]; omega))
  have h1 := Aside0.mk (impl_areTexts.calls k1 false a2 A3 c3 l3 true w hr3 hc3 hk1)
  have h2 := Aside0.mk (fun (w1 : World) (hb : Below w.heap.size w w1) => impl_ranks.calls k2 a0 a2 A3 c3 l3 _ w1 (Kd.C_below hr3 hb) hc3 (Amb.below hA_ hb) hk2)
  have h3 := Aside0.mk (fun (w2 : World) (base : Nat) (v : Value) (hR : Kd.R k63 63 w2 base (fun _ => True) v (E63 a0 a2 l3 0)) => sorted_calls hR (by omega))
  have h4 := Aside0.mk (fun (w3 : World) (A : Option Addr) (c : Nat) (hC : Kd.C k63 w3 A (isort lt63 (E63 a0 a2 l3 0)).length (isort lt63 (E63 a0 a2 l3 0))) (hc : (isort lt63 (E63 a0 a2 l3 0)).length ≤ c) => impl_ranked.calls k3 A c _ _ w3 hC hc hk3)
  have hlen := isort_length lt63 (E63 a0 a2 l3 0)
  generalize (isort lt63 (E63 a0 a2 l3 0)).map to50 = r at h4 ⊢
  generalize hL' : isort lt63 (E63 a0 a2 l3 0) = L' at h3 h4 hlen
  generalize hL : E63 a0 a2 l3 0 = L at h2 h3 hlen
  have HL := Aside0.mk hlen
  clear hr3 hc3 hA_ hk1 hk2 hk3 hz hz2 hp hL hL' hlen h
  go_enter Tryd.func26, Tryd.ntmps26
  go_wp2_with (go_at_call 31; refine h1.out.mono ?_; rintro e w1 ⟨rfl, hb1⟩; have HB1 := Aside0.mk hb1; clear hb1)
  go_wp2_with (go_at_call 40; refine (h2.out _ HB1.out).mono ?_; rintro e w2 ⟨v, rfl, hR, hb2⟩; have HR := Aside0.mk hR; have HB2 := Aside0.mk (below_step HB1.out hb2); have HS := Aside0.mk (below_size HB1.out); clear hR hb2)
  go_wp2_with (go_at_call 41; refine (h3.out _ _ _ HR.out).mono ?_; rintro e w3 ⟨rfl, A, c, rfl, hc, hC, hb3⟩; have HC := Aside0.mk hC; have HCC := Aside0.mk hc; have HB3 := Aside0.mk hb3; clear hC hc hb3)
  go_wp2_with (go_at_call 39; (rw [← HL.out]); refine (h4.out _ _ _ HC.out (by rw [HL.out]; exact HCC.out)).mono ?_; rintro e w4 ⟨v0, rfl, hR0, hb4⟩; have HR0 := Aside0.mk hR0; have HB4 := Aside0.mk hb4; clear hR0 hb4)
  go_ret
  have b3 := Below.trans HB2.out (Below.mono HB3.out HS.out)
  exact ⟨_, rfl, Kd.R_lower HR0.out (below_size b3), below_step b3 HB4.out⟩
end P
end Go.Proofs.YtfkemfkleceeiaaDoor
