/- sahilm.FindFromNoSort, walked. -/
import Derived.Test.YtgeimklpcfepaaaDoorFindInner
import Derived.Deep.DeepCutAuto
import Derived.Deep.CutBlock
namespace Go.Proofs.YtgeimklpcfepaaaDoor
open Go.RowKit Go.Lib Go.Proofs.YtgeimklpcfepaaaDoorW.PrintWords Go.Proofs.YtgeimklpcfepaaaDoorW.PrintLast Go.Proofs.YtgeimklpcfepaaaDoorW.PrintMore
open P
set_option linter.unusedVariables false
set_option linter.unusedSimpArgs false

theorem info21 : (Tryd.prog.info? 21).map (fun i => (i.zero, i.size, i.bytes)) = some (some (.int .i32 0), 1, 4) := by kernel_rfl

theorem null_l0 (s : ByteArray) (hz : s.size ≤ 1000) (h : noNul s = true) : ∀ (d i : Nat), i + d = s.size → Ev (fun k => sahilm_zzNull.l0 k s (i : Int)) (-1)
 | 0, i, hi => by
  refine Ev.step (f := fun _ => some (-1)) (fun k => ?_) (Ev.now _)
  simp only [sahilm_zzNull.l0]
  rw [if_neg (by omega)]
 | d + 1, i, hi => by
  have hn := noNul_bt s h i (by omega)
  refine Ev.step (fun k => ?_) (null_l0 s hz h d (i + 1) (by omega))
  simp only [sahilm_zzNull.l0]
  rw [if_pos (by omega), if_pos (by omega), if_neg hn, show wrap64 ((i : Int) + 1) = ((i + 1 : Nat) : Int) by unfold wrap64; omega]
theorem null_ev (s : ByteArray) (hz : s.size ≤ 1000) (h : noNul s = true) : Ev (fun k => sahilm_zzNull.f k s) (-1) := null_l0 s hz h s.size 0 (by omega)

set_option maxHeartbeats 8000000 in
set_option maxRecDepth 1000000 in
theorem from_calls0 (a0 : ByteArray) (W : List Int) (hW : strRunes a0 = W) (A : Option Addr) (c : Nat) (l : List ByteArray) (R : List S49) (hRR : findS W l 0 = R) (w : World) (hC : Kd.C Kd.string w A l.length l) (hA : Amb w) (h0 : 0 < a0.size) (h1 : a0.size ≤ 1000) (hl : l.length ≤ 1000) (hs : ∀ s ∈ l, s.size ≤ 1000 ∧ noNul s = true) :
 Calls Tryd.prog 27 #[.string a0, .iface 51 (.slice A l.length c)] w fun e w' => ∃ v0_ : Value, e = .returned (v0_) ∧ Kd.R k49 49 w' w.heap.size (fun _ => True) v0_ R ∧ Below w.heap.size w w' := by
 have mN : ∀ w, Sem.run Tryd.prog (method 222 51 (.slice A l.length c) "Len") w = .ok (72, .slice A l.length c) w := (len_reached A l.length c).finds
 have eN := (len_reached A l.length c).enters
 have mS : ∀ w, Sem.run Tryd.prog (method 222 51 (.slice A l.length c) "String") w = .ok (73, .slice A l.length c) w := (string_reached A l.length c).finds
 have eS := (string_reached A l.length c).enters
 have HC := Aside0.mk hC
 have HAMB := Aside0.mk hA
 have HS := Aside0.mk hs
 have HB := Aside0.mk (Below.refl w.heap.size w)
 have H46 : Aside0 (a0.size ≤ 70368744177664) := ⟨by omega⟩
 have hne : ((a0.size : Int) == 0) = false := beq_eq_false_iff_ne.2 (by omega)
 have HP2 : Aside0 (0 < W.length) := ⟨by
  rw [← hW, strRunes_at, runesAt_step a0 0 h0]; simp⟩
 have HPL : Aside0 (W.length ≤ 1000) := ⟨by rw [← hW]; exact Nat.le_trans (strRunes_length a0) h1⟩
 have HPR : Aside0 (∀ x ∈ W, okR x) := ⟨by rw [← hW]; exact strRunes_range a0⟩
 have HRR := Aside0.mk hRR
 have HW := Aside0.mk hW
 clear hC hA hs hRR hW
 go_enter Tryd.func27, Tryd.ntmps27
 go_wp2_with (first | ((with_reducible refine gate_dst (N := 35) rfl ?_); refine Kd.R_runes _ 21 rfl (N := 35) rfl 9 57 rfl rfl Tryd.underlying9 Tryd.underlying57 Tryd.underlying21 (ok := fun _ => True) H46.out trivial (Below.refl _ _) (Nat.le_refl _) ?_; intro vR w5 ho6 hb hg_ hnew_; clear hg_ hnew_; rw [HW.out] at ho6; have HP := Aside0.mk (Kd.R_lower ho6 (below_size HB.out)); have HB5 := Aside0.mk (below_step HB.out hb); obtain ⟨AR, cR, eR⟩ := Kd.R_slice HP.out; subst eR; clear hb ho6))
 clear HB H46 hne HW
 go_loopw [6, 7, 8, 9] (fun v6 v7 v8 v9 wx => ∃ (i : Nat) (L : List S49), v8 = .int .i64 i ∧ v9 = .int .i64 i ∧ i ≤ l.length ∧ L.length ≤ i ∧ Aside0 (L ++ findS W (l.drop i) i = R) ∧ Aside0 (Kd.R k49 49 wx w.heap.size (fun k => some k ≠ v7.ownBlock) v6 L) ∧ Aside0 ((Kd.int .i64).R 3 wx w.heap.size (fun _ => True) v7 []) ∧ Aside0 ((Kd.int .i32).R 21 wx w.heap.size (fun _ => True) (.slice AR W.length cR) W) ∧ Aside0 (Below w.heap.size w wx)) (fun _ _ _ v9 _ => l.length - (intOf v9).toNat)
 case atStart => exact ⟨0, [], rfl, rfl, by omega, by simp, ⟨by simpa using HRR.out⟩, ⟨Kd.R_nil _ _ _ _ _⟩, ⟨Kd.R_nil _ _ _ _ _⟩, HP, HB5⟩
 case round =>
  clear HRR HP HB5
  obtain ⟨i, L, rfl, rfl, hil, hLi, HE, HO6, H7, HP, HB⟩ := hrel
  have HAM := Aside0.mk (Amb.below HAMB.out HB.out)
  have hLen := s_Len A l.length c wr
  have HLEN := Aside0.mk hLen
  clear hLen
  by_cases hi : i < l.length
  · have hiz : (i : Int) < (l.length : Int) := by omega
    have HSTR := Aside0.mk (fun (W1 : World) (hb : Below wr.heap.size wr W1) => s_String A c l i W1 (Kd.C_below HC.out (below_step HB.out hb)) hi)
    have HSZ : Aside0 (l[i].size ≤ 1000 ∧ noNul l[i] = true) := ⟨HS.out _ (List.getElem_mem hi)⟩
    have HE1 := HE.out
    rw [List.drop_eq_getElem_cons hi, findS] at HE1
    generalize l[i] = s at HSTR HSZ HE1
    have HE2 := Aside0.mk HE1
    clear HE1 HE
    obtain ⟨kn, hkn⟩ := Ev.rounds (null_ev s HSZ.out.1 HSZ.out.2)
    have HNUL := Aside0.mk (fun (W1 : World) => sahilm_zzNull.calls kn s (-1) W1 hkn)
    clear hkn
    obtain ⟨A7, c7, e7⟩ := Kd.R_slice H7.out
    have e7 : u7 = .slice A7 0 c7 := e7
    subst e7
    go_upto_region 19 with (first
     | (go_at_call 72; (with_reducible refine HLEN.out.mono ?_); rintro e w1 ⟨rfl, hb1⟩; have HB1 := Aside0.mk hb1; clear hb1)
     | (go_at_call 73; (with_reducible refine (HSTR.out _ HB1.out).mono ?_); rintro e w2 ⟨rfl, hb2⟩; have HB2 := Aside0.mk (below_step HB1.out hb2); clear hb2)
     | (go_at_call 32; (with_reducible refine (HNUL.out _).mono ?_); rintro e w3 ⟨rfl, ⟨nd, rfl⟩⟩))
    obtain ⟨HM0, HOA⟩ := mem_start s HO6.out HP.out HB.out HB2.out
    have hmv := fun q => pw_below_drewN (Below.refl (w2.alloc (.cells #[.string s, .int .i64 0, .slice none 0 0, .int .i64 0] 49)).heap.size (w2.alloc (.cells #[.string s, .int .i64 0, .slice none 0 0, .int .i64 0] 49))) q
    have hbx : ((w2.alloc (.cells #[.string s, .int .i64 0, .slice none 0 0, .int .i64 0] 49)).drewN nd).heap[w2.heap.size]? = some (.cells #[.string s, .int .i64 0, .slice none 0 0, .int .i64 0] 49 (0, 0)) := heap_alloc_new w2 _
    have HM1 := Aside0.mk (Mem.store1 (Mem.move HM0 (hmv nd)) (i : Int))
    have HOB := Aside0.mk (Kd.R_far (p := ⟨w2.heap.size, 1, none⟩) (Kd.R_below HOA (hmv nd)) (fun k hk => hk.1) (.int .i64 (i : Int)))
    have H7B := Aside0.mk (Kd.R_set (Kd.R_below (Kd.R_alloc (Kd.R_below H7.out HB2.out) (.cells #[.string s, .int .i64 0, .slice none 0 0, .int .i64 0] 49)) (hmv nd)) hbx (by decide) 1 (.int .i64 (i : Int)))
    have HZ := Aside0.mk (show wr.heap.size ≤ w2.heap.size from below_size HB2.out)
    clear HM0 HOA hmv hbx
    go_cut [60] (fun v60 wc => v60 = .bool A7.isSome ∧ Aside0 (Mem w wc w2.heap.size s i 0 (.slice none 0 0) [] u6 L (.slice AR W.length cR) W) ∧ Aside0 (Kd.R k49 49 wc w.heap.size (fun k => k ≠ w2.heap.size ∧ some k ≠ (Value.slice A7 0 c7).ownBlock) u6 L) ∧ Aside0 ((Kd.int .i64).R 3 wc w.heap.size (fun _ => True) (.slice A7 0 c7) []))
    case first =>
     cases A7
     · go_wp2
       go_meet
       case rel => exact ⟨rfl, HM1, HOB, H7B⟩
     · go_wp2
       go_meet
       case rel => exact ⟨rfl, HM1, HOB, H7B⟩
    case rest =>
     clear HM1 HOB H7B
     obtain ⟨rfl, HM1, HOB, H7B⟩ := hcut
     generalize w2.heap.size = B at HM1 HOB HZ ⊢
     go_upto_if 60 with fail
     go_cut [] (fun wd => ∃ vM, Aside0 (Mem w wd B s i 0 vM [] u6 L (.slice AR W.length cR) W))
     case first =>
      obtain ⟨b0, b1, b2, b3⟩ := HM1.out.cells
      have fr := HM1.out.free 2
      cases A7
      · go_wp2_with ((with_reducible refine gate_dst (N := 65) rfl ?_); refine Kd.R_makecap (k := .i64) w.heap.size 3 rfl (N := 65) rfl 31 _ _ rfl 0 W.length rfl rfl Tryd.underlying31 8 info3 (by omega) (ok := fun _ => True) (Nat.zero_le _) (by have := HPL.out; omega) trivial HM1.out.below (below_size HM1.out.below) ?_; intro v1 w7 ho hb hg hnew; have HM2 := Aside0.mk (Mem.grown HM1.out hb hg); have HO2 := Aside0.mk (out_fresh2 HOB.out hg hnew); have HR2 := Aside0.mk ho; obtain ⟨Av, cv, ev⟩ := Kd.R_slice HR2.out; have ev : v1 = .slice Av 0 cv := ev; subst ev; obtain ⟨b0, b1, b2, b3⟩ := HM2.out.cells; have fr := HM2.out.free 2; clear ho hb hg hnew)
        go_meet
        case rel => exact ⟨_, ⟨Mem.put HM2.out HR2.out HO2.out⟩⟩
      · go_wp2
        go_meet
        case rel => exact ⟨_, ⟨Mem.put HM1.out H7B.out HOB.out⟩⟩
     case rest =>
      clear HM1 HOB H7B
      obtain ⟨vM, HM⟩ := hcut
      have HAM2 := Aside0.mk (Amb.below HAMB.out HM.out.below)
      have HDEC := Aside0.mk (Tryd.utf8_DecodeRuneInString s wc HAM2.out.utf)
      go_wp2_with (go_at_call 33; (with_reducible refine HDEC.out.mono ?_); rintro e w8 ⟨rfl, hb8⟩; have HB8 := Aside0.mk hb8; clear hb8)
      have HM8 := Aside0.mk (Mem.move HM.out HB8.out)
      have HD0 : Aside0 ((0 < s.size → (((decodeGo s).fst : Int) = ((Utf8.decode s 0).1 : Int) ∧ ((decodeGo s).snd : Int) = ((Utf8.decode s 0).2 : Int)))) := ⟨fun h => by unfold decodeGo; rw [if_neg (by omega)]; exact ⟨rfl, rfl⟩⟩
      clear HM HB8 HDEC HAM2
      generalize ((decodeGo s).fst : Int) = nc0 at HD0 ⊢
      generalize ((decodeGo s).snd : Int) = nz0 at HD0 ⊢
      refine inner (w := w) (s := s) (W := W) (i := (i : Int)) (B := B) (u6 := u6) (L := L) (AR := AR) (cR := cR) (vM0 := vM) (nc0 := nc0) (nz0 := nz0) (hA := HAMB.out) (hW := HP2.out) (hWL := HPL.out) (hWR := HPR.out) (hsz := HSZ.out.1) (hnul := HSZ.out.2) (hM0 := HM8.out) (hD0 := HD0.out) _ _ _ _ _ _ _ _ _ _ _ _ _ _ _ _ _ _ _ _ _ _ _ _ _ _ _ _ _ _ _ _ _ _ _ _ _ _ _ _ _ _ _ _ _ _ _ _ _ _ _ _ _ _ _ _ _ _ _ _ _ _ _ _ _ _ _ _ _ _ _ _ _ _ _ _ _ _ _ _ _ _ _ _ _ _ _ _ _ _ _ _ _ _ _ _ _ _ _ _ _ _ _ _ _ _ _ _ _ _ _ _ _ _ _ _ _ _ _ _ _ _ _ _ _ _ _ _ _ _ _ _ _ _ _ _ _ _ _ _ _ _ _ _ _ _ _ _ _ _ _ _ _ _ _ _ _ _ _ _ _ _ _ _ _ _ _ _ _ _ _ _ _ _ _ _ _ _ _ _ _ _ _ _ _ _ _ _ _ _ _ _ _ _ _ _ _ _ _ _ _ _ _ _ _ _ _ _ _ _ _ _ _ _ _ _ ?_
      clear HM8 HD0
      intros
      rename_i vMf wf hMf
      obtain ⟨fM, hfM⟩ : ∃ fM, (oneS W s).M = fM := ⟨_, rfl⟩
      obtain ⟨fs, hfs⟩ : ∃ fs, (oneS W s).sc = fs := ⟨_, rfl⟩
      obtain ⟨pen, hpen⟩ : ∃ pen, wrap64 ((fM.length : Int) - (s.size : Int)) = pen := ⟨_, rfl⟩
      obtain ⟨scF, hscF⟩ : ∃ scF, wrap64 (fs + pen) = scF := ⟨_, rfl⟩
      have hE0 := HE2.out
      rw [show scoreOf W s = scF by unfold scoreOf; rw [hfM, hfs, hpen, hscF], hfM] at hE0
      rw [hfM, hfs] at hMf
      have HE2 := Aside0.mk hE0
      have HM := Aside0.mk hMf
      clear hMf hE0 hfM hfs
      obtain ⟨AM, cM, eM⟩ := Kd.R_slice HM.out.row
      subst eM
      obtain ⟨b0, b1, b2, b3⟩ := HM.out.cells
      have fr3 := HM.out.free 3
      have hpw : IntKind.i64.wrap ((fM.length : Int) - (s.size : Int)) = pen := by rw [i64_w]; exact hpen
      have hsw : IntKind.i64.wrap (fs + pen) = scF := by rw [i64_w]; exact hscF
      have HM3 := Mem.store3 HM.out scF
      clear hpen hscF
      go_upto_region 74 with fail
      clear b0 b1 b2 b3 fr3 HM
      generalize wf.setCell ⟨B, 3, none⟩ (Value.int .i64 scF) = wg at HM3 ⊢
      have HM3 := Aside0.mk HM3
      obtain ⟨b0, b1, b2, b3⟩ := HM3.out.cells
      have hLb : L.length ≤ 1000 := by omega
      have HLB := Aside0.mk hLb
      by_cases hfit : fM.length = W.length
      · have hfb : ((fM.length : Int) == (W.length : Int)) = true := beq_iff_eq.2 (by omega)
        have hE := HE2.out
        rw [if_pos hfit] at hE
        have HE3 := Aside0.mk hE
        have hap := Aside0.mk (row_apart HM3.out)
        clear hE hfit
        go_wp2_with (first | ((with_reducible refine gate_builtin (b := .append) (xs := #[.tmp 222, .tmp 224]) rfl ?_); at_builtin; refine Kd.R_append k49 (w0 := w) w.heap.size rfl (.tmp 222) (.tmp 224) 40 49 (.agg #[(.string ⟨#[]⟩), (.int .i64 0), (.slice none 0 0), (.int .i64 0)]) 56 rfl Tryd.underlying40 info49 rfl (by decide) (by omega) u6 L (⟨s, (i : Int), fM, scF⟩ : S49) [.string s, .int .i64 (i : Int), .slice AM fM.length cM, .int .i64 scF] (fun _ => True) (fun k => some k ≠ u6.ownBlock) rfl rfl ?aP (fun _ hk => ⟨trivial, hk⟩) ?aF ?aO ?aB ?aS ?aL ?_; (case aP => exact k49_mkM _ _ _ (⟨s, (i : Int), fM, scF⟩ : S49) hap.out); (case aF => exact fun _ _ => trivial); (case aO => exact Kd.R_mono HM3.out.out (fun _ _ => trivial)); (case aB => exact HM3.out.below); (case aS => exact below_size HM3.out.below); (case aL => have := HLB.out; omega); intro v9 w9 ho hb hg hat; have HO9 := Aside0.mk ho; have HB9 := Aside0.mk hb; have HG9 := Aside0.mk hg; clear ho hb hg))
        have HP9 := Aside0.mk (pat_grown HM3.out HG9.out)
        go_roundw
        case rel => exact ⟨i + 1, _, by first | rfl | (simp; done), by first | rfl | (simp; done), by omega, by simp; omega, ⟨by rw [List.append_assoc]; exact HE3.out⟩, ⟨Kd.R_mono HO9.out (fun _ _ => by simp [Value.ownBlock])⟩, ⟨Kd.R_nil _ _ _ _ _⟩, HP9, HB9⟩
        case measure => simp [intOf]; omega
      · have hfb : ((fM.length : Int) == (W.length : Int)) = false := beq_eq_false_iff_ne.2 (by omega)
        have hE := HE2.out
        rw [if_neg hfit] at hE
        have HE3 := Aside0.mk hE
        clear hE hfit
        go_wp2
        go_roundw
        case rel => exact ⟨i + 1, L, by first | rfl | (simp; done), by first | rfl | (simp; done), by omega, by omega, HE3, ⟨Kd.R_mono HM3.out.out (fun _ hk => by rw [show (Value.slice AM 0 cM).ownBlock = (Value.slice AM fM.length cM).ownBlock by cases AM <;> rfl]; exact hk.2)⟩, ⟨R_empty HM3.out.row⟩, ⟨HM3.out.pat⟩, ⟨HM3.out.below⟩⟩
        case measure => simp [intOf]; omega
  · have hiz : ¬ (i : Int) < (l.length : Int) := by omega
    have hE := HE.out
    rw [List.drop_eq_nil_of_le (by omega), findS, List.append_nil] at hE
    have HE3 := Aside0.mk hE
    clear hE
    go_wp2_with (go_at_call 72; (with_reducible refine HLEN.out.mono ?_); rintro e w1 ⟨rfl, hb1⟩; have HB1 := Aside0.mk hb1; clear hb1)
    go_ret
    exact ⟨_, rfl, by rw [← HE3.out]; exact Kd.R_mono (Kd.R_below HO6.out HB1.out) (fun _ _ => trivial), below_step HB.out HB1.out⟩

set_option maxHeartbeats 2000000 in
set_option maxRecDepth 1000000 in
theorem from_nil (A : Option Addr) (c : Nat) (l : List ByteArray) (a0 : ByteArray) (h0 : a0.size = 0) (w : World) :
 Calls Tryd.prog 27 #[.string a0, .iface 51 (.slice A l.length c)] w fun e w' => e = .returned (.slice none 0 0) ∧ Below w.heap.size w w' := by
 have hne : ((a0.size : Int) == 0) = true := beq_iff_eq.2 (by omega)
 have HB := Aside0.mk (Below.refl w.heap.size w)
 go_enter Tryd.func27, Tryd.ntmps27
 go_wp2
 go_ret
 exact ⟨rfl, HB.out⟩
end Go.Proofs.YtgeimklpcfepaaaDoor
namespace Go.Proofs.YtgeimklpcfepaaaDoor
open Go.RowKit Go.Lib Go.Proofs.YtgeimklpcfepaaaDoorW.PrintWords Go.Proofs.YtgeimklpcfepaaaDoorW.PrintMore
open P
set_option linter.unusedVariables false
set_option linter.unusedSimpArgs false

/-- Texts that are taken: not too long, without NUL. -/
def okTexts (a0 : ByteArray) (l : List ByteArray) : Bool := decide (a0.size ≤ 1000) && (decide (l.length ≤ 1000) && l.all fun s => decide (s.size ≤ 1000) && noNul s)
def findAll (a0 : ByteArray) (l : List ByteArray) : List S49 := if a0.size = 0 then [] else findS (strRunes a0) l 0
namespace P
def sahilm_FindNoSort.f (a0 : ByteArray) (l1 : List ByteArray) : Option (List S49) := if okTexts a0 l1 = true then some (findAll a0 l1) else none
end P
theorem from_calls (a0 : ByteArray) (A : Option Addr) (c : Nat) (l : List ByteArray) (w : World) (hC : Kd.C Kd.string w A l.length l) (hA : Amb w) (h : okTexts a0 l = true) :
 Calls Tryd.prog 27 #[.string a0, .iface 51 (.slice A l.length c)] w fun e w' => ∃ v0_ : Value, e = .returned (v0_) ∧ Kd.R k49 49 w' w.heap.size (fun _ => True) v0_ (findAll a0 l) ∧ Below w.heap.size w w' := by
 unfold okTexts at h
 simp only [Bool.and_eq_true, decide_eq_true_eq, List.all_eq_true] at h
 obtain ⟨h1, h2, h3⟩ := h
 unfold findAll
 by_cases h0 : a0.size = 0
 · rw [if_pos h0]
   refine (from_nil A c l a0 h0 w).mono ?_
   rintro e w' ⟨rfl, hb⟩
   exact ⟨_, rfl, Kd.R_nil _ _ _ _ _, hb⟩
 · rw [if_neg h0]
   exact from_calls0 a0 _ rfl A c l _ rfl w hC hA (by omega) h1 h2 h3
set_option maxHeartbeats 2000000 in
theorem P.sahilm_FindNoSort.calls (a0 : ByteArray) (A1 : Option Addr) (c1 : Nat) (l1 : List ByteArray) (r : List S49) (w : World) (hr1 : Kd.C Kd.string w A1 l1.length l1) (hc1 : l1.length ≤ c1) (hA_ : Amb w) (h : sahilm_FindNoSort.f a0 l1 = some r) :
 Calls Tryd.prog 22 #[.string a0, .slice A1 l1.length c1] w fun e w' => ∃ v0_ : Value, e = .returned (v0_) ∧ Kd.R k49 49 w' w.heap.size (fun _ => True) v0_ r ∧ Below w.heap.size w w' := by
 unfold sahilm_FindNoSort.f at h
 split at h
 case isFalse => cases h
 rename_i hok
 obtain rfl := Option.some.inj h
 have HF := Aside0.mk (from_calls a0 A1 c1 l1 w hr1 hA_ hok)
 clear h hr1 hc1 hA_ hok
 generalize findAll a0 l1 = R at HF ⊢
 go_enter Tryd.func22, Tryd.ntmps22
 go_wp2_with (go_at_call 27; (with_reducible refine HF.out.mono ?_); rintro e w1 ⟨v, rfl, hR, hb⟩; have HR := Aside0.mk hR; have HB := Aside0.mk hb; clear hR hb)
 go_ret
 exact ⟨_, rfl, HR.out, HB.out⟩
end Go.Proofs.YtgeimklpcfepaaaDoor
