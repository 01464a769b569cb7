/- FindFromNoSort's inner loop, over a text's letters. -/
import Derived.Test.YtgeimklpcfepaaaDoorFindCand
import Derived.Test.YtgeimklpcfepaaaDoorFindTake
import Derived.Deep.DeepCutAuto
import Derived.Deep.CutBlock
import Derived.Deep.CutRange
namespace Go.Proofs.YtgeimklpcfepaaaDoor
open Go.RowKit Go.Lib Go.Proofs.YtgeimklpcfepaaaDoorW.PrintWords Go.Proofs.YtgeimklpcfepaaaDoorW.PrintLast Go.Proofs.YtgeimklpcfepaaaDoorW.PrintMore
open P
set_option linter.unusedVariables false
set_option linter.unusedSimpArgs false

set_option maxHeartbeats 16000000 in
set_option maxRecDepth 1000000 in
theorem inner (w w8 : World) (s : ByteArray) (W : List Int) (i : Int) (B : Nat) (u6 : Value) (L : List S49) (AR : Option Addr) (cR : Nat) (vM0 : Value) (nc0 nz0 : Int) (hA : Amb w) (hW : 0 < W.length) (hWL : W.length ≤ 1000) (hWR : ∀ x ∈ W, okR x) (hsz : s.size ≤ 1000) (hnul : noNul s = true)
 (hM0 : Mem w w8 B s i 0 vM0 [] u6 L (.slice AR W.length cR) W) (hD0 : 0 < s.size → (nc0 = ((Utf8.decode s 0).1 : Int) ∧ nz0 = ((Utf8.decode s 0).2 : Int))) (Q : Exit → Act → World → Prop)
 (u0 u1 u2 u3 u4 u7 u8 u9 u10 u13 u26 u27 u28 u29 u30 u31 u32 u33 u34 u35 u36 u37 u38 u39 u40 u41 u42 u43 u44 u45 u46 u47 u48 u49 u50 u51 u52 u53 u54 u55 u56 u57 u58 u59 u60 u61 u62 u63 u64 u65 u66 u67 u68 u69 u70 u71 u72 u73 u74 u75 u76 u77 u78 u79 u80 u81 u82 u83 u84 u85 u86 u87 u88 u89 u90 u91 u92 u93 u94 u95 u96 u97 u98 u99 u100 u101 u102 u103 u104 u105 u106 u107 u108 u109 u110 u111 u112 u113 u114 u115 u116 u117 u118 u119 u120 u121 u122 u123 u124 u125 u126 u127 u128 u129 u130 u131 u132 u133 u134 u135 u136 u137 u138 u139 u140 u141 u142 u143 u144 u145 u146 u147 u148 u149 u150 u151 u152 u153 u154 u155 u156 u157 u158 u159 u160 u161 u162 u163 u164 u165 u166 u167 u168 u169 u170 u171 u172 u173 u174 u175 u176 u177 u178 u179 u180 u181 u182 u183 u184 u185 u186 u187 u188 u189 u190 u191 u192 u193 u194 u195 u196 u197 u198 u199 u200 u201 u202 u203 u204 u205 u206 u207 u208 u209 u210 u211 u212 u213 u214 u215 u216 u217 u218 u219 u220 u221 u222 u223 u224 u225 u226 u227 u228 u229 : Value)
 (hQ : ∀ (t14 t15 t16 t17 t18 t19 t20 t21 t22 t23 t24 t25 t26 t27 t28 t29 t72 t73 t74 t75 t76 t77 t78 t79 t80 t81 t82 t83 t84 t85 t86 t87 t88 t89 t90 t91 t92 t93 t94 t95 t96 t97 t98 t99 t100 t101 t102 t103 t104 t105 t106 t107 t108 t109 t110 t111 t112 t113 t114 t115 t116 t117 t118 t119 t120 t121 t122 t123 t124 t125 t126 t127 t128 t129 t130 t131 t132 t133 t134 t135 t136 t137 t138 t139 t140 t141 t142 t143 t144 t145 t146 t147 t148 t149 t150 t151 t152 t153 t154 t155 t156 t157 t158 t159 t160 t161 t162 t163 t164 t165 t166 t167 t168 t169 t170 t171 t172 t173 t174 t175 t176 t177 t178 t179 t180 t181 t182 t183 t184 t185 t186 t187 t188 t189 t190 t191 t192 t193 t194 t195 t196 t197 t198 t199 t200 t201 t202 t203 t204 vM : Value) (wx : World), Mem w wx B s i (oneS W s).sc vM (oneS W s).M u6 L (.slice AR W.length cR) W → Q (.exit 2) ⟨List.toArray (u0 :: u1 :: u2 :: u3 :: u4 :: Value.slice AR W.length cR :: u6 :: u7 :: u8 :: u9 :: u10 :: Value.pointer (some ⟨B, 0, none⟩) :: Value.string s :: u13 :: t14 :: t15 :: t16 :: t17 :: t18 :: t19 :: t20 :: t21 :: t22 :: t23 :: t24 :: t25 :: t26 :: t27 :: t28 :: t29 :: u30 :: u31 :: u32 :: u33 :: u34 :: u35 :: u36 :: u37 :: u38 :: u39 :: u40 :: u41 :: u42 :: u43 :: u44 :: u45 :: u46 :: u47 :: u48 :: u49 :: u50 :: u51 :: u52 :: u53 :: u54 :: u55 :: u56 :: u57 :: u58 :: u59 :: u60 :: u61 :: u62 :: u63 :: u64 :: u65 :: u66 :: u67 :: u68 :: u69 :: u70 :: u71 :: t72 :: t73 :: t74 :: t75 :: t76 :: t77 :: t78 :: t79 :: t80 :: t81 :: t82 :: t83 :: t84 :: t85 :: t86 :: t87 :: t88 :: t89 :: t90 :: t91 :: t92 :: t93 :: t94 :: t95 :: t96 :: t97 :: t98 :: t99 :: t100 :: t101 :: t102 :: t103 :: t104 :: t105 :: t106 :: t107 :: t108 :: t109 :: t110 :: t111 :: t112 :: t113 :: t114 :: t115 :: t116 :: t117 :: t118 :: t119 :: t120 :: t121 :: t122 :: t123 :: t124 :: t125 :: t126 :: t127 :: t128 :: t129 :: t130 :: t131 :: t132 :: t133 :: t134 :: t135 :: t136 :: t137 :: t138 :: t139 :: t140 :: t141 :: t142 :: t143 :: t144 :: t145 :: t146 :: t147 :: t148 :: t149 :: t150 :: t151 :: t152 :: t153 :: t154 :: t155 :: t156 :: t157 :: t158 :: t159 :: t160 :: t161 :: t162 :: t163 :: t164 :: t165 :: t166 :: t167 :: t168 :: t169 :: t170 :: t171 :: t172 :: t173 :: t174 :: t175 :: t176 :: t177 :: t178 :: t179 :: t180 :: t181 :: t182 :: t183 :: t184 :: t185 :: t186 :: t187 :: t188 :: t189 :: t190 :: t191 :: t192 :: t193 :: t194 :: t195 :: t196 :: t197 :: t198 :: t199 :: t200 :: t201 :: t202 :: t203 :: t204 :: u205 :: u206 :: u207 :: u208 :: u209 :: u210 :: u211 :: u212 :: u213 :: u214 :: u215 :: u216 :: u217 :: u218 :: u219 :: u220 :: u221 :: u222 :: u223 :: u224 :: u225 :: u226 :: u227 :: u228 :: u229 :: []), []⟩ wx) :
 Code.wp Tryd.prog (Code.loop innerBody) Q ⟨List.toArray (u0 :: u1 :: u2 :: u3 :: u4 :: Value.slice AR W.length cR :: u6 :: u7 :: u8 :: u9 :: u10 :: Value.pointer (some ⟨B, 0, none⟩) :: Value.string s :: u13 :: Value.int .i64 0 :: Value.int .i64 0 :: Value.int .i64 (-1) :: Value.int .i64 (-1) :: Value.int .i64 0 :: Value.int .i32 0 :: Value.int .i64 0 :: Value.int .i32 nc0 :: Value.int .i64 nz0 :: Value.int .i32 0 :: Value.int .i64 0 :: Value.int .i64 0 :: u26 :: u27 :: u28 :: u29 :: u30 :: u31 :: u32 :: u33 :: u34 :: u35 :: u36 :: u37 :: u38 :: u39 :: u40 :: u41 :: u42 :: u43 :: u44 :: u45 :: u46 :: u47 :: u48 :: u49 :: u50 :: u51 :: u52 :: u53 :: u54 :: u55 :: u56 :: u57 :: u58 :: u59 :: u60 :: u61 :: u62 :: u63 :: u64 :: u65 :: u66 :: u67 :: u68 :: u69 :: u70 :: u71 :: u72 :: u73 :: u74 :: u75 :: u76 :: u77 :: u78 :: u79 :: u80 :: u81 :: u82 :: u83 :: u84 :: u85 :: u86 :: u87 :: u88 :: u89 :: u90 :: u91 :: u92 :: u93 :: u94 :: u95 :: u96 :: u97 :: u98 :: u99 :: u100 :: u101 :: u102 :: u103 :: u104 :: u105 :: u106 :: u107 :: u108 :: u109 :: u110 :: u111 :: u112 :: u113 :: u114 :: u115 :: u116 :: u117 :: u118 :: u119 :: u120 :: u121 :: u122 :: u123 :: u124 :: u125 :: u126 :: u127 :: u128 :: u129 :: u130 :: u131 :: u132 :: u133 :: u134 :: u135 :: u136 :: u137 :: u138 :: u139 :: u140 :: u141 :: u142 :: u143 :: u144 :: u145 :: u146 :: u147 :: u148 :: u149 :: u150 :: u151 :: u152 :: u153 :: u154 :: u155 :: u156 :: u157 :: u158 :: u159 :: u160 :: u161 :: u162 :: u163 :: u164 :: u165 :: u166 :: u167 :: u168 :: u169 :: u170 :: u171 :: u172 :: u173 :: u174 :: u175 :: u176 :: u177 :: u178 :: u179 :: u180 :: u181 :: u182 :: u183 :: u184 :: u185 :: u186 :: u187 :: u188 :: u189 :: u190 :: u191 :: u192 :: u193 :: u194 :: u195 :: u196 :: u197 :: u198 :: u199 :: u200 :: u201 :: u202 :: u203 :: u204 :: u205 :: u206 :: u207 :: u208 :: u209 :: u210 :: u211 :: u212 :: u213 :: u214 :: u215 :: u216 :: u217 :: u218 :: u219 :: u220 :: u221 :: u222 :: u223 :: u224 :: u225 :: u226 :: u227 :: u228 :: u229 :: []), []⟩ w8 := by
 have HAMB := Aside0.mk hA
 have HWR := Aside0.mk hWR
 have HNUL := Aside0.mk hnul
 have HM8 := Aside0.mk hM0
 have HD0 := Aside0.mk hD0
 have HI0 := Aside0.mk (inv_start W (lettersAt s 0) hW)
 clear hA hWR hnul hM0 hD0
 conv => arg 2; arg 1; whnf
 go_loopg [15, 16, 17, 18, 19, 20, 21, 22, 25] s.size (fun g v15 v16 v17 v18 v19 v20 v21 v22 v25 wx => ∃ (st : St) (j : Nat) (vM : Value) (x15 x25 nc nz : Int), v15 = .int .i64 x15 ∧ v16 = .int .i64 st.best ∧ v17 = .int .i64 st.midx ∧ v18 = .int .i64 st.curr ∧ v19 = .int .i32 st.last ∧ v20 = .int .i64 st.lastI ∧ v21 = .int .i32 nc ∧ v22 = .int .i64 nz ∧ v25 = .int .i64 x25 ∧ Aside0 (x15 = (st.pi : Int)) ∧ Aside0 (x25 = (j : Int)) ∧ Aside0 (s.size - j ≤ g) ∧ Aside0 (0 ≤ j) ∧ Aside0 (j < s.size → (nc = ((Utf8.decode s j).1 : Int) ∧ nz = ((Utf8.decode s j).2 : Int))) ∧ Aside0 (loopS W (lettersAt s j) st = oneS W s) ∧ Aside0 (Inv W (lettersAt s j) st) ∧ Aside0 (j = 0 → st = St0) ∧ Aside0 (Mem w wx B s i st.sc vM st.M u6 L (.slice AR W.length cR) W))
 case atStart => exact ⟨St0, 0, vM0, 0, 0, nc0, nz0, rfl, rfl, rfl, rfl, rfl, rfl, rfl, rfl, rfl, ⟨rfl⟩, ⟨rfl⟩, ⟨by omega⟩, ⟨by omega⟩, HD0, ⟨rfl⟩, HI0, ⟨fun _ => rfl⟩, HM8⟩
 case round =>
  clear HM8 HD0 HI0
  obtain ⟨st, j, vM, x15, x25, nc, nz, rfl, rfl, rfl, rfl, rfl, rfl, rfl, rfl, rfl, HX15, HX25, HG, HJ, HD, HLS, HINV, HST, HM⟩ := hrel
  by_cases hj : x25 < (s.size : Int)
  · have hjn : j < s.size := by have := HX25.out; omega
    obtain ⟨hnc, hnz⟩ := HD.out hjn
    have hokn : okR nc := by rw [hnc]; exact ⟨by omega, by have := decode_fst_lt s j; omega⟩
    have hroom := HINV.out.room (by rw [lettersAt_step s j hjn]; simp)
    have p0 : 0 ≤ x15 := by have := HX15.out; omega
    have q0 : x15 < (W.length : Int) := by have := HX15.out; omega
    have hrd : rd W x15 = W.getD st.pi 0 := by unfold rd; rw [HX15.out, Int.toNat_natCast]
    have hokw : okR (rd W x15) := by
     rw [hrd, List.getD_eq_getElem?_getD, List.getElem?_eq_getElem hroom]; exact HWR.out _ (List.getElem_mem hroom)
    obtain ⟨ad, e, hxr⟩ := Kd.at_int (Kd.R_reads' HM.out.pat).2.2 x15 p0 q0
    cases e
    have hxr' := hxr
    replace p0 := eq_true p0
    replace q0 := eq_true q0
    have HEQ := Aside0.mk (eq_calls nc (rd W x15) hokn hokw wr (Amb.below HAMB.out HM.out.below))
    have HOKN := Aside0.mk hokn
    have HNC := Aside0.mk hnc
    have HNZ := Aside0.mk hnz
    have HRD := Aside0.mk hrd
    have HRM := Aside0.mk hroom
    clear hokn hnc hnz hrd hokw hroom hxr'
    go_upto_if 86 with (go_at_call 34; (with_reducible refine HEQ.out.mono ?_); rintro e w1 ⟨rfl, hb1⟩; have HB1 := Aside0.mk hb1; clear hb1)
    have HM1 := Aside0.mk (Mem.move HM.out HB1.out)
    clear hxr p0 q0 HEQ HM HB1
    have hc1000 : st.M.length ≤ 1000 := by have := HINV.out.pm; have := HINV.out.le; omega
    refine cand (w := w) (s := s) (W := W) (i := i) (B := B) (u6 := u6) (L := L) (ad := ad) (cR := cR) (vM := vM) (st := st) (x15 := x15) (x25 := x25) (nc := nc) (nz := nz) (hA := HAMB.out) (hokn := HOKN.out) (hlr := HINV.out.lr) (hpm := hc1000) (hrd := HRD.out) (hM1 := HM1.out) _ _ _ _ _ _ _ _ _ _ _ _ _ _ _ _ _ _ _ _ _ _ _ _ _ _ _ _ _ _ _ _ _ _ _ _ _ _ _ _ _ _ _ _ _ _ _ _ _ _ _ _ _ _ _ _ _ _ _ _ _ _ _ _ _ _ _ _ _ _ _ _ _ _ _ _ _ _ _ _ _ _ _ _ _ _ _ _ _ _ _ _ _ _ _ _ _ _ _ _ _ _ _ _ _ _ _ _ _ _ _ _ _ _ _ _ _ _ _ _ _ _ _ _ _ _ _ _ _ _ _ _ _ _ _ _ _ _ _ _ _ _ _ _ _ _ _ _ _ _ _ _ _ _ _ _ _ _ _ _ _ _ _ _ _ _ _ _ _ _ _ _ _ _ _ _ _ _ _ _ _ _ _ _ _ _ _ _ _ _ _ _ _ _ _ _ _ _ _ _ _ _ _ _ _ _ _ _ _ _ _ _ _ _ _ _ _ ?_
    clear HM1 hc1000
    intros
    rename_i wc hMc
    have HM1 := Aside0.mk hMc
    clear hMc
    obtain ⟨k1, k2, k3, k4, k5⟩ := candS_keeps W x25 nc st
    have kb := candS_best W x25 nc st HINV.out.b
    have HSTEP : Aside0 (∀ rest, stepS W (⟨nc, x25⟩ : S45) rest st = { takeS W (headR rest) (candS W x25 nc st) with last := nc, lastI := x25 }) := ⟨fun _ => rfl⟩
    generalize candS W x25 nc st = st1 at HM1 k1 k2 k3 k4 k5 kb HSTEP ⊢
    have HM2 : Aside0 (Mem w wc B s i st1.sc vM st1.M u6 L (.slice (some ad) W.length cR) W) := ⟨by rw [k3, k2]; exact HM1.out⟩
    have hx15 : x15 = (st1.pi : Int) := by rw [k1]; exact HX15.out
    have HX15b := Aside0.mk hx15
    have HPI := Aside0.mk (show st1.pi < W.length by rw [k1]; exact HRM.out)
    have HPM := Aside0.mk (show st1.pi = st1.M.length by rw [k1, k2]; exact HINV.out.pm)
    clear HM1 k1 k2 k3 k4 k5 kb hx15
    -- the pattern's next letter
    go_upto_if 138 with fail
    go_cut [28] from 72 to 204 (fun v28 wd => v28 = .int .i32 (nextP W st1.pi) ∧ Aside0 (Mem w wd B s i st1.sc vM st1.M u6 L (.slice (some ad) W.length cR) W))
    case first =>
     have hpi := HPI.out
     have hxb := HX15b.out
     by_cases hlt : x15 < (W.length : Int) - 1
     · obtain ⟨q, hq⟩ : ∃ q : Int, x15 + 1 = q := ⟨_, rfl⟩
       have q0 : 0 ≤ q := by omega
       have q1 : q < (W.length : Int) := by omega
       obtain ⟨ad2, e2, hxq⟩ := Kd.at_int (Kd.R_reads' HM2.out.pat).2.2 q q0 q1
       have e3 : ad2 = ad := by injection e2 with e2; exact e2.symm
       subst e3
       have hr : rd W q = nextP W st1.pi := by
        unfold rd nextP
        rw [if_pos (by omega), ← hq, hxb, show ((st1.pi : Int) + 1).toNat = st1.pi + 1 by omega]
       rw [hr] at hxq
       have hqw : IntKind.i64.wrap (x15 + 1) = q := by rw [i64_w]; unfold wrap64; omega
       have hlb : decide (x15 < (W.length : Int) - 1) = true := decide_eq_true hlt
       obtain ⟨np, hnp⟩ : ∃ np, nextP W st1.pi = np := ⟨_, rfl⟩
       rw [hnp] at hxq
       have HNPX := Aside0.mk hnp
       clear hnp
       have HQ := Aside0.mk hq
       replace q0 := eq_true q0
       replace q1 := eq_true q1
       clear hq hr hxb hpi e2
       go_wp2
       go_meet
       case rel => exact ⟨by rw [HNPX.out], HM2⟩
     · have hlb : decide (x15 < (W.length : Int) - 1) = false := decide_eq_false hlt
       have hr : nextP W st1.pi = 0 := by unfold nextP; rw [if_neg (by omega)]
       have HRZ := Aside0.mk hr
       clear hxb hpi hr
       go_wp2
       go_meet
       case rel => exact ⟨by rw [HRZ.out], HM2⟩
    case rest =>
     clear HM2
     obtain ⟨rfl, HM2⟩ := hcut
     have HNPO := Aside0.mk (nextP_ok W st1.pi HWR.out)
     generalize hnp : nextP W st1.pi = np at HNPO ⊢
     have HNP := Aside0.mk hnp
     clear hnp
     have hwd := Lib.decode_width_pos s j hjn
     have hzr : 1 ≤ nz ∧ nz ≤ 4 := by
      have h5 := HNZ.out
      have h6 := decode_width_le s j
      omega
     obtain ⟨q, hq⟩ : ∃ q : Int, x25 + nz = q := ⟨_, rfl⟩
     obtain ⟨jq, hjq⟩ : ∃ jq : Nat, j + (Utf8.decode s j).2 = jq := ⟨_, rfl⟩
     have hqn : q = (jq : Int) := by have := HX25.out; have := HNZ.out; omega
     have hx0 : 0 ≤ x25 := by have := HX25.out; omega
     have hqw : IntKind.i64.wrap (x25 + nz) = q := by rw [i64_w]; unfold wrap64; omega
     have HQ := Aside0.mk hq
     have HQN := Aside0.mk hqn
     have HJQ := Aside0.mk hjq
     have HWD := Aside0.mk hwd
     clear hq hjq hwd
     go_upto_if 149 with fail
     go_cut [21, 22] from 72 to 204 (fun v21 v22 wd => ∃ nc2 nz2 : Int, v21 = .int .i32 nc2 ∧ v22 = .int .i64 nz2 ∧ Aside0 (jq < s.size → (nc2 = ((Utf8.decode s jq).1 : Int) ∧ nz2 = ((Utf8.decode s jq).2 : Int))) ∧ Aside0 (¬ jq < s.size → nc2 = 0) ∧ Aside0 (Mem w wd B s i st1.sc vM st1.M u6 L (.slice (some ad) W.length cR) W))
     case first =>
      by_cases hlt : q < (s.size : Int)
      · have hlb : decide (q < (s.size : Int)) = true := decide_eq_true hlt
        have hjs : jq < s.size := by omega
        have hx := bt_at s q
        have hbr := bt_range s q
        have q0 : 0 ≤ q := by omega
        have hbd := decode_byte s jq hjs
        rw [← hqn] at hbd
        have HBD := Aside0.mk hbd
        have HEX := Aside0.mk (Tryd.utf8_DecodeRuneInString (s.extract q.toNat s.size) wc (Amb.below HAMB.out HM2.out.below).utf)
        have HDX : Aside0 (decodeGo (s.extract q.toNat s.size) = Utf8.decode s jq) := ⟨by
         unfold decodeGo
         rw [size_extract_end, if_neg (by omega), decode_extract s _ 0 (by omega), Nat.add_zero, hqn, Int.toNat_natCast]⟩
        generalize bt s q = bv at hx hbr HBD
        by_cases hb : bv < 128
        · have hbb : decide (bv < 128) = true := decide_eq_true hb
          have q1 : q < (s.size : Int) := hlt
          replace q0 := eq_true q0
          replace q1 := eq_true q1
          clear hbd hqn
          go_wp2
          go_meet
          case rel => exact ⟨bv, 1, rfl, rfl, ⟨fun _ => HBD.out hb⟩, ⟨fun h => absurd hjs h⟩, HM2⟩
        · have hbb : decide (bv < 128) = false := decide_eq_false hb
          have q1 : q < (s.size : Int) := hlt
          have q2 : q ≤ (s.size : Int) := by omega
          replace q0 := eq_true q0
          replace q1 := eq_true q1
          clear hbd hqn
          go_wp2_with (go_at_call 33; (with_reducible refine HEX.out.mono ?_); rintro e w2 ⟨rfl, hb2⟩; have HM3 := Aside0.mk (Mem.move HM2.out hb2); clear hb2)
          go_meet
          case rel => exact ⟨_, _, rfl, rfl, ⟨fun _ => by rw [HDX.out]; exact ⟨rfl, rfl⟩⟩, ⟨fun h => absurd hjs h⟩, HM3⟩
      · have hlb : decide (q < (s.size : Int)) = false := decide_eq_false hlt
        go_wp2
        go_meet
        case rel => exact ⟨0, 0, rfl, rfl, ⟨fun h => by have := HQN.out; omega⟩, ⟨fun _ => rfl⟩, HM2⟩
     case rest =>
      clear HM2
      obtain ⟨nc2, nz2, rfl, rfl, HN1, HN2, HM2⟩ := hcut
      have hok2 : okR nc2 := by
       by_cases h : jq < s.size
       · rw [(HN1.out h).1]; exact ⟨by omega, by have := decode_fst_lt s jq; omega⟩
       · rw [HN2.out h]; exact ⟨by decide, by decide⟩
      have HE2 := Aside0.mk (eq_calls np nc2 HNPO.out hok2 wc (Amb.below HAMB.out HM2.out.below))
      have hhd : headR (lettersAt s jq) = nc2 := by
       by_cases h : jq < s.size
       · rw [lettersAt_step s jq h, (HN1.out h).1]; rfl
       · rw [lettersAt_end s jq h, HN2.out h]; rfl
      have HHD := Aside0.mk hhd
      clear hok2 hhd
      go_upto_region 60 with fail
      go_cut [174, 176, 177] from 72 to 204 (fun v174 v176 v177 wd => v177 = .bool (alikeB np nc2 || nc2 == 0) ∧ Aside0 (Mem w wd B s i st1.sc vM st1.M u6 L (.slice (some ad) W.length cR) W))
      case first =>
       cases he2 : alikeB np nc2 with
       | true =>
        have hE := Aside0.mk HE2.out
        rw [he2] at hE
        go_wp2_with (go_at_call 34; (with_reducible refine hE.out.mono ?_); rintro e w2 ⟨rfl, hb2⟩; have HM3 := Aside0.mk (Mem.move HM2.out hb2); clear hb2)
        go_meet
        case rel => exact ⟨by rw [he2]; rfl, HM3⟩
       | false =>
        have hE := Aside0.mk HE2.out
        rw [he2] at hE
        go_wp2_with (go_at_call 34; (with_reducible refine hE.out.mono ?_); rintro e w2 ⟨rfl, hb2⟩; have HM3 := Aside0.mk (Mem.move HM2.out hb2); clear hb2)
        go_meet
        case rel => exact ⟨by rw [he2]; rfl, HM3⟩
      case rest =>
       clear HM2 HE2
       obtain ⟨rfl, HM2⟩ := hcut
       go_upto_if 177 with fail
       refine take (w := w) (s := s) (W := W) (i := i) (B := B) (u6 := u6) (L := L) (ad := ad) (cR := cR) (vM := vM) (st1 := st1) (x15 := x15) (np := np) (nc2 := nc2) (hx15 := HX15b.out) (hpi := HPI.out) (hWL := hWL) (hpm := HPM.out) (hnp := HNP.out) (hM2 := HM2.out) _ _ _ _ _ _ _ _ _ _ _ _ _ _ _ _ _ _ _ _ _ _ _ _ _ _ _ _ _ _ _ _ _ _ _ _ _ _ _ _ _ _ _ _ _ _ _ _ _ _ _ _ _ _ _ _ _ _ _ _ _ _ _ _ _ _ _ _ _ _ _ _ _ _ _ _ _ _ _ _ _ _ _ _ _ _ _ _ _ _ _ _ _ _ _ _ _ _ _ _ _ _ _ _ _ _ _ _ _ _ _ _ _ _ _ _ _ _ _ _ _ _ _ _ _ _ _ _ _ _ _ _ _ _ _ _ _ _ _ _ _ _ _ _ _ _ _ _ _ _ _ _ _ _ _ _ _ _ _ _ _ _ _ _ _ _ _ _ _ _ _ _ _ _ _ _ _ _ _ _ _ _ _ _ _ _ _ _ _ _ _ _ _ _ _ _ _ _ _ _ _ _ _ _ _ _ _ _ _ _ _ _ _ _ _ _ _ _ _ _ _ _ _ _ _ ?_
       clear HM2
       intros
       rename_i vM2 x15n wc hx15n hM2
       have HX15n := Aside0.mk hx15n
       have HM2 := Aside0.mk hM2
       clear hx15n hM2
       have htk : (takeS W nc2 st1).midx = st1.midx ∧ (takeS W nc2 st1).curr = st1.curr := by
        unfold takeS
        split
        · split <;> exact ⟨rfl, rfl⟩
        · exact ⟨rfl, rfl⟩
       have hS := HSTEP.out (lettersAt s jq)
       rw [HHD.out] at hS
       have hLS := HLS.out
       have hjs := lettersAt_step s j hjn
       rw [HJQ.out] at hjs
       have hx : (⟨((Utf8.decode s j).1 : Int), (j : Int)⟩ : S45) = ⟨nc, x25⟩ := by rw [HNC.out, HX25.out]
       rw [hx] at hjs
       have hinv := HINV.out
       rw [hjs] at hLS hinv
       have hinv2 := inv_step W ⟨nc, x25⟩ (lettersAt s jq) st hinv (fun y hy => letters_ok s HNUL.out _ _ y hy) HOKN.out
       have hLS : loopS W (lettersAt s jq) (stepS W ⟨nc, x25⟩ (lettersAt s jq) st) = oneS W s := hLS
       rw [hS] at hLS hinv2
       have hjq1 : j + 1 ≤ jq := by have := HJQ.out; have := HWD.out; omega
       have HF1 := Aside0.mk hLS
       have HF2 := Aside0.mk hinv2
       have HF3 := Aside0.mk htk
       have HF4 := Aside0.mk hjq1
       clear hS hLS hinv hinv2 hjs hx htk hjq1
       clear hqn
       generalize takeS W nc2 st1 = st2 at HM2 HX15n HF1 HF2 HF3 ⊢
       go_wp2
       go_roundg (s.size - jq)
       case measure => have := HF4.out; have := HG.out; omega
       case rel => exact ⟨{ st2 with last := nc, lastI := x25 }, jq, vM2, x15n, q, nc2, nz2, rfl, rfl, by rw [← HF3.out.1], by rw [← HF3.out.2], rfl, rfl, rfl, rfl, rfl, HX15n, HQN, ⟨Nat.le_refl _⟩, ⟨Nat.zero_le _⟩, HN1, HF1, HF2, ⟨fun h => by have := HF4.out; omega⟩, HM2⟩
  · go_wp2
    have hjj : ¬ j < s.size := by have := HX25.out; omega
    have h1 := HLS.out
    rw [lettersAt_end s j hjj] at h1
    have h1 : st = oneS W s := h1
    have h2 := HM.out
    rw [h1] at h2
    apply hQ
    exact h2
end Go.Proofs.YtgeimklpcfepaaaDoor
