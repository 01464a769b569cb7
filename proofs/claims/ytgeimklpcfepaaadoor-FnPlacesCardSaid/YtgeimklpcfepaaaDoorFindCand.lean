/- FindFromNoSort's inner loop: the candidate. -/
import Derived.Test.YtgeimklpcfepaaaDoorFindCode
import Derived.Deep.DeepCutAuto
import Derived.Deep.CutBlock
import Derived.Deep.CutRange
namespace Go.Proofs.YtgeimklpcfepaaaDoor
open Go.RowKit Go.Lib Go.Proofs.YtgeimklpcfepaaaDoorW.PrintWords Go.Proofs.YtgeimklpcfepaaaDoorW.PrintLast Go.Proofs.YtgeimklpcfepaaaDoorW.PrintMore
open P
set_option linter.unusedVariables false
set_option linter.unusedSimpArgs false

set_option maxHeartbeats 16000000 in
set_option maxRecDepth 1000000 in
theorem cand (w w1 : World) (s : ByteArray) (W : List Int) (i : Int) (B : Nat) (u6 : Value) (L : List S49) (ad : Addr) (cR : Nat) (vM : Value) (st : St) (x15 x25 nc nz : Int) (hA : Amb w) (hokn : okR nc) (hlr : okR st.last) (hpm : st.M.length ≤ 1000) (hrd : rd W x15 = W.getD st.pi 0)
 (hM1 : Mem w w1 B s i st.sc vM st.M u6 L (.slice (some ad) W.length cR) W) (K : Act → World → Prop) (Q : Exit → Act → World → Prop) (u0 u1 u2 u3 u4 u7 u8 u9 u10 u13 u14 u26 u27 u28 u29 u30 u31 u32 u33 u34 u35 u36 u37 u38 u39 u40 u41 u42 u43 u44 u45 u46 u47 u48 u49 u50 u51 u52 u53 u54 u55 u56 u57 u58 u59 u60 u61 u62 u63 u64 u65 u66 u67 u68 u69 u70 u71 u72 u73 u74 u75 u76 u77 u78 u79 u80 u81 u82 u83 u84 u85 u87 u88 u89 u90 u91 u92 u93 u94 u95 u96 u97 u98 u99 u100 u101 u102 u103 u104 u105 u106 u107 u108 u109 u110 u111 u112 u113 u114 u115 u116 u117 u118 u119 u120 u121 u122 u123 u124 u125 u126 u127 u128 u129 u130 u131 u132 u133 u134 u135 u136 u137 u138 u139 u140 u141 u142 u143 u144 u145 u146 u147 u148 u149 u150 u151 u152 u153 u154 u155 u156 u157 u158 u159 u160 u161 u162 u163 u164 u165 u166 u167 u168 u169 u170 u171 u172 u173 u174 u175 u176 u177 u178 u179 u180 u181 u182 u183 u184 u185 u186 u187 u188 u189 u190 u191 u192 u193 u194 u195 u196 u197 u198 u199 u200 u201 u202 u203 u204 u205 u206 u207 u208 u209 u210 u211 u212 u213 u214 u215 u216 u217 u218 u219 u220 u221 u222 u223 u224 u225 u226 u227 u228 u229 : Value)
 (hK : ∀ (t14 t26 t27 t72 t73 t74 t75 t76 t77 t78 t79 t80 t81 t82 t83 t84 t85 t86 t87 t88 t89 t90 t91 t92 t93 t94 t95 t96 t97 t98 t99 t100 t101 t102 t103 t104 t105 t106 t107 t108 t109 t110 t111 t112 t113 t114 t115 t116 t117 t118 t119 t120 t121 t122 t123 t124 t125 t126 t127 t128 t129 t130 t131 t132 t133 t134 t135 t136 t137 t138 t139 t140 t141 t142 t143 t144 t145 t146 t147 t148 t149 t150 t151 t152 t153 t154 t155 t156 t157 t158 t159 t160 t161 t162 t163 t164 t165 t166 t167 t168 t169 t170 t171 t172 t173 t174 t175 t176 t177 t178 t179 t180 t181 t182 t183 t184 t185 t186 t187 t188 t189 t190 t191 t192 t193 t194 t195 t196 t197 t198 t199 t200 t201 t202 t203 t204 : Value) (wx : World), Mem w wx B s i st.sc vM st.M u6 L (.slice (some ad) W.length cR) W → K ⟨List.toArray (u0 :: u1 :: u2 :: u3 :: u4 :: Value.slice (some ad) W.length cR :: u6 :: u7 :: u8 :: u9 :: u10 :: Value.pointer (some ⟨B, 0, none⟩) :: Value.string s :: u13 :: t14 :: Value.int .i64 x15 :: Value.int .i64 (candS W x25 nc st).best :: Value.int .i64 (candS W x25 nc st).midx :: Value.int .i64 (candS W x25 nc st).curr :: Value.int .i32 st.last :: Value.int .i64 st.lastI :: Value.int .i32 nc :: Value.int .i64 nz :: Value.int .i32 nc :: Value.int .i64 nz :: Value.int .i64 x25 :: t26 :: t27 :: u28 :: u29 :: u30 :: u31 :: u32 :: u33 :: u34 :: u35 :: u36 :: u37 :: u38 :: u39 :: u40 :: u41 :: u42 :: u43 :: u44 :: u45 :: u46 :: u47 :: u48 :: u49 :: u50 :: u51 :: u52 :: u53 :: u54 :: u55 :: u56 :: u57 :: u58 :: u59 :: u60 :: u61 :: u62 :: u63 :: u64 :: u65 :: u66 :: u67 :: u68 :: u69 :: u70 :: u71 :: t72 :: t73 :: t74 :: t75 :: t76 :: t77 :: t78 :: t79 :: t80 :: t81 :: t82 :: t83 :: t84 :: t85 :: t86 :: t87 :: t88 :: t89 :: t90 :: t91 :: t92 :: t93 :: t94 :: t95 :: t96 :: t97 :: t98 :: t99 :: t100 :: t101 :: t102 :: t103 :: t104 :: t105 :: t106 :: t107 :: t108 :: t109 :: t110 :: t111 :: t112 :: t113 :: t114 :: t115 :: t116 :: t117 :: t118 :: t119 :: t120 :: t121 :: t122 :: t123 :: t124 :: t125 :: t126 :: t127 :: t128 :: t129 :: t130 :: t131 :: t132 :: t133 :: t134 :: t135 :: t136 :: t137 :: t138 :: t139 :: t140 :: t141 :: t142 :: t143 :: t144 :: t145 :: t146 :: t147 :: t148 :: t149 :: t150 :: t151 :: t152 :: t153 :: t154 :: t155 :: t156 :: t157 :: t158 :: t159 :: t160 :: t161 :: t162 :: t163 :: t164 :: t165 :: t166 :: t167 :: t168 :: t169 :: t170 :: t171 :: t172 :: t173 :: t174 :: t175 :: t176 :: t177 :: t178 :: t179 :: t180 :: t181 :: t182 :: t183 :: t184 :: t185 :: t186 :: t187 :: t188 :: t189 :: t190 :: t191 :: t192 :: t193 :: t194 :: t195 :: t196 :: t197 :: t198 :: t199 :: t200 :: t201 :: t202 :: t203 :: t204 :: u205 :: u206 :: u207 :: u208 :: u209 :: u210 :: u211 :: u212 :: u213 :: u214 :: u215 :: u216 :: u217 :: u218 :: u219 :: u220 :: u221 :: u222 :: u223 :: u224 :: u225 :: u226 :: u227 :: u228 :: u229 :: []), []⟩ wx) :
 Code.wp Tryd.prog candCode (Exit.then K Q) ⟨List.toArray (u0 :: u1 :: u2 :: u3 :: u4 :: Value.slice (some ad) W.length cR :: u6 :: u7 :: u8 :: u9 :: u10 :: Value.pointer (some ⟨B, 0, none⟩) :: Value.string s :: u13 :: u14 :: Value.int .i64 x15 :: Value.int .i64 st.best :: Value.int .i64 st.midx :: Value.int .i64 st.curr :: Value.int .i32 st.last :: Value.int .i64 st.lastI :: Value.int .i32 nc :: Value.int .i64 nz :: Value.int .i32 nc :: Value.int .i64 nz :: Value.int .i64 x25 :: u26 :: u27 :: u28 :: u29 :: u30 :: u31 :: u32 :: u33 :: u34 :: u35 :: u36 :: u37 :: u38 :: u39 :: u40 :: u41 :: u42 :: u43 :: u44 :: u45 :: u46 :: u47 :: u48 :: u49 :: u50 :: u51 :: u52 :: u53 :: u54 :: u55 :: u56 :: u57 :: u58 :: u59 :: u60 :: u61 :: u62 :: u63 :: u64 :: u65 :: u66 :: u67 :: u68 :: u69 :: u70 :: u71 :: u72 :: u73 :: u74 :: u75 :: u76 :: u77 :: u78 :: u79 :: u80 :: u81 :: u82 :: u83 :: u84 :: u85 :: Value.bool (alikeB nc (rd W x15)) :: u87 :: u88 :: u89 :: u90 :: u91 :: u92 :: u93 :: u94 :: u95 :: u96 :: u97 :: u98 :: u99 :: u100 :: u101 :: u102 :: u103 :: u104 :: u105 :: u106 :: u107 :: u108 :: u109 :: u110 :: u111 :: u112 :: u113 :: u114 :: u115 :: u116 :: u117 :: u118 :: u119 :: u120 :: u121 :: u122 :: u123 :: u124 :: u125 :: u126 :: u127 :: u128 :: u129 :: u130 :: u131 :: u132 :: u133 :: u134 :: u135 :: u136 :: u137 :: u138 :: u139 :: u140 :: u141 :: u142 :: u143 :: u144 :: u145 :: u146 :: u147 :: u148 :: u149 :: u150 :: u151 :: u152 :: u153 :: u154 :: u155 :: u156 :: u157 :: u158 :: u159 :: u160 :: u161 :: u162 :: u163 :: u164 :: u165 :: u166 :: u167 :: u168 :: u169 :: u170 :: u171 :: u172 :: u173 :: u174 :: u175 :: u176 :: u177 :: u178 :: u179 :: u180 :: u181 :: u182 :: u183 :: u184 :: u185 :: u186 :: u187 :: u188 :: u189 :: u190 :: u191 :: u192 :: u193 :: u194 :: u195 :: u196 :: u197 :: u198 :: u199 :: u200 :: u201 :: u202 :: u203 :: u204 :: u205 :: u206 :: u207 :: u208 :: u209 :: u210 :: u211 :: u212 :: u213 :: u214 :: u215 :: u216 :: u217 :: u218 :: u219 :: u220 :: u221 :: u222 :: u223 :: u224 :: u225 :: u226 :: u227 :: u228 :: u229 :: []), []⟩ w1 := by
 have HAMB := Aside0.mk hA
 have HOKN := Aside0.mk hokn
 have HLR := Aside0.mk hlr
 have HPM := Aside0.mk hpm
 have HRD := Aside0.mk hrd
 have HM1 := Aside0.mk hM1
 clear hA hokn hlr hpm hrd hM1
 conv => arg 2; whnf
 cases he : alikeB nc (rd W x15) with
 | false =>
  have hc : candS W x25 nc st = st := by unfold candS; rw [← HRD.out, he]; rfl
  rw [hc] at hK
  clear hc
  go_wp2
  all_goals first | exact HM1.out | (apply hK; exact HM1.out)
 | true =>
  obtain ⟨bx0, bx1, bx2, bx3⟩ := HM1.out.cells
  clear bx0 bx1 bx2 bx3
  have HLOW := Aside0.mk (fun (W1 : World) (h : Mem w W1 B s i st.sc vM st.M u6 L (.slice (some ad) W.length cR) W) => low_calls st.last HLR.out W1 (Amb.below HAMB.out h.below))
  have HUP := Aside0.mk (fun (W1 : World) (h : Mem w W1 B s i st.sc vM st.M u6 L (.slice (some ad) W.length cR) W) => up_calls nc HOKN.out W1 (Amb.below HAMB.out h.below))
  have HSEP := Aside0.mk (fun (W1 : World) => sep_calls st.last W1)
  have HHE := Aside0.mk he
  go_upto_if 88 with fail
  go_cut [14] from 72 to 204 (fun v14 wc => ∃ sA : Int, v14 = .int .i64 sA ∧ 0 ≤ sA ∧ sA ≤ 10 ∧ Aside0 (sA = if x25 = 0 then 10 else 0) ∧ Aside0 (Mem w wc B s i st.sc vM st.M u6 L (.slice (some ad) W.length cR) W))
  case first =>
   by_cases hz : x25 = 0
   · have hzb : (x25 == 0) = true := beq_iff_eq.2 hz
     go_wp2
     go_meet
     case rel => exact ⟨10, rfl, by omega, by omega, ⟨by rw [if_pos hz]⟩, HM1⟩
   · have hzb : (x25 == 0) = false := beq_eq_false_iff_ne.2 hz
     go_wp2
     go_meet
     case rel => exact ⟨0, rfl, by omega, by omega, ⟨by rw [if_neg hz]⟩, HM1⟩
  case rest =>
   clear HM1
   obtain ⟨sA, rfl, sA0, sA1, HSA, HM2⟩ := hcut
   go_upto_region 40 with fail
   go_cut [93, 95, 96] from 72 to 204 (fun v93 v95 v96 wc => v96 = .bool (isLowerU st.last && isUpperU nc) ∧ Aside0 (Mem w wc B s i st.sc vM st.M u6 L (.slice (some ad) W.length cR) W))
   case first =>
    cases hlo : isLowerU st.last with
    | false =>
     have hL := Aside0.mk (HLOW.out _ HM2.out)
     rw [hlo] at hL
     go_wp2_with (go_at_call 35; (with_reducible refine hL.out.mono ?_); rintro e w2 ⟨rfl, hb2⟩; have HM3 := Aside0.mk (Mem.move HM2.out hb2); clear hb2)
     go_meet
     case rel => exact ⟨by rw [hlo]; rfl, HM3⟩
    | true =>
     have hL := Aside0.mk (HLOW.out _ HM2.out)
     rw [hlo] at hL
     go_wp2_with (first | (go_at_call 35; (with_reducible refine hL.out.mono ?_); rintro e w2 ⟨rfl, hb2⟩; have HM3 := Aside0.mk (Mem.move HM2.out hb2); clear hb2) | (go_at_call 36; (with_reducible refine (HUP.out _ HM3.out).mono ?_); rintro e w3 ⟨rfl, hb3⟩; have HM4 := Aside0.mk (Mem.move HM3.out hb3); clear hb3))
     go_meet
     case rel => exact ⟨by rw [hlo]; rfl, HM4⟩
   case rest =>
    clear HM2
    obtain ⟨rfl, HM2⟩ := hcut
    go_upto_if 96 with fail
    go_cut [14] from 72 to 204 (fun v14 wc => ∃ sB : Int, v14 = .int .i64 sB ∧ 0 ≤ sB ∧ sB ≤ 30 ∧ Aside0 (sB = (if x25 = 0 then 10 else 0) + (if (isLowerU st.last && isUpperU nc) = true then 20 else 0)) ∧ Aside0 (Mem w wc B s i st.sc vM st.M u6 L (.slice (some ad) W.length cR) W))
    case first =>
     cases hlu : (isLowerU st.last && isUpperU nc) with
     | true =>
      go_wp2
      go_meet
      case rel => exact ⟨sA + 20, by first | rfl | (simp; done), by omega, by omega, ⟨by rw [HSA.out, hlu]; rfl⟩, HM2⟩
     | false =>
      go_wp2
      go_meet
      case rel => exact ⟨sA, rfl, by omega, by omega, ⟨by rw [HSA.out, hlu]; simp⟩, HM2⟩
    case rest =>
     clear HM2 HSA sA0 sA1
     obtain ⟨sB, rfl, sB0, sB1, HSB, HM2⟩ := hcut
     go_upto_region 42 with fail
     go_cut [101, 103, 104] from 72 to 204 (fun v101 v103 v104 wc => v104 = .bool (decide (x25 ≠ 0 ∧ sepR st.last = true)) ∧ Aside0 (Mem w wc B s i st.sc vM st.M u6 L (.slice (some ad) W.length cR) W))
     case first =>
      by_cases hz : x25 = 0
      · have hzb : (x25 != 0) = false := by simp [hz]
        go_wp2
        go_meet
        case rel => exact ⟨by simp [hz], HM2⟩
      · have hzb : (x25 != 0) = true := bne_iff_ne.2 hz
        have hS := Aside0.mk (HSEP.out wc)
        go_wp2_with (go_at_call 37; (with_reducible refine (HSEP.out _).mono ?_); rintro e w2 ⟨rfl, hb2⟩; have HM3 := Aside0.mk (Mem.move HM2.out hb2); clear hb2)
        go_meet
        case rel => exact ⟨by simp [hz], HM3⟩
     case rest =>
      clear HM2
      obtain ⟨rfl, HM2⟩ := hcut
      go_upto_if 104 with fail
      go_cut [14] from 72 to 204 (fun v14 wc => ∃ sC : Int, v14 = .int .i64 sC ∧ 0 ≤ sC ∧ sC ≤ 50 ∧ Aside0 (sC = baseS x25 st.last nc) ∧ Aside0 (Mem w wc B s i st.sc vM st.M u6 L (.slice (some ad) W.length cR) W))
      case first =>
       cases hlu : decide (x25 ≠ 0 ∧ sepR st.last = true) with
       | true =>
        have hlu2 := of_decide_eq_true hlu
        go_wp2
        go_meet
        case rel => exact ⟨sB + 20, by first | rfl | (simp; done), by omega, by omega, ⟨by unfold baseS; rw [HSB.out, if_pos hlu2]; omega⟩, HM2⟩
       | false =>
        have hlu2 := of_decide_eq_false hlu
        go_wp2
        go_meet
        case rel => exact ⟨sB, rfl, by omega, by omega, ⟨by unfold baseS; rw [HSB.out, if_neg hlu2]; omega⟩, HM2⟩
      case rest =>
       clear HM2 HSB sB0 sB1
       obtain ⟨sC, rfl, sC0, sC1, HSC, HM2⟩ := hcut
       obtain ⟨AM, cM, eM⟩ := Kd.R_slice HM2.out.row
       subst eM
       obtain ⟨bx0, bx1, bx2, bx3⟩ := HM2.out.cells
       have hcd : (alikeB nc (W.getD st.pi 0)) = true := by rw [← HRD.out]; exact HHE.out
       have HCD := Aside0.mk hcd
       clear hcd
       by_cases hMn : st.M = []
       · have hl0 : st.M.length = 0 := by rw [hMn]; rfl
         have hsc : scoreS x25 nc st = sC := by unfold scoreS; rw [if_pos hMn, HSC.out]
         have hcu : currS st = st.curr := by unfold currS; rw [if_pos hMn]
         by_cases hgt : sC > st.best
         · have hc : candS W x25 nc st = { st with best := sC, midx := x25, curr := st.curr } := by unfold candS; rw [if_pos HCD.out, hsc, hcu, if_pos hgt]
           have hgb : decide (st.best < sC) = true := decide_eq_true hgt
           have HC9 := Aside0.mk hc
           clear hc hsc hcu hMn
           go_wp2
           rw [HC9.out] at hK
           apply hK
           exact HM2.out
         · have hc : candS W x25 nc st = { st with curr := st.curr } := by unfold candS; rw [if_pos HCD.out, hsc, hcu, if_neg hgt]
           have hgb : decide (st.best < sC) = false := decide_eq_false hgt
           have HC9 := Aside0.mk hc
           clear hc hsc hcu hMn
           go_wp2
           rw [HC9.out] at hK
           apply hK
           exact HM2.out
       · have hl0 : 0 < st.M.length := List.length_pos_iff.2 hMn
         have hl1 : st.M.length ≤ 1000 := HPM.out
         obtain ⟨q, hq⟩ : ∃ q : Int, (st.M.length : Int) - 1 = q := ⟨_, rfl⟩
         have q0 : 0 ≤ q := by omega
         have q1 : q < (st.M.length : Int) := by omega
         obtain ⟨adm, em, hxm⟩ := Kd.at_int (Kd.R_reads' HM2.out.row).2.2 q q0 q1
         cases em
         have hrm : rd st.M q = st.M.getLastD 0 := by
          unfold rd
          rw [← hq, show ((st.M.length : Int) - 1).toNat = st.M.length - 1 by omega, List.getLastD_eq_getLast?, List.getLast?_eq_getElem?, List.getD_eq_getElem?_getD]
         rw [hrm] at hxm
         have hadj : sahilm_adjacentCharBonus.f st.lastI (st.M.getLastD 0) st.curr = some (bonusS st.M st.lastI st.curr) := by
          unfold sahilm_adjacentCharBonus.f bonusS
          split <;> rfl
         have HADJ := Aside0.mk (fun W1 => sahilm_adjacentCharBonus.calls _ _ _ _ W1 hadj)
         have hsc : scoreS x25 nc st = wrap64 (sC + bonusS st.M st.lastI st.curr) := by unfold scoreS; rw [if_neg hMn, HSC.out]
         have hcu : currS st = wrap64 (st.curr + bonusS st.M st.lastI st.curr) := by unfold currS; rw [if_neg hMn]
         have HSCC := Aside0.mk hsc
         have HCU := Aside0.mk hcu
         generalize st.M.getLastD 0 = lm at hxm HADJ
         generalize bonusS st.M st.lastI st.curr = bo at HADJ HSCC HCU
         obtain ⟨sN, hsN⟩ : ∃ sN, wrap64 (sC + bo) = sN := ⟨_, rfl⟩
         obtain ⟨cN, hcN⟩ : ∃ cN, wrap64 (st.curr + bo) = cN := ⟨_, rfl⟩
         have hsNw : IntKind.i64.wrap (sC + bo) = sN := by rw [i64_w]; exact hsN
         have hcNw : IntKind.i64.wrap (st.curr + bo) = cN := by rw [i64_w]; exact hcN
         have hqw : IntKind.i64.wrap ((st.M.length : Int) - 1) = q := by rw [i64_w]; unfold wrap64; omega
         have HQ := Aside0.mk hq
         replace q0 := eq_true q0
         replace q1 := eq_true q1
         clear hsc hcu hrm hadj hq
         by_cases hgt : sN > st.best
         · have hc : candS W x25 nc st = { st with best := sN, midx := x25, curr := cN } := by unfold candS; rw [if_pos HCD.out, HSCC.out, HCU.out, hsN, hcN, if_pos hgt]
           have hgb : decide (st.best < sN) = true := decide_eq_true hgt
           have HC9 := Aside0.mk hc
           clear hc hMn
           go_wp2_with (go_at_call 38; (with_reducible refine (HADJ.out _).mono ?_); rintro e w2 ⟨rfl, ⟨nd, rfl⟩⟩)
           rw [HC9.out] at hK
           apply hK
           exact Mem.move HM2.out (pw_below_drewN (Below.refl _ _) _)
         · have hc : candS W x25 nc st = { st with curr := cN } := by unfold candS; rw [if_pos HCD.out, HSCC.out, HCU.out, hsN, hcN, if_neg hgt]
           have hgb : decide (st.best < sN) = false := decide_eq_false hgt
           have HC9 := Aside0.mk hc
           clear hc hMn
           go_wp2_with (go_at_call 38; (with_reducible refine (HADJ.out _).mono ?_); rintro e w2 ⟨rfl, ⟨nd, rfl⟩⟩)
           rw [HC9.out] at hK
           apply hK
           exact Mem.move HM2.out (pw_below_drewN (Below.refl _ _) _)
end Go.Proofs.YtgeimklpcfepaaaDoor
