/- FindFromNoSort's inner loop: the best candidate, taken. -/
import Derived.Test.YtgeimklpcfepaaaDoorFindCode
import Derived.Deep.DeepCutAuto
import Derived.Deep.CutBlock
import Derived.Deep.CutRange
namespace Go.Proofs.YtgeimklpcfepaaaDoor
open Go.RowKit Go.Lib Go.Proofs.YtgeimklpcfepaaaDoorW.PrintWords Go.Proofs.YtgeimklpcfepaaaDoorW.PrintLast Go.Proofs.YtgeimklpcfepaaaDoorW.PrintMore
open P
set_option linter.unusedVariables false
set_option linter.unusedSimpArgs false

set_option maxHeartbeats 16000000 in
set_option maxRecDepth 1000000 in
theorem take (w w1 : World) (s : ByteArray) (W : List Int) (i : Int) (B : Nat) (u6 : Value) (L : List S49) (ad : Addr) (cR : Nat) (vM : Value) (st1 : St) (x15 np nc2 : Int) (hx15 : x15 = (st1.pi : Int)) (hpi : st1.pi < W.length) (hWL : W.length ≤ 1000) (hpm : st1.pi = st1.M.length) (hnp : nextP W st1.pi = np)
 (hM2 : Mem w w1 B s i st1.sc vM st1.M u6 L (.slice (some ad) W.length cR) W) (K : Act → World → Prop) (Q : Exit → Act → World → Prop) (u0 u1 u2 u3 u4 u7 u8 u9 u10 u13 u14 u18 u19 u20 u21 u22 u23 u24 u25 u26 u27 u28 u29 u30 u31 u32 u33 u34 u35 u36 u37 u38 u39 u40 u41 u42 u43 u44 u45 u46 u47 u48 u49 u50 u51 u52 u53 u54 u55 u56 u57 u58 u59 u60 u61 u62 u63 u64 u65 u66 u67 u68 u69 u70 u71 u72 u73 u74 u75 u76 u77 u78 u79 u80 u81 u82 u83 u84 u85 u86 u87 u88 u89 u90 u91 u92 u93 u94 u95 u96 u97 u98 u99 u100 u101 u102 u103 u104 u105 u106 u107 u108 u109 u110 u111 u112 u113 u114 u115 u116 u117 u118 u119 u120 u121 u122 u123 u124 u125 u126 u127 u128 u129 u130 u131 u132 u133 u134 u135 u136 u137 u138 u139 u140 u141 u142 u143 u144 u145 u146 u147 u148 u149 u150 u151 u152 u153 u154 u155 u156 u157 u158 u159 u160 u161 u162 u163 u164 u165 u166 u167 u168 u169 u170 u171 u172 u173 u174 u175 u176 u178 u179 u180 u181 u182 u183 u184 u185 u186 u187 u188 u189 u190 u191 u192 u193 u194 u195 u196 u197 u198 u199 u200 u201 u202 u203 u204 u205 u206 u207 u208 u209 u210 u211 u212 u213 u214 u215 u216 u217 u218 u219 u220 u221 u222 u223 u224 u225 u226 u227 u228 u229 : Value)
 (hK : ∀ (t14 t29 t72 t73 t74 t75 t76 t77 t78 t79 t80 t81 t82 t83 t84 t85 t86 t87 t88 t89 t90 t91 t92 t93 t94 t95 t96 t97 t98 t99 t100 t101 t102 t103 t104 t105 t106 t107 t108 t109 t110 t111 t112 t113 t114 t115 t116 t117 t118 t119 t120 t121 t122 t123 t124 t125 t126 t127 t128 t129 t130 t131 t132 t133 t134 t135 t136 t137 t138 t139 t140 t141 t142 t143 t144 t145 t146 t147 t148 t149 t150 t151 t152 t153 t154 t155 t156 t157 t158 t159 t160 t161 t162 t163 t164 t165 t166 t167 t168 t169 t170 t171 t172 t173 t174 t175 t176 t177 t178 t179 t180 t181 t182 t183 t184 t185 t186 t187 t188 t189 t190 t191 t192 t193 t194 t195 t196 t197 t198 t199 t200 t201 t202 t203 t204 vM2 : Value) (x15n : Int) (wx : World), x15n = ((takeS W nc2 st1).pi : Int) → Mem w wx B s i (takeS W nc2 st1).sc vM2 (takeS W nc2 st1).M u6 L (.slice (some ad) W.length cR) W → K ⟨List.toArray (u0 :: u1 :: u2 :: u3 :: u4 :: Value.slice (some ad) W.length cR :: u6 :: u7 :: u8 :: u9 :: u10 :: Value.pointer (some ⟨B, 0, none⟩) :: Value.string s :: u13 :: t14 :: Value.int .i64 x15n :: Value.int .i64 (takeS W nc2 st1).best :: Value.int .i64 st1.midx :: u18 :: u19 :: u20 :: u21 :: u22 :: u23 :: u24 :: u25 :: u26 :: u27 :: u28 :: t29 :: u30 :: u31 :: u32 :: u33 :: u34 :: u35 :: u36 :: u37 :: u38 :: u39 :: u40 :: u41 :: u42 :: u43 :: u44 :: u45 :: u46 :: u47 :: u48 :: u49 :: u50 :: u51 :: u52 :: u53 :: u54 :: u55 :: u56 :: u57 :: u58 :: u59 :: u60 :: u61 :: u62 :: u63 :: u64 :: u65 :: u66 :: u67 :: u68 :: u69 :: u70 :: u71 :: t72 :: t73 :: t74 :: t75 :: t76 :: t77 :: t78 :: t79 :: t80 :: t81 :: t82 :: t83 :: t84 :: t85 :: t86 :: t87 :: t88 :: t89 :: t90 :: t91 :: t92 :: t93 :: t94 :: t95 :: t96 :: t97 :: t98 :: t99 :: t100 :: t101 :: t102 :: t103 :: t104 :: t105 :: t106 :: t107 :: t108 :: t109 :: t110 :: t111 :: t112 :: t113 :: t114 :: t115 :: t116 :: t117 :: t118 :: t119 :: t120 :: t121 :: t122 :: t123 :: t124 :: t125 :: t126 :: t127 :: t128 :: t129 :: t130 :: t131 :: t132 :: t133 :: t134 :: t135 :: t136 :: t137 :: t138 :: t139 :: t140 :: t141 :: t142 :: t143 :: t144 :: t145 :: t146 :: t147 :: t148 :: t149 :: t150 :: t151 :: t152 :: t153 :: t154 :: t155 :: t156 :: t157 :: t158 :: t159 :: t160 :: t161 :: t162 :: t163 :: t164 :: t165 :: t166 :: t167 :: t168 :: t169 :: t170 :: t171 :: t172 :: t173 :: t174 :: t175 :: t176 :: t177 :: t178 :: t179 :: t180 :: t181 :: t182 :: t183 :: t184 :: t185 :: t186 :: t187 :: t188 :: t189 :: t190 :: t191 :: t192 :: t193 :: t194 :: t195 :: t196 :: t197 :: t198 :: t199 :: t200 :: t201 :: t202 :: t203 :: t204 :: u205 :: u206 :: u207 :: u208 :: u209 :: u210 :: u211 :: u212 :: u213 :: u214 :: u215 :: u216 :: u217 :: u218 :: u219 :: u220 :: u221 :: u222 :: u223 :: u224 :: u225 :: u226 :: u227 :: u228 :: u229 :: []), []⟩ wx) :
 Code.wp Tryd.prog takeCode (Exit.then K Q) ⟨List.toArray (u0 :: u1 :: u2 :: u3 :: u4 :: Value.slice (some ad) W.length cR :: u6 :: u7 :: u8 :: u9 :: u10 :: Value.pointer (some ⟨B, 0, none⟩) :: Value.string s :: u13 :: u14 :: Value.int .i64 x15 :: Value.int .i64 st1.best :: Value.int .i64 st1.midx :: u18 :: u19 :: u20 :: u21 :: u22 :: u23 :: u24 :: u25 :: u26 :: u27 :: u28 :: u29 :: u30 :: u31 :: u32 :: u33 :: u34 :: u35 :: u36 :: u37 :: u38 :: u39 :: u40 :: u41 :: u42 :: u43 :: u44 :: u45 :: u46 :: u47 :: u48 :: u49 :: u50 :: u51 :: u52 :: u53 :: u54 :: u55 :: u56 :: u57 :: u58 :: u59 :: u60 :: u61 :: u62 :: u63 :: u64 :: u65 :: u66 :: u67 :: u68 :: u69 :: u70 :: u71 :: u72 :: u73 :: u74 :: u75 :: u76 :: u77 :: u78 :: u79 :: u80 :: u81 :: u82 :: u83 :: u84 :: u85 :: u86 :: u87 :: u88 :: u89 :: u90 :: u91 :: u92 :: u93 :: u94 :: u95 :: u96 :: u97 :: u98 :: u99 :: u100 :: u101 :: u102 :: u103 :: u104 :: u105 :: u106 :: u107 :: u108 :: u109 :: u110 :: u111 :: u112 :: u113 :: u114 :: u115 :: u116 :: u117 :: u118 :: u119 :: u120 :: u121 :: u122 :: u123 :: u124 :: u125 :: u126 :: u127 :: u128 :: u129 :: u130 :: u131 :: u132 :: u133 :: u134 :: u135 :: u136 :: u137 :: u138 :: u139 :: u140 :: u141 :: u142 :: u143 :: u144 :: u145 :: u146 :: u147 :: u148 :: u149 :: u150 :: u151 :: u152 :: u153 :: u154 :: u155 :: u156 :: u157 :: u158 :: u159 :: u160 :: u161 :: u162 :: u163 :: u164 :: u165 :: u166 :: u167 :: u168 :: u169 :: u170 :: u171 :: u172 :: u173 :: u174 :: u175 :: u176 :: Value.bool (alikeB np nc2 || nc2 == 0) :: u178 :: u179 :: u180 :: u181 :: u182 :: u183 :: u184 :: u185 :: u186 :: u187 :: u188 :: u189 :: u190 :: u191 :: u192 :: u193 :: u194 :: u195 :: u196 :: u197 :: u198 :: u199 :: u200 :: u201 :: u202 :: u203 :: u204 :: u205 :: u206 :: u207 :: u208 :: u209 :: u210 :: u211 :: u212 :: u213 :: u214 :: u215 :: u216 :: u217 :: u218 :: u219 :: u220 :: u221 :: u222 :: u223 :: u224 :: u225 :: u226 :: u227 :: u228 :: u229 :: []), []⟩ w1 := by
 have HX15b := Aside0.mk hx15
 have HPI := Aside0.mk hpi
 have HPLW := Aside0.mk hWL
 have HPM := Aside0.mk hpm
 have HM2 := Aside0.mk hM2
 clear hx15 hpi hWL hpm hM2
 conv => arg 2; whnf
 cases hc : (alikeB np nc2 || nc2 == 0) with
 | false =>
  have ht : takeS W nc2 st1 = st1 := by unfold takeS; rw [hnp, hc]; rfl
  have HTT := Aside0.mk ht
  clear ht
  go_wp2
  rw [HTT.out] at hK
  apply hK
  · exact HX15b.out
  · exact HM2.out
 | true =>
  by_cases hm : st1.midx > -1
  · have hmb : decide (-1 < st1.midx) = true := decide_eq_true hm
    obtain ⟨AM, cM, eM⟩ := Kd.R_slice HM2.out.row
    subst eM
    obtain ⟨bx0, bx1, bx2, bx3⟩ := HM2.out.cells
    obtain ⟨scN, hscN⟩ : ∃ scN, wrap64 (st1.sc + bestS st1) = scN := ⟨_, rfl⟩
    have ht : takeS W nc2 st1 = { st1 with sc := scN, M := st1.M ++ [st1.midx], best := -1, pi := st1.pi + 1 } := by unfold takeS; rw [hnp, hc, if_pos rfl, if_pos hm, hscN]
    have HTT := Aside0.mk ht
    have HSCN := Aside0.mk hscN
    clear ht hscN
    go_upto_if 183 with fail
    go_cut [16, 29] from 72 to 204 (fun v16 v29 wd => v16 = .int .i64 (bestS st1) ∧ Aside0 (Mem w wd B s i st1.sc (.slice AM st1.M.length cM) st1.M u6 L (.slice (some ad) W.length cR) W))
    case first =>
     by_cases hMn : st1.M = []
     · have hl0 : st1.M.length = 0 := by rw [hMn]; rfl
       obtain ⟨pN, hpN⟩ : ∃ pN, wrap64 (st1.midx * -5) = pN := ⟨_, rfl⟩
       have hpw : IntKind.i64.wrap (st1.midx * -5) = pN := by rw [i64_w]; exact hpN
       obtain ⟨mN, hmN⟩ : ∃ mN, (if pN > -15 then pN else -15) = mN := ⟨_, rfl⟩
       have hmx : sahilm_max.f pN (-15) = some mN := by unfold sahilm_max.f; rw [← hmN]; split <;> rfl
       have HMX := Aside0.mk (fun W1 => sahilm_max.calls pN (-15) mN W1 hmx)
       obtain ⟨bN, hbN⟩ : ∃ bN, wrap64 (st1.best + mN) = bN := ⟨_, rfl⟩
       have hbw : IntKind.i64.wrap (st1.best + mN) = bN := by rw [i64_w]; exact hbN
       have hbs : bestS st1 = bN := by unfold bestS; rw [if_pos hMn, hpN, hmN, hbN]
       have HBS := Aside0.mk hbs
       clear hbs hmx hmN hMn
       go_wp2_with (go_at_call 39; (with_reducible refine (HMX.out _).mono ?_); rintro e w2 ⟨rfl, ⟨nd, rfl⟩⟩)
       go_meet
       case rel => exact ⟨by rw [HBS.out], ⟨Mem.move HM2.out (pw_below_drewN (Below.refl _ _) _)⟩⟩
     · have hl0 : ¬ st1.M.length = 0 := fun h => hMn (List.length_eq_zero_iff.1 h)
       have hl0b : ((st1.M.length : Int) == 0) = false := beq_eq_false_iff_ne.2 (by omega)
       have hbs : bestS st1 = st1.best := by unfold bestS; rw [if_neg hMn]
       have HBS := Aside0.mk hbs
       clear hbs hMn
       go_wp2
       go_meet
       case rel => exact ⟨by rw [HBS.out], HM2⟩
    case rest =>
     clear HM2 bx0 bx1 bx2 bx3
     obtain ⟨rfl, HM2⟩ := hcut
     obtain ⟨bx0, bx1, bx2, bx3⟩ := HM2.out.cells
     have fr3 := HM2.out.free 3
     have hscw : IntKind.i64.wrap (st1.sc + bestS st1) = scN := by rw [i64_w]; exact HSCN.out
     have HM3 := Mem.store3 HM2.out scN
     have hx15u : x15 ≤ 1000 := by have := HX15b.out; have := HPI.out; have := HPLW.out; omega
     have hx15l : 0 ≤ x15 := by have := HX15b.out; omega
     have HL1 : Aside0 (st1.M.length ≤ 1000) := ⟨by have := HPM.out; have := HPI.out; have := HPLW.out; omega⟩
     generalize bestS st1 = bS at hscw ⊢
     go_upto_region 66 with fail
     clear bx0 bx1 bx2 bx3 fr3
     generalize wc.setCell ⟨B, 3, none⟩ (Value.int .i64 scN) = wd at HM3 ⊢
     have HM3 := Aside0.mk HM3
     obtain ⟨bx0, bx1, bx2, bx3⟩ := HM3.out.cells
     go_wp2_with (first | ((with_reducible refine gate_builtin (b := .append) (xs := #[.tmp 196, .tmp 198]) rfl ?_); at_builtin; refine Kd.R_append (Kd.int .i64) (w0 := w) w.heap.size rfl (.tmp 196) (.tmp 198) 31 3 (.int .i64 0) 8 rfl Tryd.underlying31 info3 rfl (by decide) (by omega) (.slice AM st1.M.length cM) st1.M st1.midx [.int .i64 st1.midx] (fun _ => True) (fun _ => False) rfl rfl ?aP (fun _ hk => hk.elim) ?aF ?aO ?aB ?aS ?aL ?_; (case aP => exact rfl); (case aF => exact fun _ _ => trivial); (case aO => exact HM3.out.row); (case aB => exact HM3.out.below); (case aS => exact below_size HM3.out.below); (case aL => have := HL1.out; omega); intro v6 w6 ho hb hg hat; obtain ⟨hbox, hmem⟩ := Mem.append HM3.out ho hb hg hat; obtain ⟨Av, cv, ev0⟩ := Kd.R_slice ho; have ev : v6 = .slice Av (st1.M.length + 1) cv := (by rw [ev0, List.length_append]; rfl); clear ev0; (subst ev); have HM4 := Aside0.mk hmem; have bz2 := blk_cell hbox 2; have fz2 := blk_frozen hbox 2; clear hmem ho hb hg hat hbox))
     rw [HTT.out] at hK
     apply hK
     · have := HX15b.out; simp only; omega
     · exact HM4.out
  · have hmb : decide (-1 < st1.midx) = false := decide_eq_false hm
    have ht : takeS W nc2 st1 = st1 := by unfold takeS; rw [hnp, hc, if_pos rfl, if_neg hm]
    have HTT := Aside0.mk ht
    clear ht
    go_wp2
    rw [HTT.out] at hK
    apply hK
    · exact HX15b.out
    · exact HM2.out
end Go.Proofs.YtgeimklpcfepaaaDoor
