/- What the rows of this seat's laws have in common: the world of the witness (the eight variables laid), what the listed variables give. -/
import Derived.Test.YtgeimklpcfepaaaDoorCards
import Derived.Test.YtgeimklpcfepaaaDoorTie
import Derived.Test.YtgeimklpcfepaaaDoorBase
import Derived.Test.YtgeimklpcfepaaaDoorShelf
import Derived.WalkKit
import Derived.ProofKit
import Derived.OpenShut
import Derived.ShutString
import Derived.SliceStrings
import Derived.Deep.DeepHandedRow
import Derived.Deep.DeepWitnessRowRef
import Derived.Lib.LaidTab
import Derived.Lib.LaidIn
import Derived.Lib.LaidU8
import Derived.Lib.LaidRTab
import Derived.Lib.LaidCaseMet
import Derived.Great.CaseRows
import Derived.PinnedBridge
namespace Go.Proofs.YtgeimklpcfepaaaDoor
open Go.ChangeShapes Go.WideShapes Go.ChangeAt Go.RowKit Go.Shelf Go.Lib Go.Great
set_option linter.unusedVariables false

theorem own : ownKnob Tryd.prog.godebug = none := by kernel_rfl
theorem laidOut : laidOutB Tryd.prog = true := by kernel_rfl
theorem rExtra : RExtra Tryd.prog Tryd.lays261_ren := ⟨by kernel_rfl, by kernel_rfl, by kernel_rfl, by kernel_rfl, by kernel_rfl, by kernel_rfl, by kernel_rfl, by kernel_rfl⟩
theorem u8Extra : U8Extra Tryd.prog Tryd.lays260_ren := ⟨by kernel_rfl, by kernel_rfl, by kernel_rfl, by kernel_rfl, by kernel_rfl, by kernel_rfl, by kernel_rfl⟩
theorem caseTypes : CTypes Tryd.prog 74 84 82 77 21 := ⟨by kernel_rfl, by kernel_rfl, by kernel_rfl, by kernel_rfl, by kernel_rfl, by kernel_rfl, by kernel_rfl, by kernel_rfl, by kernel_rfl⟩
/-- The data, as plain lists. -/
def orbitData : DataW Unit := .slice (orbitL.map fun x => .agg ([x.1, x.2].map fun z => .lit (.int .u16 z))) []
theorem accept_eq : (Rows.laid_unicode_utf8_acceptRanges : DataW Unit) = acceptData := by kernel_rfl
theorem props_eq : (Rows.laid_unicode_properties : DataW Unit) = tabData .u8 propertiesTab := by kernel_rfl
theorem ascii_eq : (Rows.laid_unicode_asciiFold : DataW Unit) = tabData .u16 asciiFoldL := by kernel_rfl
theorem orbit_eq : (Rows.laid_unicode_caseOrbit : DataW Unit) = orbitData := by kernel_rfl

theorem tabIs_of_reads {W : World} {name : String} {k : IntKind} {zs : List Int} {g : Nat} {t e : TypeId} {n : Nat}
    (hg : Tryd.prog.globalNamed name = some g) (hty : (Tryd.prog.globals[g]?).map (·.type) = some t) (ht : Tryd.prog.underlying t = some (.array n e)) (he : Tryd.prog.underlying e = some (.int k)) (hce : Tryd.prog.cellsOf e = 1) (hct : Tryd.prog.cellsOf t = n)
    (h : VarReads Tryd.prog W name (tabData k zs)) : TabIs Tryd.prog W name k zs := by
  obtain ⟨g', t', cs, fuel, p, hg', ht', hvar, hd⟩ := h
  obtain rfl := Option.some.inj (hg.symm.trans hg')
  obtain rfl := Option.some.inj (hty.symm.trans ht')
  unfold TabIs
  rw [hvar, ← cells_of_tab ht he hce hct hd]
theorem orbitL_length : orbitL.length = 94 := by decide
theorem orbit_of_reads {w : World} (h : VarReads Tryd.prog w "unicode.caseOrbit" orbitData) : ∃ R oR cap, w.cell? ⟨1, 0, none⟩ = some (.slice (some ⟨R, oR, none⟩) 94 cap) ∧ ∀ i : Nat, i < 94 → w.cell? ⟨R, oR + i * 2, none⟩ = some (.int .u16 (orbitL.getD i (0, 0)).1) ∧ w.cell? ⟨R, oR + i * 2 + 1, none⟩ = some (.int .u16 (orbitL.getD i (0, 0)).2) := by
  obtain ⟨g, t, cs, fuel, p, hg, ht, hvar, hd⟩ := h
  obtain rfl := Option.some.inj ((show Tryd.prog.globalNamed "unicode.caseOrbit" = some 1 by kernel_rfl).symm.trans hg)
  obtain rfl := Option.some.inj ((show (Tryd.prog.globals[1]?).map (·.type) = some 68 by kernel_rfl).symm.trans ht)
  have c71 : Tryd.prog.cellsOf 71 = 2 := by kernel_rfl
  have c66 : Tryd.prog.cellsOf 66 = 1 := by kernel_rfl
  rcases DataW.trod_slice Tryd.underlying68 hd with ⟨hcs, hx'⟩ | ⟨a', len, cap, el, rs, m, hcs, hc0, hx', _, hlc, _, hel, helem, hsp, _⟩
  · exact absurd (congrArg Prod.fst hx') (by simp [orbitData])
  · have hx' : orbitData = _ := congrArg Prod.fst hx'
    unfold orbitData at hx'
    simp only [DataW.slice.injEq] at hx'
    obtain ⟨eE, _⟩ := hx'
    have hlen : len = 94 := by
      have := congrArg List.length eE
      simp [orbitL_length] at this
      omega
    subst hlen
    have hrange : ∀ i, i < 94 → ∀ j, j < 2 → w.cell? ((a'.add (i * 2)).add j) = ([.int .u16 (orbitL.getD i (0, 0)).1, .int .u16 (orbitL.getD i (0, 0)).2] : List Value)[j]? := by
      intro i hi j hj
      have h1 := helem i hi
      rw [c71] at h1
      obtain ⟨b, hb⟩ : ∃ b, el[i]? = some b := ⟨el[i]'(by omega), List.getElem?_eq_getElem (by omega)⟩
      rw [hb] at h1
      obtain ⟨ce, hce, hte⟩ := Option.bind_eq_some_iff.1 h1
      have hb1 : b.1 = .agg ([(orbitL.getD i (0, 0)).1, (orbitL.getD i (0, 0)).2].map fun z => .lit (.int .u16 z)) := by
        have := congrArg (·[i]?) eE
        have hio : i < orbitL.length := by rw [orbitL_length]; exact hi
        simp [hb, hio] at this
        rw [← this]
        simp [List.getD_eq_getElem?_getD, hio]
      have hcs2 := ints_of_struct (p := b.2) Tryd.underlying71 (fun q f hq => by
        match q, hq with
        | 0, hq => simp at hq; subst hq; exact ⟨Tryd.underlying66, rfl, c66⟩
        | 1, hq => simp at hq; subst hq; exact ⟨Tryd.underlying66, rfl, c66⟩
        | q + 2, hq => simp at hq) (by rw [c71]; rfl) (by rw [← hb1]; exact hte)
      obtain ⟨_, _, hcc⟩ := World.cells?_some hce
      rw [hcc j hj, hcs2]
      rfl
    obtain ⟨R, o, sR⟩ := a'
    obtain rfl : sR = none := by
      have h00 := hrange 0 (by omega) 0 (by omega)
      have : (Addr.add (Addr.add ⟨R, o, sR⟩ (0 * 2)) 0) = ⟨R, o, sR⟩ := by simp [Addr.add]
      rw [this] at h00
      exact cell_spot h00
    refine ⟨R, o, cap, ?_, fun i hi => ?_⟩
    · have h9 : w.var? Tryd.prog "unicode.caseOrbit" = some #[.slice (some ⟨R, o, none⟩) 94 cap] := by
        rw [hvar]
        exact congrArg some (Array.ext' hc0)
      exact World.var?_cell (show Tryd.prog.globalNamed "unicode.caseOrbit" = some 1 by kernel_rfl) h9 0
    · have k0 := hrange i hi 0 (by omega)
      have k1 := hrange i hi 1 (by omega)
      rw [Addr.add_lit, Addr.add_lit] at k0 k1
      exact ⟨by simpa using k0, by simpa using k1⟩

def caseRen : Go.Shelf.Ren := ⟨Tryd.lays274_ren.f, fun | 162 => 74 | n => Tryd.lays274_ren.t n, fun | 13 => 2 | n => n⟩
theorem caseLays : Lays.n274 Tryd.prog caseRen := { Tryd.lays274 with }
theorem caseExtra : CaseExtra Tryd.prog caseRen := ⟨by kernel_rfl, by kernel_rfl, by kernel_rfl, by kernel_rfl, by kernel_rfl, by kernel_rfl⟩
noncomputable abbrev N0 : Nat := (World.settled Tryd.prog default).heap.size
/-- THE WITNESS's WORLD: the settled one with eight blocks more, the eight variables holding what their initialisers lay. -/
noncomputable def laidWorld (os : Os) : World :=
  let N := (World.settled Tryd.prog os).heap.size
  let ρ := Tryd.lays261_ren
  let w0 := World.holding Tryd.prog os ⟨#[
    .cells (rgCells .u16 lowerT.r16) (ρ.t 198), .cells (rgCells .u32 lowerT.r32) (ρ.t 201),
    .cells #[.slice (some ⟨N, 0, none⟩) lowerT.r16.size lowerT.r16.size, .slice (some ⟨N + 1, 0, none⟩) lowerT.r32.size lowerT.r32.size, .int .i64 lowerT.off] (ρ.t 196),
    .cells (rgCells .u16 upperT.r16) (ρ.t 198), .cells (rgCells .u32 upperT.r32) (ρ.t 201),
    .cells #[.slice (some ⟨N + 3, 0, none⟩) upperT.r16.size upperT.r16.size, .slice (some ⟨N + 4, 0, none⟩) upperT.r32.size upperT.r32.size, .int .i64 upperT.off] (ρ.t 196),
    .cells (caseT.flatMap cells5).toArray 84,
    .cells (orbitL.flatMap fun x => [Value.int .u16 x.1, Value.int .u16 x.2]).toArray 71], #[], []⟩
  let put (h : Array Obj) (g : Nat) (cs : Array Value) : Array Obj := h.modify g fun
    | .cells _ t frozen => .cells cs t frozen
    | o => o
  let h0 := put w0.heap 0 (asciiFoldL.map fun z => Value.int .u16 z).toArray
  let h1 := put h0 1 #[.slice (some ⟨N + 7, 0, none⟩) 94 94]
  let h2 := put h1 2 #[.slice (some ⟨N + 6, 0, none⟩) 336 336]
  let h3 := put h2 3 (Lib.propertiesTab.map fun z => Value.int .u8 z).toArray
  let h4 := put h3 4 #[.pointer (some ⟨N + 2, 0, none⟩)]
  let h5 := put h4 5 #[.pointer (some ⟨N + 5, 0, none⟩)]
  let h6 := put h5 6 (Lib.firstTab.map fun z => Value.int .u8 z).toArray
  let h7 := put h6 7 ((List.range 16).flatMap fun i => [Value.int .u8 (Lib.accLo i), Value.int .u8 (Lib.accHi i)]).toArray
  { w0 with heap := h7 }
theorem piece0 (os : Os) (args : Array Value) : LaidIn Tryd.prog ((laidWorld os).forCall (fun _ _ => 0) ⟨#[], args, []⟩).memory [("unicode/utf8.acceptRanges", acceptData), ("unicode.properties", tabData .u8 propertiesTab), ("unicode.asciiFold", tabData .u16 asciiFoldL), ("unicode.caseOrbit", orbitData)] [7, 3, 0, 1, N0 + 7] :=
  LaidIn.of_run [7, 3, 0, 1, N0 + 7] 8 (by kernel_rfl) (by kernel_rfl) (by kernel_rfl) (by kernel_rfl)
theorem piece1 (os : Os) (args : Array Value) : LaidIn Tryd.prog ((laidWorld os).forCall (fun _ _ => 0) ⟨#[], args, []⟩).memory [("unicode.CaseRanges", caseData)] [2, N0 + 6] :=
  laidIn_case (tg := 74) (tb := 84) caseTypes caseT (by kernel_rfl) (by kernel_rfl) (of_decide_eq_true (by kernel_rfl)) rowsWf (by kernel_rfl) (by kernel_rfl) (of_decide_eq_true (by kernel_rfl))
theorem piece2 (os : Os) (args : Array Value) : LaidIn Tryd.prog ((laidWorld os).forCall (fun _ _ => 0) ⟨#[], args, []⟩).memory [("unicode.Lower", rtabData lowerT)] [4, N0 + 2, N0, N0 + 1] :=
  laidIn_rtab (ρ := Tryd.lays261_ren) { Tryd.lays261 with } rExtra (by kernel_rfl) (by kernel_rfl) lowerT (N0 + 2) N0 (N0 + 1) (Tryd.lays261_ren.t 198) (Tryd.lays261_ren.t 201)
    (by kernel_rfl) (by kernel_rfl) (by kernel_rfl) (by kernel_rfl) (by kernel_rfl) (of_decide_eq_true (by kernel_rfl)) (of_decide_eq_true (by kernel_rfl)) (of_decide_eq_true (by kernel_rfl))
theorem piece3 (os : Os) (args : Array Value) : LaidIn Tryd.prog ((laidWorld os).forCall (fun _ _ => 0) ⟨#[], args, []⟩).memory [("unicode.Upper", rtabData upperT)] [5, N0 + 5, N0 + 3, N0 + 4] :=
  laidIn_rtab (ρ := Tryd.lays261_ren) { Tryd.lays261 with } rExtra (by kernel_rfl) (by kernel_rfl) upperT (N0 + 5) (N0 + 3) (N0 + 4) (Tryd.lays261_ren.t 198) (Tryd.lays261_ren.t 201)
    (by kernel_rfl) (by kernel_rfl) (by kernel_rfl) (by kernel_rfl) (by kernel_rfl) (of_decide_eq_true (by kernel_rfl)) (of_decide_eq_true (by kernel_rfl)) (of_decide_eq_true (by kernel_rfl))
theorem piece4 (os : Os) (args : Array Value) : LaidIn Tryd.prog ((laidWorld os).forCall (fun _ _ => 0) ⟨#[], args, []⟩).memory [("unicode/utf8.first", firstData)] [6] :=
  LaidIn.of_run [6] 8 (by kernel_rfl) (by kernel_rfl) (by kernel_rfl) (by kernel_rfl)
def laidL : List (String × DataW Unit) := [("unicode/utf8.acceptRanges", Rows.laid_unicode_utf8_acceptRanges), ("unicode.properties", Rows.laid_unicode_properties), ("unicode.asciiFold", Rows.laid_unicode_asciiFold), ("unicode.caseOrbit", Rows.laid_unicode_caseOrbit), ("unicode.CaseRanges", Rows.laid_unicode_CaseRanges), ("unicode.Lower", Rows.laid_unicode_Lower), ("unicode.Upper", Rows.laid_unicode_Upper), ("unicode/utf8.first", Rows.laid_unicode_utf8_first)]
theorem laidL_eq : laidL = [("unicode/utf8.acceptRanges", acceptData), ("unicode.properties", tabData .u8 propertiesTab), ("unicode.asciiFold", tabData .u16 asciiFoldL), ("unicode.caseOrbit", orbitData), ("unicode.CaseRanges", caseData), ("unicode.Lower", rtabData lowerT), ("unicode.Upper", rtabData upperT), ("unicode/utf8.first", firstData)] := by
  unfold laidL Rows.laid_unicode_CaseRanges Rows.laid_unicode_Lower Rows.laid_unicode_Upper Rows.laid_unicode_utf8_first
  rw [accept_eq, props_eq, ascii_eq, orbit_eq, Pinned.caseRanges_eq, Pinned.lower_eq, Pinned.upper_eq, Pinned.utf8First_eq]
theorem laid_met (os : Os) (args : Array Value) : laidMet Tryd.prog laidL ((laidWorld os).forCall (fun _ _ => 0) ⟨#[], args, []⟩).memory := by
  rw [laidL_eq]
  exact (((((piece0 os args).append (piece1 os args) (by kernel_rfl)).append (piece2 os args) (by kernel_rfl)).append (piece3 os args) (by kernel_rfl)).append (piece4 os args) (by kernel_rfl)).met
/-- What the listed variables give. -/
theorem amb_of_laid {W : World} (h : laidMetH Tryd.prog laidL W) : Amb W := by
  rw [laidL_eq] at h
  have hA : TabIs Tryd.prog W "unicode.asciiFold" .u16 asciiFoldL := tabIs_of_reads (g := 0) (t := 67) (e := 66) (n := 128) (by kernel_rfl) (by kernel_rfl) (by kernel_rfl) (by kernel_rfl) (by kernel_rfl) (by kernel_rfl) (laidMet.reads h (.tail _ (.tail _ (.head _))))
  exact {
    cases := caseVar_of_reads (ρ := caseRen) caseLays (by kernel_rfl) caseExtra (laidMet.reads h (.tail _ (.tail _ (.tail _ (.tail _ (.head _))))))
    utf := utf8Tabs_of_reads (ρ := Tryd.lays260_ren) { Tryd.lays260 with } u8Extra (laidMet.reads h (.tail _ (.tail _ (.tail _ (.tail _ (.tail _ (.tail _ (.tail _ (.head _))))))))) (laidMet.reads h (.head _))
    props := tabIs_of_reads (g := 3) (t := 78) (e := 5) (n := 256) (by kernel_rfl) (by kernel_rfl) (by kernel_rfl) (by kernel_rfl) (by kernel_rfl) (by kernel_rfl) (laidMet.reads h (.tail _ (.head _)))
    upper := rvar_of_reads (ρ := Tryd.lays261_ren) { Tryd.lays261 with } rExtra (by kernel_rfl) (by kernel_rfl) (laidMet.reads h (.tail _ (.tail _ (.tail _ (.tail _ (.tail _ (.tail _ (.head _))))))))
    lower := rvar_of_reads (ρ := Tryd.lays261_ren) { Tryd.lays261 with } rExtra (by kernel_rfl) (by kernel_rfl) (laidMet.reads h (.tail _ (.tail _ (.tail _ (.tail _ (.tail _ (.head _)))))))
    ascii := fun c hc => hA.cell (by kernel_rfl) c (by rw [show asciiFoldL.length = 128 by kernel_rfl]; exact hc)
    orbit := orbit_of_reads (laidMet.reads h (.tail _ (.tail _ (.tail _ (.head _))))) }
end Go.Proofs.YtgeimklpcfepaaaDoor
