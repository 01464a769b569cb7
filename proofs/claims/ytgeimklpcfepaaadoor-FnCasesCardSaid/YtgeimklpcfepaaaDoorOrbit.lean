/- unicode.SimpleFold as a plain function, and its orbits: nothing of the program but its tables. -/
import Derived.Test.YtgeimklpcfepaaaDoorBase
namespace Go.Proofs.YtgeimklpcfepaaaDoor
open Go.RowKit Go.Lib
set_option linter.unusedVariables false
set_option linter.unusedSimpArgs false

/-- What stands behind a rune in the table of orbits. -/
def orbOf (r : Int) : Option Int := (orbitL.find? (fun p => p.1 == r)).map (·.2)
/-- unicode.SimpleFold of a rune. -/
def sfold (r : Int) : Int :=
  if r < 128 then asciiFoldL.getD r.toNat 0 else
    match orbOf r with
    | some t => t
    | none => if toW caseA 1 r ≠ r then toW caseA 1 r else toW caseA 0 r
theorem ascii_small : ∀ c : Nat, c < 128 → 0 ≤ asciiFoldL.getD c 0 ∧ asciiFoldL.getD c 0 ≤ 65535 := by decide
theorem orbit_small : ∀ i : Nat, i < 94 → (0 ≤ (orbitL.getD i (0, 0)).1 ∧ (orbitL.getD i (0, 0)).1 ≤ 65535) ∧ (0 ≤ (orbitL.getD i (0, 0)).2 ∧ (orbitL.getD i (0, 0)).2 ≤ 65535) := by decide
theorem orbit_length : orbitL.length = 94 := by decide
theorem orbit_sorted : ∀ i : Nat, i < 93 → (orbitL.getD i (0, 0)).1 < (orbitL.getD (i + 1) (0, 0)).1 := by decide
theorem orbit_lt (i : Nat) : ∀ j : Nat, i < j → j < 94 → (orbitL.getD i (0, 0)).1 < (orbitL.getD j (0, 0)).1
  | 0, h, _ => by omega
  | j + 1, h, hj => by
    have h1 := orbit_sorted j (by omega)
    by_cases e : i = j
    · subst e; exact h1
    · have := orbit_lt i j (by omega) (by omega)
      omega
theorem orbOf_at (r : Int) (i : Nat) (hi : i < 94) (h : (orbitL.getD i (0, 0)).1 = r) : orbOf r = some (orbitL.getD i (0, 0)).2 := by
  unfold orbOf
  have hl : i < orbitL.length := by rw [orbit_length]; exact hi
  have hg : orbitL.getD i (0, 0) = orbitL[i] := by rw [List.getD_eq_getElem?_getD, List.getElem?_eq_getElem hl]; rfl
  rw [List.find?_eq_some_iff_getElem.2 ⟨by rw [hg] at h; exact beq_iff_eq.2 h, i, hl, rfl, fun j hj => ?_⟩, Option.map_some, hg]
  have hjl : j < orbitL.length := by omega
  have hgj : orbitL.getD j (0, 0) = orbitL[j] := by rw [List.getD_eq_getElem?_getD, List.getElem?_eq_getElem hjl]; rfl
  have := orbit_lt j i hj hi
  rw [h, hgj] at this
  rw [Bool.not_eq_true', beq_eq_false_iff_ne]
  omega
theorem orbOf_none (r : Int) (h : ∀ i : Nat, i < 94 → (orbitL.getD i (0, 0)).1 ≠ r) : orbOf r = none := by
  unfold orbOf
  rw [Option.map_eq_none_iff, List.find?_eq_none]
  intro p hp
  obtain ⟨i, hi, rfl⟩ := List.getElem_of_mem hp
  have hgj : orbitL.getD i (0, 0) = orbitL[i] := by rw [List.getD_eq_getElem?_getD, List.getElem?_eq_getElem hi]; rfl
  have := h i (by rw [orbit_length] at hi; exact hi)
  rw [hgj] at this
  simp [this]


/-- The runes of orbits of three or four. -/
def longL : List Int := [
  75, 83, 107, 115, 181, 197, 229, 383, 452, 453, 454, 455, 456, 457, 458, 459,
  460, 497, 498, 499, 837, 914, 917, 920, 921, 922, 924, 928, 929, 931, 934, 937,
  946, 949, 952, 953, 954, 956, 960, 961, 962, 963, 966, 969, 976, 977, 981, 982,
  1008, 1009, 1012, 1013, 1042, 1044, 1054, 1057, 1058, 1066, 1074, 1076, 1086, 1089, 1090, 1098,
  1122, 1123, 7296, 7297, 7298, 7299, 7300, 7301, 7302, 7303, 7304, 7776, 7777, 7835, 8126, 8486,
  8490, 8491, 42570, 42571]
/-- A rune of small ones: back in two steps, or one of a long orbit. -/
def backB (r : Int) : Bool := decide (0 ≤ sfold r ∧ sfold r ≤ 1114111) && (decide (sfold (sfold r) = r) || longL.contains r)
theorem back_ascii : (List.range 128).all (fun (c : Nat) => backB (c : Int)) = true := by kernel_rfl
theorem back_orbit : orbitL.all (fun p => backB p.1) = true := by kernel_rfl
def rowBack (x : CaseRow) : Bool := (List.range (x.2.1 + 1 - x.1)).all fun (i : Nat) => backB ((x.1 + i : Nat) : Int)
theorem back_rows0 : ((caseT.drop 0).take 8).all rowBack = true := by kernel_rfl
theorem back_rows1 : ((caseT.drop 8).take 25).all rowBack = true := by kernel_rfl
theorem back_rows2 : ((caseT.drop 33).take 45).all rowBack = true := by kernel_rfl
theorem back_rows3 : ((caseT.drop 78).take 66).all rowBack = true := by kernel_rfl
theorem back_rows4 : ((caseT.drop 144).take 15).all rowBack = true := by kernel_rfl
theorem back_rows5 : ((caseT.drop 159).take 5).all rowBack = true := by kernel_rfl
theorem back_rows6 : ((caseT.drop 164).take 2).all rowBack = true := by kernel_rfl
theorem back_rows7 : ((caseT.drop 166).take 6).all rowBack = true := by kernel_rfl
theorem back_rows8 : ((caseT.drop 172).take 15).all rowBack = true := by kernel_rfl
theorem back_rows9 : ((caseT.drop 187).take 2).all rowBack = true := by kernel_rfl
theorem back_rows10 : ((caseT.drop 189).take 1).all rowBack = true := by kernel_rfl
theorem back_rows11 : ((caseT.drop 190).take 10).all rowBack = true := by kernel_rfl
theorem back_rows12 : ((caseT.drop 200).take 51).all rowBack = true := by kernel_rfl
theorem back_rows13 : ((caseT.drop 251).take 6).all rowBack = true := by kernel_rfl
theorem back_rows14 : ((caseT.drop 257).take 15).all rowBack = true := by kernel_rfl
theorem back_rows15 : ((caseT.drop 272).take 6).all rowBack = true := by kernel_rfl
theorem back_rows16 : ((caseT.drop 278).take 4).all rowBack = true := by kernel_rfl
theorem back_rows17 : ((caseT.drop 282).take 27).all rowBack = true := by kernel_rfl
theorem back_rows18 : ((caseT.drop 309).take 3).all rowBack = true := by kernel_rfl
theorem back_rows19 : ((caseT.drop 312).take 3).all rowBack = true := by kernel_rfl
theorem back_rows20 : ((caseT.drop 315).take 9).all rowBack = true := by kernel_rfl
theorem back_rows21 : ((caseT.drop 324).take 4).all rowBack = true := by kernel_rfl
theorem back_rows22 : ((caseT.drop 328).take 4).all rowBack = true := by kernel_rfl
theorem back_rows23 : ((caseT.drop 332).take 4).all rowBack = true := by kernel_rfl
end Go.Proofs.YtgeimklpcfepaaaDoor
