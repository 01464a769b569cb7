/-
  DERIVED: THE SHELF's CONTRACTS AT THIS DUMP, IN PLAIN WORDS (tools/lay-plain.mjs out of 'TrydShelf.lean', which tools/lay-shelf.mjs wrote): THE SAME DECLARATIONS UNDER THE SAME NAMES: 'import', 'namespace', 'open', 'def', 'theorem' AND NOTHING ELSE: no command of the shelf's: FOR A HAND-IN. Each laying: the table of numbers ('.._ren') and one theorem, a field a fact of the dump's own or the kernel's comparison; each contract: ONE APPLICATION.
-/
import Derived.Shelf.Small.Utf8
import Derived.Shelf.Utf8.RuneCount
import Derived.Shelf.Unicode.Latin
import Derived.Shelf.Unicode.CaseLookup
import Derived.Shelf.Unicode.CaseConvert
import Derived.Shelf.Unicode.CaseTo
import Derived.Shelf.Unicode.CaseLaid
import Derived.Test.YtfkemfkleceeiaaDoorProg
namespace Go.Proofs
open Go.Shelf
def Tryd.lays118_ren : Go.Shelf.Ren := ⟨fun | 118 => 57 | n => n, fun | 21 => 21 | 3 => 3 | 4 => 4 | n => n, fun | n => n⟩
theorem Tryd.lays118 : Go.Proofs.Lays.n118 Tryd.prog Tryd.lays118_ren := {
  mixed := by kernel_rfl
  f118 := Tryd.func57.trans (congrArg some (by kernel_rfl))
  t3 := Tryd.underlying3
  a3 := Tryd.isAgg3
  z3 := Tryd.sizeOf3
  v3 := Tryd.zeroValue3
  t4 := Tryd.underlying4
  a4 := Tryd.isAgg4
  z4 := Tryd.sizeOf4
  v4 := Tryd.zeroValue4
  t21 := Tryd.underlying21
  a21 := Tryd.isAgg21
  z21 := Tryd.sizeOf21
  v21 := Tryd.zeroValue21 }
/-- utf8.RuneLen: "RuneLen returns the number of bytes in the UTF-8 encoding of the rune. It returns -1 if the rune is not a valid value to encode in UTF-8.": IT RETURNS 'Lib.runeLen r'; the world is as it was. (LAID: no walk: one application.) -/
theorem Tryd.utf8_RuneLen (r : Int) (w : World) :
    Calls Tryd.prog 57 #[.int .i32 r] w fun e w' => e = .returned (.int .i64 (Lib.runeLen r)) ∧ w' = w := Any.utf8_RuneLen Tryd.lays118 r w
def Tryd.lays195_ren : Go.Shelf.Ren := ⟨fun | 195 => 58 | n => n, fun | 9 => 9 | 3 => 3 | 0 => 0 | 4 => 4 | n => n, fun | n => n⟩
theorem Tryd.lays195 : Go.Proofs.Lays.n195 Tryd.prog Tryd.lays195_ren := {
  mixed := by kernel_rfl
  f195 := Tryd.func58.trans (congrArg some (by kernel_rfl))
  t0 := Tryd.underlying0
  a0 := Tryd.isAgg0
  z0 := Tryd.sizeOf0
  v0 := Tryd.zeroValue0
  t3 := Tryd.underlying3
  a3 := Tryd.isAgg3
  z3 := Tryd.sizeOf3
  v3 := Tryd.zeroValue3
  t4 := Tryd.underlying4
  a4 := Tryd.isAgg4
  z4 := Tryd.sizeOf4
  v4 := Tryd.zeroValue4
  t9 := Tryd.underlying9
  a9 := Tryd.isAgg9
  z9 := Tryd.sizeOf9
  v9 := Tryd.zeroValue9 }
open Go.RowKit in
/-- unicode/utf8.RuneCountInString: "RuneCountInString is like RuneCount but its input is a string." ("RuneCount returns the number of runes in p. Erroneous and short encodings are treated as single runes of width 1 byte."): EVERY STRING, valid UTF-8 or not: 'Lib.runeCount s' (plain Lean over the model's own 'Utf8.decode'; 'Lib.runeCount_le': at most len(s); 'Lib.runeCount_ascii': on ASCII: len(s)). THE ONE CONDITION: len(s) below 2^63 - 1 (the counter does not wrap): the form's reach pays it. THE WORLD BEHIND THE CALL: ONE BLOCK MORE: the model's iterator over s, at its end: all else as it was. (LAID: no walk: one application.) -/
theorem Tryd.utf8_RuneCountInString (s : ByteArray) (w : World) (hs : s.size < 9223372036854775807) :
    Calls Tryd.prog 58 #[.string s] w fun e w' => e = .returned (.int .i64 (Lib.runeCount s)) ∧ ∃ pos, w' = w.iter s pos := Any.utf8_RuneCountInString Tryd.lays195 s w hs
def Tryd.lays204_ren : Go.Shelf.Ren := ⟨fun | 204 => 43 | 262 => 54 | 313 => 62 | 274 => 64 | 275 => 65 | n => n, fun | 21 => 21 | 4 => 4 | 3 => 3 | 162 => 79 | 203 => 77 | 160 => 83 | 46 => 82 | 0 => 0 | 208 => 90 | 51 => 86 | 206 => 88 | n => n, fun | 13 => 0 | n => n⟩
theorem Tryd.lays204 : Go.Proofs.Lays.n204 Tryd.prog Tryd.lays204_ren := {
  mixed := by kernel_rfl
  f204 := Tryd.func43.trans (congrArg some (by kernel_rfl))
  f262 := Tryd.func54.trans (congrArg some (by kernel_rfl))
  f274 := Tryd.func64.trans (congrArg some (by kernel_rfl))
  f275 := Tryd.func65.trans (congrArg some (by kernel_rfl))
  f313 := Tryd.func62.trans (congrArg some (by kernel_rfl))
  t0 := Tryd.underlying0
  a0 := Tryd.isAgg0
  z0 := Tryd.sizeOf0
  v0 := Tryd.zeroValue0
  t3 := Tryd.underlying3
  a3 := Tryd.isAgg3
  z3 := Tryd.sizeOf3
  v3 := Tryd.zeroValue3
  t4 := Tryd.underlying4
  a4 := Tryd.isAgg4
  z4 := Tryd.sizeOf4
  v4 := Tryd.zeroValue4
  t21 := Tryd.underlying21
  a21 := Tryd.isAgg21
  z21 := Tryd.sizeOf21
  v21 := Tryd.zeroValue21
  t46 := Tryd.underlying82
  a46 := Tryd.isAgg82
  z46 := Tryd.sizeOf82
  v46 := Tryd.zeroValue82
  t51 := Tryd.underlying86
  a51 := Tryd.isAgg86
  z51 := Tryd.sizeOf86
  v51 := Tryd.zeroValue86
  t160 := Tryd.underlying83
  a160 := Tryd.isAgg83
  z160 := Tryd.sizeOf83
  v160 := Tryd.zeroValue83
  t162 := Tryd.underlying79
  a162 := Tryd.isAgg79
  z162 := Tryd.sizeOf79
  v162 := Tryd.zeroValue79
  t203 := Tryd.underlying77
  a203 := Tryd.isAgg77
  z203 := Tryd.sizeOf77
  v203 := Tryd.zeroValue77
  t206 := Tryd.underlying88
  a206 := Tryd.isAgg88
  z206 := Tryd.sizeOf88
  v206 := Tryd.zeroValue88
  t208 := Tryd.underlying90
  a208 := Tryd.isAgg90
  z208 := Tryd.sizeOf90
  v208 := Tryd.zeroValue90
  g13 := by kernel_rfl }
open Go.RowKit Go.Lib in
theorem Tryd.unicode_ToLower (r : Int) (w : World) (h : r ≤ 127) :
    Calls Tryd.prog 43 #[.int .i32 r] w fun e w' => e = .returned (.int .i32 (Lib.toLowerR r)) ∧ w' = w := Any.unicode_ToLower Tryd.lays204 r w h
def Tryd.lays274_ren : Go.Shelf.Ren := ⟨fun | 274 => 64 | n => n, fun | 21 => 21 | 162 => 79 | 160 => 83 | 3 => 3 | 4 => 4 | 46 => 82 | 0 => 0 | 208 => 90 | 51 => 86 | 206 => 88 | n => n, fun | n => n⟩
theorem Tryd.lays274 : Go.Proofs.Lays.n274 Tryd.prog Tryd.lays274_ren := {
  mixed := by kernel_rfl
  f274 := Tryd.func64.trans (congrArg some (by kernel_rfl))
  t0 := Tryd.underlying0
  a0 := Tryd.isAgg0
  z0 := Tryd.sizeOf0
  v0 := Tryd.zeroValue0
  t3 := Tryd.underlying3
  a3 := Tryd.isAgg3
  z3 := Tryd.sizeOf3
  v3 := Tryd.zeroValue3
  t4 := Tryd.underlying4
  a4 := Tryd.isAgg4
  z4 := Tryd.sizeOf4
  v4 := Tryd.zeroValue4
  t21 := Tryd.underlying21
  a21 := Tryd.isAgg21
  z21 := Tryd.sizeOf21
  v21 := Tryd.zeroValue21
  t46 := Tryd.underlying82
  a46 := Tryd.isAgg82
  z46 := Tryd.sizeOf82
  v46 := Tryd.zeroValue82
  t51 := Tryd.underlying86
  a51 := Tryd.isAgg86
  z51 := Tryd.sizeOf86
  v51 := Tryd.zeroValue86
  t160 := Tryd.underlying83
  a160 := Tryd.isAgg83
  z160 := Tryd.sizeOf83
  v160 := Tryd.zeroValue83
  t162 := Tryd.underlying79
  a162 := Tryd.isAgg79
  z162 := Tryd.sizeOf79
  v162 := Tryd.zeroValue79
  t208 := Tryd.underlying90
  a208 := Tryd.isAgg90
  z208 := Tryd.sizeOf90
  v208 := Tryd.zeroValue90 }
open Go.RowKit Go.Lib in
theorem Tryd.unicode_lookupCaseRange (T : Array CaseRow) (R oR cap : Nat) (r : Int) (w : World) (hT : CaseTab R oR T w) (hok : CaseOk T) (hn : T.size ≤ 1000000000) :
    Calls Tryd.prog 64 #[.int .i32 r, .slice (some ⟨R, oR, none⟩) T.size cap] w fun e w' =>
      e = .returned (match lookupIdx T r (T.size + 1) 0 T.size with | some i => .pointer (some ⟨R, oR + i * 5, none⟩) | none => .pointer none) ∧ w' = w := Any.unicode_lookupCaseRange Tryd.lays274 T R oR cap r w hT hok hn
def Tryd.lays275_ren : Go.Shelf.Ren := ⟨fun | 275 => 65 | n => n, fun | 3 => 3 | 21 => 21 | 160 => 83 | 0 => 0 | 208 => 90 | 206 => 88 | 4 => 4 | 51 => 86 | n => n, fun | n => n⟩
theorem Tryd.lays275 : Go.Proofs.Lays.n275 Tryd.prog Tryd.lays275_ren := {
  mixed := by kernel_rfl
  f275 := Tryd.func65.trans (congrArg some (by kernel_rfl))
  t0 := Tryd.underlying0
  a0 := Tryd.isAgg0
  z0 := Tryd.sizeOf0
  v0 := Tryd.zeroValue0
  t3 := Tryd.underlying3
  a3 := Tryd.isAgg3
  z3 := Tryd.sizeOf3
  v3 := Tryd.zeroValue3
  t4 := Tryd.underlying4
  a4 := Tryd.isAgg4
  z4 := Tryd.sizeOf4
  v4 := Tryd.zeroValue4
  t21 := Tryd.underlying21
  a21 := Tryd.isAgg21
  z21 := Tryd.sizeOf21
  v21 := Tryd.zeroValue21
  t51 := Tryd.underlying86
  a51 := Tryd.isAgg86
  z51 := Tryd.sizeOf86
  v51 := Tryd.zeroValue86
  t160 := Tryd.underlying83
  a160 := Tryd.isAgg83
  z160 := Tryd.sizeOf83
  v160 := Tryd.zeroValue83
  t206 := Tryd.underlying88
  a206 := Tryd.isAgg88
  z206 := Tryd.sizeOf88
  v206 := Tryd.zeroValue88
  t208 := Tryd.underlying90
  a208 := Tryd.isAgg90
  z208 := Tryd.sizeOf90
  v208 := Tryd.zeroValue90 }
open Go.RowKit Go.Lib in
theorem Tryd.unicode_convertCase (c : Nat) (hc : c < 3) (r : Int) (A o : Nat) (x : CaseRow) (w : World) (hlo : (x.1 : Int) ≤ r) (hhi : r ≤ (x.2.1 : Int)) (hH : x.2.1 < 2147483647) (c0 : w.cell? ⟨A, o, none⟩ = some (.int .u32 x.1)) (cD : w.cell? ⟨A, o + 2 + c, none⟩ = some (.int .i32 (x.delta c))) :
    Calls Tryd.prog 65 #[.int .i64 c, .int .i32 r, .pointer (some ⟨A, o, none⟩)] w fun e w' => e = .returned (.int .i32 (wrap32 (convertR c r x))) ∧ ∃ q, w' = w.drewN q := Any.unicode_convertCase Tryd.lays275 c hc r A o x w hlo hhi hH c0 cD
def Tryd.lays313_ren : Go.Shelf.Ren := ⟨fun | 313 => 62 | 274 => 64 | 275 => 65 | n => n, fun | 3 => 3 | 21 => 21 | 162 => 79 | 4 => 4 | 160 => 83 | 46 => 82 | 0 => 0 | 208 => 90 | 51 => 86 | 206 => 88 | n => n, fun | n => n⟩
theorem Tryd.lays313 : Go.Proofs.Lays.n313 Tryd.prog Tryd.lays313_ren := {
  mixed := by kernel_rfl
  f274 := Tryd.func64.trans (congrArg some (by kernel_rfl))
  f275 := Tryd.func65.trans (congrArg some (by kernel_rfl))
  f313 := Tryd.func62.trans (congrArg some (by kernel_rfl))
  t0 := Tryd.underlying0
  a0 := Tryd.isAgg0
  z0 := Tryd.sizeOf0
  v0 := Tryd.zeroValue0
  t3 := Tryd.underlying3
  a3 := Tryd.isAgg3
  z3 := Tryd.sizeOf3
  v3 := Tryd.zeroValue3
  t4 := Tryd.underlying4
  a4 := Tryd.isAgg4
  z4 := Tryd.sizeOf4
  v4 := Tryd.zeroValue4
  t21 := Tryd.underlying21
  a21 := Tryd.isAgg21
  z21 := Tryd.sizeOf21
  v21 := Tryd.zeroValue21
  t46 := Tryd.underlying82
  a46 := Tryd.isAgg82
  z46 := Tryd.sizeOf82
  v46 := Tryd.zeroValue82
  t51 := Tryd.underlying86
  a51 := Tryd.isAgg86
  z51 := Tryd.sizeOf86
  v51 := Tryd.zeroValue86
  t160 := Tryd.underlying83
  a160 := Tryd.isAgg83
  z160 := Tryd.sizeOf83
  v160 := Tryd.zeroValue83
  t162 := Tryd.underlying79
  a162 := Tryd.isAgg79
  z162 := Tryd.sizeOf79
  v162 := Tryd.zeroValue79
  t206 := Tryd.underlying88
  a206 := Tryd.isAgg88
  z206 := Tryd.sizeOf88
  v206 := Tryd.zeroValue88
  t208 := Tryd.underlying90
  a208 := Tryd.isAgg90
  z208 := Tryd.sizeOf90
  v208 := Tryd.zeroValue90 }
open Go.RowKit Go.Lib in
theorem Tryd.unicode_to (c : Nat) (hc : c < 3) (r : Int) (T : Array CaseRow) (R oR cap : Nat) (w : World) (hT : CaseTab R oR T w) (hok : CaseOk2 T) (hn : T.size ≤ 1000000000) :
    Calls Tryd.prog 62 #[.int .i64 c, .int .i32 r, .slice (some ⟨R, oR, none⟩) T.size cap] w fun e w' => e = .returned (.tuple #[.int .i32 (toW T c r), .bool (lookupIdx T r (T.size + 1) 0 T.size).isSome]) ∧ ∃ q, w' = w.drewN q := Any.unicode_to Tryd.lays313 c hc r T R oR cap w hT hok hn
def Tryd.lays262_ren : Go.Shelf.Ren := ⟨fun | 262 => 54 | 313 => 62 | 274 => 64 | 275 => 65 | n => n, fun | 3 => 3 | 21 => 21 | 162 => 79 | 203 => 77 | 4 => 4 | 160 => 83 | 46 => 82 | 0 => 0 | 208 => 90 | 51 => 86 | 206 => 88 | n => n, fun | 13 => 0 | n => n⟩
theorem Tryd.lays262 : Go.Proofs.Lays.n262 Tryd.prog Tryd.lays262_ren := {
  mixed := by kernel_rfl
  f262 := Tryd.func54.trans (congrArg some (by kernel_rfl))
  f274 := Tryd.func64.trans (congrArg some (by kernel_rfl))
  f275 := Tryd.func65.trans (congrArg some (by kernel_rfl))
  f313 := Tryd.func62.trans (congrArg some (by kernel_rfl))
  t0 := Tryd.underlying0
  a0 := Tryd.isAgg0
  z0 := Tryd.sizeOf0
  v0 := Tryd.zeroValue0
  t3 := Tryd.underlying3
  a3 := Tryd.isAgg3
  z3 := Tryd.sizeOf3
  v3 := Tryd.zeroValue3
  t4 := Tryd.underlying4
  a4 := Tryd.isAgg4
  z4 := Tryd.sizeOf4
  v4 := Tryd.zeroValue4
  t21 := Tryd.underlying21
  a21 := Tryd.isAgg21
  z21 := Tryd.sizeOf21
  v21 := Tryd.zeroValue21
  t46 := Tryd.underlying82
  a46 := Tryd.isAgg82
  z46 := Tryd.sizeOf82
  v46 := Tryd.zeroValue82
  t51 := Tryd.underlying86
  a51 := Tryd.isAgg86
  z51 := Tryd.sizeOf86
  v51 := Tryd.zeroValue86
  t160 := Tryd.underlying83
  a160 := Tryd.isAgg83
  z160 := Tryd.sizeOf83
  v160 := Tryd.zeroValue83
  t162 := Tryd.underlying79
  a162 := Tryd.isAgg79
  z162 := Tryd.sizeOf79
  v162 := Tryd.zeroValue79
  t203 := Tryd.underlying77
  a203 := Tryd.isAgg77
  z203 := Tryd.sizeOf77
  v203 := Tryd.zeroValue77
  t206 := Tryd.underlying88
  a206 := Tryd.isAgg88
  z206 := Tryd.sizeOf88
  v206 := Tryd.zeroValue88
  t208 := Tryd.underlying90
  a208 := Tryd.isAgg90
  z208 := Tryd.sizeOf90
  v208 := Tryd.zeroValue90
  g13 := by kernel_rfl }
open Go.RowKit Go.Lib in
theorem Tryd.unicode_To (c : Nat) (hc : c < 3) (r : Int) (T : Array CaseRow) (w : World) (hV : CaseVar 0 T w) (hok : CaseOk2 T) (hn : T.size ≤ 1000000000) :
    Calls Tryd.prog 54 #[.int .i64 c, .int .i32 r] w fun e w' => e = .returned (.int .i32 (toW T c r)) ∧ ∃ q, w' = w.drewN q := Any.unicode_To Tryd.lays262 c hc r T w hV hok hn
open Go.RowKit Go.Lib in
theorem Tryd.unicode_ToLower_any (r : Int) (T : Array CaseRow) (w : World) (hV : CaseVar 0 T w) (hok : CaseOk2 T) (hn : T.size ≤ 1000000000) :
    Calls Tryd.prog 43 #[.int .i32 r] w fun e w' => e = .returned (.int .i32 (Lib.toLowerW T r)) ∧ ∃ q, w' = w.drewN q := Any.unicode_ToLower_any Tryd.lays204 r T w hV hok hn
open Go.RowKit Go.Lib in
theorem Tryd.unicode_ToLower_laid (r : Int) (w : World) (hV : CaseVar 0 caseA w) :
    Calls Tryd.prog 43 #[.int .i32 r] w fun e w' => e = .returned (.int .i32 (toLowerU r)) ∧ ∃ q, w' = w.drewN q := Any.unicode_ToLower_laid Tryd.lays204 r w hV
end Go.Proofs
