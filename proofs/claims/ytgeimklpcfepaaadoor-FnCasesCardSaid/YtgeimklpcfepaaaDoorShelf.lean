/-
  DERIVED: THE SHELF's CONTRACTS AT THIS DUMP, IN PLAIN WORDS (tools/lay-plain.mjs out of 'TrydShelf.lean', which tools/lay-shelf.mjs wrote): THE SAME DECLARATIONS UNDER THE SAME NAMES: 'import', 'namespace', 'open', 'def', 'theorem' AND NOTHING ELSE: no command of the shelf's: FOR A HAND-IN. Each laying: the table of numbers ('.._ren') and one theorem, a field a fact of the dump's own or the kernel's comparison; each contract: ONE APPLICATION.
-/
import Derived.Ground.GgtProg
import Derived.Shelf.GgSortMore.Iface
import Derived.Shelf.Unicode.Props
import Derived.Shelf.Unicode.DecodeSlow
import Derived.Shelf.Unicode.DecodeAny
import Derived.Shelf.Unicode.Is16White
import Derived.Shelf.Unicode.IsSpaceAny
import Derived.Shelf.Unicode.CaseLookup
import Derived.Shelf.Unicode.CaseConvert
import Derived.Shelf.Unicode.Is16Any
import Derived.Shelf.Unicode.Is32Any
import Derived.Shelf.Unicode.ExclAny
import Derived.Shelf.Unicode.PredsAny
import Derived.Shelf.Unicode.PredsPay
import Derived.Test.YtgeimklpcfepaaaDoorProg
namespace Go.Proofs
open Go.Shelf
def Tryd.laysGt33_ren : Go.Shelf.Ren := ⟨fun | 33 => 49 | n => n, fun | 45 => 86 | 3 => 3 | 4 => 4 | 0 => 0 | 43 => 58 | 26 => 105 | 38 => 106 | n => n, fun | n => n⟩
theorem Tryd.laysGt33 : Go.Proofs.LaysGt.n33 Tryd.prog Tryd.laysGt33_ren := {
  mixed := by kernel_rfl
  f33 := Tryd.func49.trans (congrArg some (by kernel_rfl))
  t0 := Tryd.underlying0
  a0 := Tryd.isAgg0
  z0 := Tryd.sizeOf0
  v0 := Tryd.zeroValue0
  i0 := by kernel_rfl
  t3 := Tryd.underlying3
  a3 := Tryd.isAgg3
  z3 := Tryd.sizeOf3
  v3 := Tryd.zeroValue3
  i3 := by kernel_rfl
  t4 := Tryd.underlying4
  a4 := Tryd.isAgg4
  z4 := Tryd.sizeOf4
  v4 := Tryd.zeroValue4
  i4 := by kernel_rfl
  t26 := Tryd.underlying105
  a26 := Tryd.isAgg105
  z26 := Tryd.sizeOf105
  v26 := Tryd.zeroValue105
  i26 := by kernel_rfl
  t38 := Tryd.underlying106
  a38 := Tryd.isAgg106
  z38 := Tryd.sizeOf106
  v38 := Tryd.zeroValue106
  i38 := by kernel_rfl
  t43 := Tryd.underlying58
  a43 := Tryd.isAgg58
  z43 := Tryd.sizeOf58
  v43 := Tryd.zeroValue58
  i43 := by kernel_rfl
  t45 := Tryd.underlying86
  a45 := Tryd.isAgg86
  z45 := Tryd.sizeOf86
  v45 := Tryd.zeroValue86
  i45 := by kernel_rfl }
open Go.RowKit Go.Lib Go.Sort in
theorem Tryd.insertionSort_iface {α : Type} [Inhabited α] (T : TypeId) (rv : Value) (gl gs : Nat) (rL : Reaches Tryd.prog T rv "Less" gl) (rS : Reaches Tryd.prog T rv "Swap" gs) (enc : α → Value) (lt : α → α → Bool) (blk off a b : Nat) (d : Array α) (w : World) (hless : LessM Tryd.prog gl rv enc lt blk off d.size w) (hswap : SwapM Tryd.prog gs rv enc blk off d.size) (hH : Holds enc w blk off d) (hab : a ≤ b) (hb : b ≤ d.size) (hsz : d.size < 4611686018427387904) :
    Calls Tryd.prog 49 #[.iface T rv, .int .i64 a, .int .i64 b] w fun e w' =>
      e = .returned (.tuple #[]) ∧ ∃ n, w' = putRow enc (Sort.ahead w n) blk off (Sort.insertionSort lt d a b) := Any.insertionSort_iface Tryd.laysGt33 T rv gl gs rL rS enc lt blk off a b d w hless hswap hH hab hb hsz
open Go.RowKit Go.Lib Go.Sort in
/-- sort.insertionSort, from a world to a 'sortWorld' of it. (LAID: no walk: one application.) -/
theorem Tryd.insertionSort_iface_w {α : Type} [Inhabited α] (T : TypeId) (rv : Value) (gl gs : Nat) (rL : Reaches Tryd.prog T rv "Less" gl) (rS : Reaches Tryd.prog T rv "Swap" gs) (enc : α → Value) (lt : α → α → Bool) (blk off a b : Nat) (d : Array α) (w : World) (hless : LessM Tryd.prog gl rv enc lt blk off d.size w) (hswap : SwapM Tryd.prog gs rv enc blk off d.size) (hH : Holds enc w blk off d) (hab : a ≤ b) (hb : b ≤ d.size) (hsz : d.size < 4611686018427387904) :
    Calls Tryd.prog 49 #[.iface T rv, .int .i64 a, .int .i64 b] w fun e w' => e = .returned (.tuple #[]) ∧ ∃ n os, w' = sortWorld enc w blk off n (Sort.insertionSort lt d a b) os := Any.insertionSort_iface_w Tryd.laysGt33 T rv gl gs rL rS enc lt blk off a b d w hless hswap hH hab hb hsz
def Tryd.lays201_ren : Go.Shelf.Ren := ⟨fun | 201 => 36 | 261 => 45 | 311 => 47 | 312 => 48 | n => n, fun | 21 => 21 | 4 => 4 | 51 => 77 | 5 => 5 | 119 => 78 | 0 => 0 | 141 => 80 | 196 => 94 | 193 => 91 | 3 => 3 | 198 => 96 | 49 => 66 | 194 => 92 | 201 => 99 | 226 => 103 | 46 => 69 | 227 => 104 | n => n, fun | 7 => 3 | 9 => 5 | n => n⟩
theorem Tryd.lays201 : Go.Proofs.Lays.n201 Tryd.prog Tryd.lays201_ren := {
  mixed := by kernel_rfl
  f201 := Tryd.func36.trans (congrArg some (by kernel_rfl))
  f261 := Tryd.func45.trans (congrArg some (by kernel_rfl))
  f311 := Tryd.func47.trans (congrArg some (by kernel_rfl))
  f312 := Tryd.func48.trans (congrArg some (by kernel_rfl))
  t0 := Tryd.underlying0
  a0 := Tryd.isAgg0
  z0 := Tryd.sizeOf0
  v0 := Tryd.zeroValue0
  t3 := Tryd.underlying3
  a3 := Tryd.isAgg3
  z3 := Tryd.sizeOf3
  v3 := Tryd.zeroValue3
  t4 := Tryd.underlying4
  a4 := Tryd.isAgg4
  z4 := Tryd.sizeOf4
  v4 := Tryd.zeroValue4
  t5 := Tryd.underlying5
  a5 := Tryd.isAgg5
  z5 := Tryd.sizeOf5
  v5 := Tryd.zeroValue5
  t21 := Tryd.underlying21
  a21 := Tryd.isAgg21
  z21 := Tryd.sizeOf21
  v21 := Tryd.zeroValue21
  t46 := Tryd.underlying69
  a46 := Tryd.isAgg69
  z46 := Tryd.sizeOf69
  v46 := Tryd.zeroValue69
  t49 := Tryd.underlying66
  a49 := Tryd.isAgg66
  z49 := Tryd.sizeOf66
  v49 := Tryd.zeroValue66
  t51 := Tryd.underlying77
  a51 := Tryd.isAgg77
  z51 := Tryd.sizeOf77
  v51 := Tryd.zeroValue77
  t119 := Tryd.underlying78
  a119 := Tryd.isAgg78
  z119 := Tryd.sizeOf78
  t141 := Tryd.underlying80
  a141 := Tryd.isAgg80
  z141 := Tryd.sizeOf80
  v141 := Tryd.zeroValue80
  t193 := Tryd.underlying91
  a193 := Tryd.isAgg91
  z193 := Tryd.sizeOf91
  v193 := Tryd.zeroValue91
  t194 := Tryd.underlying92
  a194 := Tryd.isAgg92
  z194 := Tryd.sizeOf92
  v194 := Tryd.zeroValue92
  t196 := Tryd.underlying94
  a196 := Tryd.isAgg94
  z196 := Tryd.sizeOf94
  v196 := Tryd.zeroValue94
  t198 := Tryd.underlying96
  a198 := Tryd.isAgg96
  z198 := Tryd.sizeOf96
  v198 := Tryd.zeroValue96
  t201 := Tryd.underlying99
  a201 := Tryd.isAgg99
  z201 := Tryd.sizeOf99
  v201 := Tryd.zeroValue99
  t226 := Tryd.underlying103
  a226 := Tryd.isAgg103
  z226 := Tryd.sizeOf103
  v226 := Tryd.zeroValue103
  t227 := Tryd.underlying104
  a227 := Tryd.isAgg104
  z227 := Tryd.sizeOf104
  v227 := Tryd.zeroValue104
  g7 := by kernel_rfl
  g9 := by kernel_rfl }
open Go.RowKit Go.Lib in
theorem Tryd.unicode_IsUpper (c : Nat) (w : World) (hc : c < 256) (htab : Lib.TabIs Tryd.prog w "unicode.properties" .u8 Lib.propertiesTab) :
    Calls Tryd.prog 36 #[.int .i32 c] w fun e w' => e = .returned (.bool (Lib.isUpperL c)) ∧ w' = w := Any.unicode_IsUpper Tryd.lays201 (by kernel_rfl) c w hc htab
def Tryd.lays202_ren : Go.Shelf.Ren := ⟨fun | 202 => 35 | 261 => 45 | 311 => 47 | 312 => 48 | n => n, fun | 21 => 21 | 4 => 4 | 51 => 77 | 5 => 5 | 119 => 78 | 0 => 0 | 141 => 80 | 196 => 94 | 193 => 91 | 3 => 3 | 198 => 96 | 49 => 66 | 194 => 92 | 201 => 99 | 226 => 103 | 46 => 69 | 227 => 104 | n => n, fun | 7 => 3 | 10 => 4 | n => n⟩
theorem Tryd.lays202 : Go.Proofs.Lays.n202 Tryd.prog Tryd.lays202_ren := {
  mixed := by kernel_rfl
  f202 := Tryd.func35.trans (congrArg some (by kernel_rfl))
  f261 := Tryd.func45.trans (congrArg some (by kernel_rfl))
  f311 := Tryd.func47.trans (congrArg some (by kernel_rfl))
  f312 := Tryd.func48.trans (congrArg some (by kernel_rfl))
  t0 := Tryd.underlying0
  a0 := Tryd.isAgg0
  z0 := Tryd.sizeOf0
  v0 := Tryd.zeroValue0
  t3 := Tryd.underlying3
  a3 := Tryd.isAgg3
  z3 := Tryd.sizeOf3
  v3 := Tryd.zeroValue3
  t4 := Tryd.underlying4
  a4 := Tryd.isAgg4
  z4 := Tryd.sizeOf4
  v4 := Tryd.zeroValue4
  t5 := Tryd.underlying5
  a5 := Tryd.isAgg5
  z5 := Tryd.sizeOf5
  v5 := Tryd.zeroValue5
  t21 := Tryd.underlying21
  a21 := Tryd.isAgg21
  z21 := Tryd.sizeOf21
  v21 := Tryd.zeroValue21
  t46 := Tryd.underlying69
  a46 := Tryd.isAgg69
  z46 := Tryd.sizeOf69
  v46 := Tryd.zeroValue69
  t49 := Tryd.underlying66
  a49 := Tryd.isAgg66
  z49 := Tryd.sizeOf66
  v49 := Tryd.zeroValue66
  t51 := Tryd.underlying77
  a51 := Tryd.isAgg77
  z51 := Tryd.sizeOf77
  v51 := Tryd.zeroValue77
  t119 := Tryd.underlying78
  a119 := Tryd.isAgg78
  z119 := Tryd.sizeOf78
  t141 := Tryd.underlying80
  a141 := Tryd.isAgg80
  z141 := Tryd.sizeOf80
  v141 := Tryd.zeroValue80
  t193 := Tryd.underlying91
  a193 := Tryd.isAgg91
  z193 := Tryd.sizeOf91
  v193 := Tryd.zeroValue91
  t194 := Tryd.underlying92
  a194 := Tryd.isAgg92
  z194 := Tryd.sizeOf92
  v194 := Tryd.zeroValue92
  t196 := Tryd.underlying94
  a196 := Tryd.isAgg94
  z196 := Tryd.sizeOf94
  v196 := Tryd.zeroValue94
  t198 := Tryd.underlying96
  a198 := Tryd.isAgg96
  z198 := Tryd.sizeOf96
  v198 := Tryd.zeroValue96
  t201 := Tryd.underlying99
  a201 := Tryd.isAgg99
  z201 := Tryd.sizeOf99
  v201 := Tryd.zeroValue99
  t226 := Tryd.underlying103
  a226 := Tryd.isAgg103
  z226 := Tryd.sizeOf103
  v226 := Tryd.zeroValue103
  t227 := Tryd.underlying104
  a227 := Tryd.isAgg104
  z227 := Tryd.sizeOf104
  v227 := Tryd.zeroValue104
  g7 := by kernel_rfl
  g10 := by kernel_rfl }
open Go.RowKit Go.Lib in
theorem Tryd.unicode_IsLower (c : Nat) (w : World) (hc : c < 256) (htab : Lib.TabIs Tryd.prog w "unicode.properties" .u8 Lib.propertiesTab) :
    Calls Tryd.prog 35 #[.int .i32 c] w fun e w' => e = .returned (.bool (Lib.isLowerL c)) ∧ w' = w := Any.unicode_IsLower Tryd.lays202 (by kernel_rfl) c w hc htab
def Tryd.lays260_ren : Go.Shelf.Ren := ⟨fun | 260 => 44 | n => n, fun | 9 => 9 | 21 => 21 | 3 => 3 | 4 => 4 | 5 => 5 | 119 => 78 | 0 => 0 | 46 => 69 | 139 => 90 | 138 => 89 | n => n, fun | 3 => 6 | 4 => 7 | n => n⟩
theorem Tryd.lays260 : Go.Proofs.Lays.n260 Tryd.prog Tryd.lays260_ren := {
  mixed := by kernel_rfl
  f260 := Tryd.func44.trans (congrArg some (by kernel_rfl))
  t0 := Tryd.underlying0
  a0 := Tryd.isAgg0
  z0 := Tryd.sizeOf0
  v0 := Tryd.zeroValue0
  t3 := Tryd.underlying3
  a3 := Tryd.isAgg3
  z3 := Tryd.sizeOf3
  v3 := Tryd.zeroValue3
  t4 := Tryd.underlying4
  a4 := Tryd.isAgg4
  z4 := Tryd.sizeOf4
  v4 := Tryd.zeroValue4
  t5 := Tryd.underlying5
  a5 := Tryd.isAgg5
  z5 := Tryd.sizeOf5
  v5 := Tryd.zeroValue5
  t9 := Tryd.underlying9
  a9 := Tryd.isAgg9
  z9 := Tryd.sizeOf9
  v9 := Tryd.zeroValue9
  t21 := Tryd.underlying21
  a21 := Tryd.isAgg21
  z21 := Tryd.sizeOf21
  v21 := Tryd.zeroValue21
  t46 := Tryd.underlying69
  a46 := Tryd.isAgg69
  z46 := Tryd.sizeOf69
  v46 := Tryd.zeroValue69
  t119 := Tryd.underlying78
  a119 := Tryd.isAgg78
  z119 := Tryd.sizeOf78
  t138 := Tryd.underlying89
  a138 := Tryd.isAgg89
  z138 := Tryd.sizeOf89
  v138 := Tryd.zeroValue89
  t139 := Tryd.underlying90
  a139 := Tryd.isAgg90
  z139 := Tryd.sizeOf90
  v139 := Tryd.zeroValue90
  g3 := by kernel_rfl
  g4 := by kernel_rfl }
open Go.RowKit Go.Lib in
theorem Tryd.utf8_decodeRuneInStringSlow (s : ByteArray) (w : World) (hT : Lib.Utf8Tabs 6 7 w) :
    Calls Tryd.prog 44 #[.string s] w fun e w' => e = .returned (.tuple #[.int .i32 (Lib.decodeGo s).1, .int .i64 (Lib.decodeGo s).2]) ∧ Below w.heap.size w w' := Any.utf8_decodeRuneInStringSlow Tryd.lays260 s w hT
def Tryd.lays197_ren : Go.Shelf.Ren := ⟨fun | 197 => 33 | 260 => 44 | n => n, fun | 9 => 9 | 21 => 21 | 3 => 3 | 4 => 4 | 5 => 5 | 105 => 61 | 119 => 78 | 0 => 0 | 46 => 69 | 139 => 90 | 138 => 89 | n => n, fun | 3 => 6 | 4 => 7 | n => n⟩
theorem Tryd.lays197 : Go.Proofs.Lays.n197 Tryd.prog Tryd.lays197_ren := {
  mixed := by kernel_rfl
  f197 := Tryd.func33.trans (congrArg some (by kernel_rfl))
  f260 := Tryd.func44.trans (congrArg some (by kernel_rfl))
  t0 := Tryd.underlying0
  a0 := Tryd.isAgg0
  z0 := Tryd.sizeOf0
  v0 := Tryd.zeroValue0
  t3 := Tryd.underlying3
  a3 := Tryd.isAgg3
  z3 := Tryd.sizeOf3
  v3 := Tryd.zeroValue3
  t4 := Tryd.underlying4
  a4 := Tryd.isAgg4
  z4 := Tryd.sizeOf4
  v4 := Tryd.zeroValue4
  t5 := Tryd.underlying5
  a5 := Tryd.isAgg5
  z5 := Tryd.sizeOf5
  v5 := Tryd.zeroValue5
  t9 := Tryd.underlying9
  a9 := Tryd.isAgg9
  z9 := Tryd.sizeOf9
  v9 := Tryd.zeroValue9
  t21 := Tryd.underlying21
  a21 := Tryd.isAgg21
  z21 := Tryd.sizeOf21
  v21 := Tryd.zeroValue21
  t46 := Tryd.underlying69
  a46 := Tryd.isAgg69
  z46 := Tryd.sizeOf69
  v46 := Tryd.zeroValue69
  t105 := Tryd.underlying61
  a105 := Tryd.isAgg61
  z105 := Tryd.sizeOf61
  v105 := Tryd.zeroValue61
  t119 := Tryd.underlying78
  a119 := Tryd.isAgg78
  z119 := Tryd.sizeOf78
  t138 := Tryd.underlying89
  a138 := Tryd.isAgg89
  z138 := Tryd.sizeOf89
  v138 := Tryd.zeroValue89
  t139 := Tryd.underlying90
  a139 := Tryd.isAgg90
  z139 := Tryd.sizeOf90
  v139 := Tryd.zeroValue90
  g3 := by kernel_rfl
  g4 := by kernel_rfl }
open Go.RowKit Go.Lib in
/-- **unicode/utf8.DecodeRuneInString AT EVERY STRING.** (LAID: no walk: one application.) -/
theorem Tryd.utf8_DecodeRuneInString (s : ByteArray) (w : World) (hT : Lib.Utf8Tabs 6 7 w) :
    Calls Tryd.prog 33 #[.string s] w fun e w' => e = .returned (.tuple #[.int .i32 (Lib.decodeGo s).1, .int .i64 (Lib.decodeGo s).2]) ∧ Below w.heap.size w w' := Any.utf8_DecodeRuneInString Tryd.lays197 s w hT
def Tryd.lays311_ren : Go.Shelf.Ren := ⟨fun | 311 => 47 | n => n, fun | 193 => 91 | 49 => 66 | 4 => 4 | 3 => 3 | 0 => 0 | 226 => 103 | 198 => 96 | 46 => 69 | n => n, fun | n => n⟩
theorem Tryd.lays311 : Go.Proofs.Lays.n311 Tryd.prog Tryd.lays311_ren := {
  mixed := by kernel_rfl
  f311 := Tryd.func47.trans (congrArg some (by kernel_rfl))
  t0 := Tryd.underlying0
  a0 := Tryd.isAgg0
  z0 := Tryd.sizeOf0
  v0 := Tryd.zeroValue0
  t3 := Tryd.underlying3
  a3 := Tryd.isAgg3
  z3 := Tryd.sizeOf3
  v3 := Tryd.zeroValue3
  t4 := Tryd.underlying4
  a4 := Tryd.isAgg4
  z4 := Tryd.sizeOf4
  v4 := Tryd.zeroValue4
  t46 := Tryd.underlying69
  a46 := Tryd.isAgg69
  z46 := Tryd.sizeOf69
  v46 := Tryd.zeroValue69
  t49 := Tryd.underlying66
  a49 := Tryd.isAgg66
  z49 := Tryd.sizeOf66
  v49 := Tryd.zeroValue66
  t193 := Tryd.underlying91
  a193 := Tryd.isAgg91
  z193 := Tryd.sizeOf91
  v193 := Tryd.zeroValue91
  t198 := Tryd.underlying96
  a198 := Tryd.isAgg96
  z198 := Tryd.sizeOf96
  v198 := Tryd.zeroValue96
  t226 := Tryd.underlying103
  a226 := Tryd.isAgg103
  z226 := Tryd.sizeOf103
  v226 := Tryd.zeroValue103 }
open Go.RowKit Go.Lib in
theorem Tryd.unicode_is16_white (R oR : Nat) (z : Nat) (w : World) (hz : z < 65536) (hz0 : 255 < z) (c6 : w.cell? ⟨R, oR + 6, none⟩ = some (.int .u16 160)) (c7 : w.cell? ⟨R, oR + 7, none⟩ = some (.int .u16 5760)) (c8 : w.cell? ⟨R, oR + 8, none⟩ = some (.int .u16 5600)) (c9 : w.cell? ⟨R, oR + 9, none⟩ = some (.int .u16 8192)) (c10 : w.cell? ⟨R, oR + 10, none⟩ = some (.int .u16 8202)) (c11 : w.cell? ⟨R, oR + 11, none⟩ = some (.int .u16 1)) (c12 : w.cell? ⟨R, oR + 12, none⟩ = some (.int .u16 8232)) (c13 : w.cell? ⟨R, oR + 13, none⟩ = some (.int .u16 8233)) (c14 : w.cell? ⟨R, oR + 14, none⟩ = some (.int .u16 1)) (c15 : w.cell? ⟨R, oR + 15, none⟩ = some (.int .u16 8239)) (c16 : w.cell? ⟨R, oR + 16, none⟩ = some (.int .u16 8287)) (c17 : w.cell? ⟨R, oR + 17, none⟩ = some (.int .u16 48)) (c18 : w.cell? ⟨R, oR + 18, none⟩ = some (.int .u16 12288)) (c19 : w.cell? ⟨R, oR + 19, none⟩ = some (.int .u16 12288)) (c20 : w.cell? ⟨R, oR + 20, none⟩ = some (.int .u16 1)) :
    Calls Tryd.prog 47 #[.slice (some ⟨R, oR + 6, none⟩) 5 5, .int .u16 z] w fun e w' => e = .returned (.bool (Lib.isSpaceR z)) ∧ Below w.heap.size w w' := Any.unicode_is16_white Tryd.lays311 R oR z w hz hz0 c6 c7 c8 c9 c10 c11 c12 c13 c14 c15 c16 c17 c18 c19 c20
def Tryd.lays261_ren : Go.Shelf.Ren := ⟨fun | 261 => 45 | 311 => 47 | 312 => 48 | n => n, fun | 141 => 80 | 21 => 21 | 4 => 4 | 0 => 0 | 196 => 94 | 193 => 91 | 3 => 3 | 51 => 77 | 198 => 96 | 49 => 66 | 194 => 92 | 201 => 99 | 226 => 103 | 46 => 69 | 227 => 104 | n => n, fun | n => n⟩
theorem Tryd.lays261 : Go.Proofs.Lays.n261 Tryd.prog Tryd.lays261_ren := {
  mixed := by kernel_rfl
  f261 := Tryd.func45.trans (congrArg some (by kernel_rfl))
  f311 := Tryd.func47.trans (congrArg some (by kernel_rfl))
  f312 := Tryd.func48.trans (congrArg some (by kernel_rfl))
  t0 := Tryd.underlying0
  a0 := Tryd.isAgg0
  z0 := Tryd.sizeOf0
  v0 := Tryd.zeroValue0
  t3 := Tryd.underlying3
  a3 := Tryd.isAgg3
  z3 := Tryd.sizeOf3
  v3 := Tryd.zeroValue3
  t4 := Tryd.underlying4
  a4 := Tryd.isAgg4
  z4 := Tryd.sizeOf4
  v4 := Tryd.zeroValue4
  t21 := Tryd.underlying21
  a21 := Tryd.isAgg21
  z21 := Tryd.sizeOf21
  v21 := Tryd.zeroValue21
  t46 := Tryd.underlying69
  a46 := Tryd.isAgg69
  z46 := Tryd.sizeOf69
  v46 := Tryd.zeroValue69
  t49 := Tryd.underlying66
  a49 := Tryd.isAgg66
  z49 := Tryd.sizeOf66
  v49 := Tryd.zeroValue66
  t51 := Tryd.underlying77
  a51 := Tryd.isAgg77
  z51 := Tryd.sizeOf77
  v51 := Tryd.zeroValue77
  t141 := Tryd.underlying80
  a141 := Tryd.isAgg80
  z141 := Tryd.sizeOf80
  v141 := Tryd.zeroValue80
  t193 := Tryd.underlying91
  a193 := Tryd.isAgg91
  z193 := Tryd.sizeOf91
  v193 := Tryd.zeroValue91
  t194 := Tryd.underlying92
  a194 := Tryd.isAgg92
  z194 := Tryd.sizeOf92
  v194 := Tryd.zeroValue92
  t196 := Tryd.underlying94
  a196 := Tryd.isAgg94
  z196 := Tryd.sizeOf94
  v196 := Tryd.zeroValue94
  t198 := Tryd.underlying96
  a198 := Tryd.isAgg96
  z198 := Tryd.sizeOf96
  v198 := Tryd.zeroValue96
  t201 := Tryd.underlying99
  a201 := Tryd.isAgg99
  z201 := Tryd.sizeOf99
  v201 := Tryd.zeroValue99
  t226 := Tryd.underlying103
  a226 := Tryd.isAgg103
  z226 := Tryd.sizeOf103
  v226 := Tryd.zeroValue103
  t227 := Tryd.underlying104
  a227 := Tryd.isAgg104
  z227 := Tryd.sizeOf104
  v227 := Tryd.zeroValue104 }
open Go.RowKit Go.Lib in
/-- unicode.isExcludingLatin(White_Space, r), r beyond U+00FF or negative. (LAID: no walk: one application.) -/
theorem Tryd.unicode_isExcludingLatin_white (T oT R oR : Nat) (r : Int) (w : World) (hlo : -2147483648 ≤ r) (hhi : r ≤ 2147483647) (hr : r < 0 ∨ 255 < r) (h2 : w.cell? ⟨T, oT, none⟩ = some (.slice (some ⟨R, oR, none⟩) 7 7)) (h3 : w.cell? ⟨T, oT + 1, none⟩ = some (.slice none 0 0)) (h4 : w.cell? ⟨T, oT + 2, none⟩ = some (.int .i64 2)) (h5 : ∀ i, i < 21 → w.cell? ⟨R, oR + i, none⟩ = some (.int .u16 (whiteT.getD i 0))) :
    Calls Tryd.prog 45 #[.pointer (some ⟨T, oT, none⟩), .int .i32 r] w fun e w' => e = .returned (.bool (Lib.isSpaceZ r)) ∧ Below w.heap.size w w' := Any.unicode_isExcludingLatin_white Tryd.lays261 T oT R oR r w hlo hhi hr h2 h3 h4 h5
def Tryd.lays274_ren : Go.Shelf.Ren := ⟨fun | 274 => 41 | n => n, fun | 21 => 21 | 162 => 74 | 160 => 72 | 3 => 3 | 4 => 4 | 46 => 69 | 0 => 0 | 208 => 84 | 51 => 77 | 206 => 82 | n => n, fun | n => n⟩
theorem Tryd.lays274 : Go.Proofs.Lays.n274 Tryd.prog Tryd.lays274_ren := {
  mixed := by kernel_rfl
  f274 := Tryd.func41.trans (congrArg some (by kernel_rfl))
  t0 := Tryd.underlying0
  a0 := Tryd.isAgg0
  z0 := Tryd.sizeOf0
  v0 := Tryd.zeroValue0
  t3 := Tryd.underlying3
  a3 := Tryd.isAgg3
  z3 := Tryd.sizeOf3
  v3 := Tryd.zeroValue3
  t4 := Tryd.underlying4
  a4 := Tryd.isAgg4
  z4 := Tryd.sizeOf4
  v4 := Tryd.zeroValue4
  t21 := Tryd.underlying21
  a21 := Tryd.isAgg21
  z21 := Tryd.sizeOf21
  v21 := Tryd.zeroValue21
  t46 := Tryd.underlying69
  a46 := Tryd.isAgg69
  z46 := Tryd.sizeOf69
  v46 := Tryd.zeroValue69
  t51 := Tryd.underlying77
  a51 := Tryd.isAgg77
  z51 := Tryd.sizeOf77
  v51 := Tryd.zeroValue77
  t160 := Tryd.underlying72
  a160 := Tryd.isAgg72
  z160 := Tryd.sizeOf72
  v160 := Tryd.zeroValue72
  t162 := Tryd.underlying74
  a162 := Tryd.isAgg74
  z162 := Tryd.sizeOf74
  v162 := Tryd.zeroValue74
  t208 := Tryd.underlying84
  a208 := Tryd.isAgg84
  z208 := Tryd.sizeOf84
  v208 := Tryd.zeroValue84 }
open Go.RowKit Go.Lib in
theorem Tryd.unicode_lookupCaseRange (T : Array CaseRow) (R oR cap : Nat) (r : Int) (w : World) (hT : CaseTab R oR T w) (hok : CaseOk T) (hn : T.size ≤ 1000000000) :
    Calls Tryd.prog 41 #[.int .i32 r, .slice (some ⟨R, oR, none⟩) T.size cap] w fun e w' =>
      e = .returned (match lookupIdx T r (T.size + 1) 0 T.size with | some i => .pointer (some ⟨R, oR + i * 5, none⟩) | none => .pointer none) ∧ w' = w := Any.unicode_lookupCaseRange Tryd.lays274 T R oR cap r w hT hok hn
def Tryd.lays275_ren : Go.Shelf.Ren := ⟨fun | 275 => 42 | n => n, fun | 3 => 3 | 21 => 21 | 160 => 72 | 0 => 0 | 208 => 84 | 206 => 82 | 4 => 4 | 51 => 77 | n => n, fun | n => n⟩
theorem Tryd.lays275 : Go.Proofs.Lays.n275 Tryd.prog Tryd.lays275_ren := {
  mixed := by kernel_rfl
  f275 := Tryd.func42.trans (congrArg some (by kernel_rfl))
  t0 := Tryd.underlying0
  a0 := Tryd.isAgg0
  z0 := Tryd.sizeOf0
  v0 := Tryd.zeroValue0
  t3 := Tryd.underlying3
  a3 := Tryd.isAgg3
  z3 := Tryd.sizeOf3
  v3 := Tryd.zeroValue3
  t4 := Tryd.underlying4
  a4 := Tryd.isAgg4
  z4 := Tryd.sizeOf4
  v4 := Tryd.zeroValue4
  t21 := Tryd.underlying21
  a21 := Tryd.isAgg21
  z21 := Tryd.sizeOf21
  v21 := Tryd.zeroValue21
  t51 := Tryd.underlying77
  a51 := Tryd.isAgg77
  z51 := Tryd.sizeOf77
  v51 := Tryd.zeroValue77
  t160 := Tryd.underlying72
  a160 := Tryd.isAgg72
  z160 := Tryd.sizeOf72
  v160 := Tryd.zeroValue72
  t206 := Tryd.underlying82
  a206 := Tryd.isAgg82
  z206 := Tryd.sizeOf82
  v206 := Tryd.zeroValue82
  t208 := Tryd.underlying84
  a208 := Tryd.isAgg84
  z208 := Tryd.sizeOf84
  v208 := Tryd.zeroValue84 }
open Go.RowKit Go.Lib in
theorem Tryd.unicode_convertCase (c : Nat) (hc : c < 3) (r : Int) (A o : Nat) (x : CaseRow) (w : World) (hlo : (x.1 : Int) ≤ r) (hhi : r ≤ (x.2.1 : Int)) (hH : x.2.1 < 2147483647) (c0 : w.cell? ⟨A, o, none⟩ = some (.int .u32 x.1)) (cD : w.cell? ⟨A, o + 2 + c, none⟩ = some (.int .i32 (x.delta c))) :
    Calls Tryd.prog 42 #[.int .i64 c, .int .i32 r, .pointer (some ⟨A, o, none⟩)] w fun e w' => e = .returned (.int .i32 (wrap32 (convertR c r x))) ∧ ∃ q, w' = w.drewN q := Any.unicode_convertCase Tryd.lays275 c hc r A o x w hlo hhi hH c0 cD
open Go.RowKit Go.Lib in
theorem Tryd.unicode_is16_any (T : Array Rg) (R oR cap : Nat) (z : Nat) (w : World) (hz : z < 65536) (hT : RgTab .u16 R oR T w) (hok : RgOk 65536 T) (hn : T.size ≤ 1000000000) :
    Calls Tryd.prog 47 #[.slice (some ⟨R, oR, none⟩) T.size cap, .int .u16 z] w fun e w' => e = .returned (.bool (is16Go T z)) ∧ ∃ q, w' = w.drewN q := Any.unicode_is16_any Tryd.lays311 T R oR cap z w hz hT hok hn
def Tryd.lays312_ren : Go.Shelf.Ren := ⟨fun | 312 => 48 | n => n, fun | 194 => 92 | 51 => 77 | 4 => 4 | 3 => 3 | 0 => 0 | 227 => 104 | 201 => 99 | 46 => 69 | n => n, fun | n => n⟩
theorem Tryd.lays312 : Go.Proofs.Lays.n312 Tryd.prog Tryd.lays312_ren := {
  mixed := by kernel_rfl
  f312 := Tryd.func48.trans (congrArg some (by kernel_rfl))
  t0 := Tryd.underlying0
  a0 := Tryd.isAgg0
  z0 := Tryd.sizeOf0
  v0 := Tryd.zeroValue0
  t3 := Tryd.underlying3
  a3 := Tryd.isAgg3
  z3 := Tryd.sizeOf3
  v3 := Tryd.zeroValue3
  t4 := Tryd.underlying4
  a4 := Tryd.isAgg4
  z4 := Tryd.sizeOf4
  v4 := Tryd.zeroValue4
  t46 := Tryd.underlying69
  a46 := Tryd.isAgg69
  z46 := Tryd.sizeOf69
  v46 := Tryd.zeroValue69
  t51 := Tryd.underlying77
  a51 := Tryd.isAgg77
  z51 := Tryd.sizeOf77
  v51 := Tryd.zeroValue77
  t194 := Tryd.underlying92
  a194 := Tryd.isAgg92
  z194 := Tryd.sizeOf92
  v194 := Tryd.zeroValue92
  t201 := Tryd.underlying99
  a201 := Tryd.isAgg99
  z201 := Tryd.sizeOf99
  v201 := Tryd.zeroValue99
  t227 := Tryd.underlying104
  a227 := Tryd.isAgg104
  z227 := Tryd.sizeOf104
  v227 := Tryd.zeroValue104 }
open Go.RowKit Go.Lib in
theorem Tryd.unicode_is32_any (T : Array Rg) (R oR cap : Nat) (z : Nat) (w : World) (hz : z < 4294967296) (hT : RgTab .u32 R oR T w) (hok : RgOk 4294967296 T) (hn : T.size ≤ 1000000000) :
    Calls Tryd.prog 48 #[.slice (some ⟨R, oR, none⟩) T.size cap, .int .u32 z] w fun e w' => e = .returned (.bool (is32Go T z)) ∧ Below w.heap.size w w' := Any.unicode_is32_any Tryd.lays312 T R oR cap z w hz hT hok hn
open Go.RowKit Go.Lib in
theorem Tryd.unicode_isExcludingLatin_any (Tb oT : Nat) (T : RTab) (r : Int) (w : World) (hlo : -2147483648 ≤ r) (hhi : r ≤ 2147483647) (hA : RTabAt Tb oT T w) (hok : RTabOk T) :
    Calls Tryd.prog 45 #[.pointer (some ⟨Tb, oT, none⟩), .int .i32 r] w fun e w' => e = .returned (.bool (exclGo T r)) ∧ Below w.heap.size w w' := Any.unicode_isExcludingLatin_any Tryd.lays261 Tb oT T r w hlo hhi hA hok
open Go.RowKit Go.Lib in
/-- unicode.IsUpper(r) AT EVERY int32, over whatever table the variable unicode.Upper leads to. (LAID: no walk: one application.) -/
theorem Tryd.unicode_IsUpper_any (T : RTab) (r : Int) (w : World) (hlo : -2147483648 ≤ r) (hhi : r ≤ 2147483647) (htab : Lib.TabIs Tryd.prog w "unicode.properties" .u8 Lib.propertiesTab) (hV : RVar 5 T w) (hok : RTabOk T) :
    Calls Tryd.prog 36 #[.int .i32 r] w fun e w' => e = .returned (.bool (if latin1 r then isUpperL r else exclGo T r)) ∧ Below w.heap.size w w' := Any.unicode_IsUpper_any Tryd.lays201 (by kernel_rfl) T r w hlo hhi htab hV hok
open Go.RowKit Go.Lib in
/-- unicode.IsLower(r) AT EVERY int32, over whatever table the variable unicode.Lower leads to. (LAID: no walk: one application.) -/
theorem Tryd.unicode_IsLower_any (T : RTab) (r : Int) (w : World) (hlo : -2147483648 ≤ r) (hhi : r ≤ 2147483647) (htab : Lib.TabIs Tryd.prog w "unicode.properties" .u8 Lib.propertiesTab) (hV : RVar 4 T w) (hok : RTabOk T) :
    Calls Tryd.prog 35 #[.int .i32 r] w fun e w' => e = .returned (.bool (if latin1 r then isLowerL r else exclGo T r)) ∧ Below w.heap.size w w' := Any.unicode_IsLower_any Tryd.lays202 (by kernel_rfl) T r w hlo hhi htab hV hok
open Go.RowKit Go.Lib in
/-- unicode.IsUpper(r) AT EVERY int32, the tables as their initialisers lay them: 'Lib.isUpperU r'. (LAID: no walk: one application.) -/
theorem Tryd.unicode_IsUpper_all (r : Int) (w : World) (hlo : -2147483648 ≤ r) (hhi : r ≤ 2147483647) (htab : Lib.TabIs Tryd.prog w "unicode.properties" .u8 Lib.propertiesTab) (hV : RVar 5 upperT w) :
    Calls Tryd.prog 36 #[.int .i32 r] w fun e w' => e = .returned (.bool (isUpperU r)) ∧ Below w.heap.size w w' := Any.unicode_IsUpper_all Tryd.lays201 (by kernel_rfl) r w hlo hhi htab hV
open Go.RowKit Go.Lib in
/-- unicode.IsLower(r) AT EVERY int32, the tables as their initialisers lay them: 'Lib.isLowerU r'. (LAID: no walk: one application.) -/
theorem Tryd.unicode_IsLower_all (r : Int) (w : World) (hlo : -2147483648 ≤ r) (hhi : r ≤ 2147483647) (htab : Lib.TabIs Tryd.prog w "unicode.properties" .u8 Lib.propertiesTab) (hV : RVar 4 lowerT w) :
    Calls Tryd.prog 35 #[.int .i32 r] w fun e w' => e = .returned (.bool (isLowerU r)) ∧ Below w.heap.size w w' := Any.unicode_IsLower_all Tryd.lays202 (by kernel_rfl) r w hlo hhi htab hV
end Go.Proofs
