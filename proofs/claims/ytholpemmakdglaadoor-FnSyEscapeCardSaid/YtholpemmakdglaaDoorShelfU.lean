/-
  DERIVED: THE SHELF's CONTRACTS AT THIS DUMP, IN PLAIN WORDS (tools/lay-plain.mjs out of 'TrydShelfU.lean', which tools/lay-shelf.mjs wrote): THE SAME DECLARATIONS UNDER THE SAME NAMES: 'import', 'namespace', 'open', 'def', 'theorem' AND NOTHING ELSE: no command of the shelf's: FOR A HAND-IN. Each laying: the table of numbers ('.._ren') and one theorem, a field a fact of the dump's own or the kernel's comparison; each contract: ONE APPLICATION.
-/
import Derived.Shelf.Small.Utf8
import Derived.Shelf.Unicode.Latin
import Derived.Shelf.Unicode.Props
import Derived.Shelf.Unicode.DecodeSlow
import Derived.Shelf.Unicode.DecodeAny
import Derived.Shelf.Unicode.Is16White
import Derived.Shelf.Unicode.IsSpaceAny
import Derived.Shelf.Unicode.Is16Any
import Derived.Shelf.Unicode.Is32Any
import Derived.Shelf.Unicode.ExclAny
import Derived.Shelf.Unicode.PredsAny
import Derived.Test.YtholpemmakdglaaDoorProg
namespace Go.Proofs
open Go.Shelf
def Tryd.lays198_ren : Go.Shelf.Ren := ⟨fun | 198 => 49 | 261 => 67 | 311 => 80 | 312 => 81 | n => n, fun | 21 => 21 | 4 => 4 | 141 => 111 | 0 => 0 | 196 => 127 | 193 => 124 | 3 => 3 | 51 => 56 | 198 => 129 | 49 => 77 | 194 => 125 | 201 => 132 | 226 => 137 | 46 => 79 | 227 => 138 | n => n, fun | 5 => 7 | n => n⟩
theorem Tryd.lays198 : Go.Proofs.Lays.n198 Tryd.prog Tryd.lays198_ren := {
  mixed := by kernel_rfl
  f198 := Tryd.func49.trans (congrArg some (by kernel_rfl))
  f261 := Tryd.func67.trans (congrArg some (by kernel_rfl))
  f311 := Tryd.func80.trans (congrArg some (by kernel_rfl))
  f312 := Tryd.func81.trans (congrArg some (by kernel_rfl))
  t0 := Tryd.underlying0
  a0 := Tryd.isAgg0
  z0 := Tryd.sizeOf0
  v0 := Tryd.zeroValue0
  t3 := Tryd.underlying3
  a3 := Tryd.isAgg3
  z3 := Tryd.sizeOf3
  v3 := Tryd.zeroValue3
  t4 := Tryd.underlying4
  a4 := Tryd.isAgg4
  z4 := Tryd.sizeOf4
  v4 := Tryd.zeroValue4
  t21 := Tryd.underlying21
  a21 := Tryd.isAgg21
  z21 := Tryd.sizeOf21
  v21 := Tryd.zeroValue21
  t46 := Tryd.underlying79
  a46 := Tryd.isAgg79
  z46 := Tryd.sizeOf79
  v46 := Tryd.zeroValue79
  t49 := Tryd.underlying77
  a49 := Tryd.isAgg77
  z49 := Tryd.sizeOf77
  v49 := Tryd.zeroValue77
  t51 := Tryd.underlying56
  a51 := Tryd.isAgg56
  z51 := Tryd.sizeOf56
  v51 := Tryd.zeroValue56
  t141 := Tryd.underlying111
  a141 := Tryd.isAgg111
  z141 := Tryd.sizeOf111
  v141 := Tryd.zeroValue111
  t193 := Tryd.underlying124
  a193 := Tryd.isAgg124
  z193 := Tryd.sizeOf124
  v193 := Tryd.zeroValue124
  t194 := Tryd.underlying125
  a194 := Tryd.isAgg125
  z194 := Tryd.sizeOf125
  v194 := Tryd.zeroValue125
  t196 := Tryd.underlying127
  a196 := Tryd.isAgg127
  z196 := Tryd.sizeOf127
  v196 := Tryd.zeroValue127
  t198 := Tryd.underlying129
  a198 := Tryd.isAgg129
  z198 := Tryd.sizeOf129
  v198 := Tryd.zeroValue129
  t201 := Tryd.underlying132
  a201 := Tryd.isAgg132
  z201 := Tryd.sizeOf132
  v201 := Tryd.zeroValue132
  t226 := Tryd.underlying137
  a226 := Tryd.isAgg137
  z226 := Tryd.sizeOf137
  v226 := Tryd.zeroValue137
  t227 := Tryd.underlying138
  a227 := Tryd.isAgg138
  z227 := Tryd.sizeOf138
  v227 := Tryd.zeroValue138
  g5 := by kernel_rfl }
def Tryd.lays200_ren : Go.Shelf.Ren := ⟨fun | 200 => 48 | 261 => 67 | 311 => 80 | 312 => 81 | n => n, fun | 21 => 21 | 4 => 4 | 51 => 56 | 5 => 5 | 119 => 106 | 0 => 0 | 141 => 111 | 196 => 127 | 193 => 124 | 3 => 3 | 198 => 129 | 49 => 77 | 194 => 125 | 201 => 132 | 226 => 137 | 46 => 79 | 227 => 138 | n => n, fun | 7 => 5 | 8 => 6 | n => n⟩
theorem Tryd.lays200 : Go.Proofs.Lays.n200 Tryd.prog Tryd.lays200_ren := {
  mixed := by kernel_rfl
  f200 := Tryd.func48.trans (congrArg some (by kernel_rfl))
  f261 := Tryd.func67.trans (congrArg some (by kernel_rfl))
  f311 := Tryd.func80.trans (congrArg some (by kernel_rfl))
  f312 := Tryd.func81.trans (congrArg some (by kernel_rfl))
  t0 := Tryd.underlying0
  a0 := Tryd.isAgg0
  z0 := Tryd.sizeOf0
  v0 := Tryd.zeroValue0
  t3 := Tryd.underlying3
  a3 := Tryd.isAgg3
  z3 := Tryd.sizeOf3
  v3 := Tryd.zeroValue3
  t4 := Tryd.underlying4
  a4 := Tryd.isAgg4
  z4 := Tryd.sizeOf4
  v4 := Tryd.zeroValue4
  t5 := Tryd.underlying5
  a5 := Tryd.isAgg5
  z5 := Tryd.sizeOf5
  v5 := Tryd.zeroValue5
  t21 := Tryd.underlying21
  a21 := Tryd.isAgg21
  z21 := Tryd.sizeOf21
  v21 := Tryd.zeroValue21
  t46 := Tryd.underlying79
  a46 := Tryd.isAgg79
  z46 := Tryd.sizeOf79
  v46 := Tryd.zeroValue79
  t49 := Tryd.underlying77
  a49 := Tryd.isAgg77
  z49 := Tryd.sizeOf77
  v49 := Tryd.zeroValue77
  t51 := Tryd.underlying56
  a51 := Tryd.isAgg56
  z51 := Tryd.sizeOf56
  v51 := Tryd.zeroValue56
  t119 := Tryd.underlying106
  a119 := Tryd.isAgg106
  z119 := Tryd.sizeOf106
  t141 := Tryd.underlying111
  a141 := Tryd.isAgg111
  z141 := Tryd.sizeOf111
  v141 := Tryd.zeroValue111
  t193 := Tryd.underlying124
  a193 := Tryd.isAgg124
  z193 := Tryd.sizeOf124
  v193 := Tryd.zeroValue124
  t194 := Tryd.underlying125
  a194 := Tryd.isAgg125
  z194 := Tryd.sizeOf125
  v194 := Tryd.zeroValue125
  t196 := Tryd.underlying127
  a196 := Tryd.isAgg127
  z196 := Tryd.sizeOf127
  v196 := Tryd.zeroValue127
  t198 := Tryd.underlying129
  a198 := Tryd.isAgg129
  z198 := Tryd.sizeOf129
  v198 := Tryd.zeroValue129
  t201 := Tryd.underlying132
  a201 := Tryd.isAgg132
  z201 := Tryd.sizeOf132
  v201 := Tryd.zeroValue132
  t226 := Tryd.underlying137
  a226 := Tryd.isAgg137
  z226 := Tryd.sizeOf137
  v226 := Tryd.zeroValue137
  t227 := Tryd.underlying138
  a227 := Tryd.isAgg138
  z227 := Tryd.sizeOf138
  v227 := Tryd.zeroValue138
  g7 := by kernel_rfl
  g8 := by kernel_rfl }
def Tryd.lays197_ren : Go.Shelf.Ren := ⟨fun | 197 => 26 | 260 => 47 | n => n, fun | 9 => 9 | 21 => 21 | 3 => 3 | 4 => 4 | 5 => 5 | 105 => 48 | 119 => 106 | 0 => 0 | 46 => 79 | 139 => 109 | 138 => 108 | n => n, fun | 3 => 3 | 4 => 4 | n => n⟩
theorem Tryd.lays197 : Go.Proofs.Lays.n197 Tryd.prog Tryd.lays197_ren := {
  mixed := by kernel_rfl
  f197 := Tryd.func26.trans (congrArg some (by kernel_rfl))
  f260 := Tryd.func47.trans (congrArg some (by kernel_rfl))
  t0 := Tryd.underlying0
  a0 := Tryd.isAgg0
  z0 := Tryd.sizeOf0
  v0 := Tryd.zeroValue0
  t3 := Tryd.underlying3
  a3 := Tryd.isAgg3
  z3 := Tryd.sizeOf3
  v3 := Tryd.zeroValue3
  t4 := Tryd.underlying4
  a4 := Tryd.isAgg4
  z4 := Tryd.sizeOf4
  v4 := Tryd.zeroValue4
  t5 := Tryd.underlying5
  a5 := Tryd.isAgg5
  z5 := Tryd.sizeOf5
  v5 := Tryd.zeroValue5
  t9 := Tryd.underlying9
  a9 := Tryd.isAgg9
  z9 := Tryd.sizeOf9
  v9 := Tryd.zeroValue9
  t21 := Tryd.underlying21
  a21 := Tryd.isAgg21
  z21 := Tryd.sizeOf21
  v21 := Tryd.zeroValue21
  t46 := Tryd.underlying79
  a46 := Tryd.isAgg79
  z46 := Tryd.sizeOf79
  v46 := Tryd.zeroValue79
  t105 := Tryd.underlying48
  a105 := Tryd.isAgg48
  z105 := Tryd.sizeOf48
  v105 := Tryd.zeroValue48
  t119 := Tryd.underlying106
  a119 := Tryd.isAgg106
  z119 := Tryd.sizeOf106
  t138 := Tryd.underlying108
  a138 := Tryd.isAgg108
  z138 := Tryd.sizeOf108
  v138 := Tryd.zeroValue108
  t139 := Tryd.underlying109
  a139 := Tryd.isAgg109
  z139 := Tryd.sizeOf109
  v139 := Tryd.zeroValue109
  g3 := by kernel_rfl
  g4 := by kernel_rfl }
open Go.RowKit Go.Lib in
/-- **unicode/utf8.DecodeRuneInString AT EVERY STRING.** (LAID: no walk: one application.) -/
theorem Tryd.utf8_DecodeRuneInString (s : ByteArray) (w : World) (hT : Lib.Utf8Tabs 3 4 w) :
    Calls Tryd.prog 26 #[.string s] w fun e w' => e = .returned (.tuple #[.int .i32 (Lib.decodeGo s).1, .int .i64 (Lib.decodeGo s).2]) ∧ Below w.heap.size w w' := Any.utf8_DecodeRuneInString Tryd.lays197 s w hT
open Go.RowKit Go.Lib in
/-- unicode.IsLetter(r) AT EVERY int32, over whatever table the variable unicode.Letter leads to. (LAID: no walk: one application.) -/
theorem Tryd.unicode_IsLetter_any (T : RTab) (r : Int) (w : World) (hlo : -2147483648 ≤ r) (hhi : r ≤ 2147483647) (htab : Lib.TabIs Tryd.prog w "unicode.properties" .u8 Lib.propertiesTab) (hV : RVar 6 T w) (hok : RTabOk T) :
    Calls Tryd.prog 48 #[.int .i32 r] w fun e w' => e = .returned (.bool (if latin1 r then isLetterL r else exclGo T r)) ∧ Below w.heap.size w w' := Any.unicode_IsLetter_any Tryd.lays200 (by kernel_rfl) T r w hlo hhi htab hV hok
open Go.RowKit Go.Lib in
/-- unicode.IsDigit(r) AT EVERY int32, over whatever table the variable unicode.Digit leads to. (LAID: no walk: one application.) -/
theorem Tryd.unicode_IsDigit_any (T : RTab) (r : Int) (w : World) (hlo : -2147483648 ≤ r) (hhi : r ≤ 2147483647) (hV : RVar 7 T w) (hok : RTabOk T) :
    Calls Tryd.prog 49 #[.int .i32 r] w fun e w' => e = .returned (.bool (if r ≤ 255 then isDigitL r else exclGo T r)) ∧ Below w.heap.size w w' := Any.unicode_IsDigit_any Tryd.lays198 T r w hlo hhi hV hok
end Go.Proofs
