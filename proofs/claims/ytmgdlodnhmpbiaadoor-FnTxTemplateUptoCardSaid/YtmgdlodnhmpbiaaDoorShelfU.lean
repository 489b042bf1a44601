/-
  DERIVED: THE SHELF's CONTRACTS AT THIS DUMP, IN PLAIN WORDS (tools/lay-plain.mjs out of 'TrydShelfU.lean', which tools/lay-shelf.mjs wrote): THE SAME DECLARATIONS UNDER THE SAME NAMES: 'import', 'namespace', 'open', 'def', 'theorem' AND NOTHING ELSE: no command of the shelf's: FOR A HAND-IN. Each laying: the table of numbers ('.._ren') and one theorem, a field a fact of the dump's own or the kernel's comparison; each contract: ONE APPLICATION.
-/
import Derived.Shelf.Small.Utf8
import Derived.Shelf.Unicode.Latin
import Derived.Shelf.Unicode.Props
import Derived.Shelf.Unicode.DecodeSlow
import Derived.Shelf.Unicode.DecodeAny
import Derived.Shelf.Unicode.Is16White
import Derived.Shelf.Unicode.IsSpaceAny
import Derived.Shelf.Unicode.CaseLookup
import Derived.Shelf.Unicode.CaseConvert
import Derived.Shelf.Unicode.Is16Any
import Derived.Shelf.Unicode.Is32Any
import Derived.Shelf.Unicode.ExclAny
import Derived.Shelf.Unicode.PredsAny
import Derived.Test.YtmgdlodnhmpbiaaDoorProg
namespace Go.Proofs
open Go.Shelf
def Tryd.lays198_ren : Go.Shelf.Ren := ⟨fun | 198 => 96 | 261 => 102 | 311 => 103 | 312 => 104 | n => n, fun | 21 => 21 | 4 => 4 | 141 => 174 | 0 => 0 | 196 => 182 | 193 => 179 | 3 => 3 | 51 => 87 | 198 => 184 | 49 => 108 | 194 => 180 | 201 => 187 | 226 => 189 | 46 => 161 | 227 => 190 | n => n, fun | 5 => 7 | n => n⟩
theorem Tryd.lays198 : Go.Proofs.Lays.n198 Tryd.prog Tryd.lays198_ren := {
  mixed := by kernel_rfl
  f198 := Tryd.func96.trans (congrArg some (by kernel_rfl))
  f261 := Tryd.func102.trans (congrArg some (by kernel_rfl))
  f311 := Tryd.func103.trans (congrArg some (by kernel_rfl))
  f312 := Tryd.func104.trans (congrArg some (by kernel_rfl))
  t0 := Tryd.underlying0
  a0 := Tryd.isAgg0
  z0 := Tryd.sizeOf0
  v0 := Tryd.zeroValue0
  t3 := Tryd.underlying3
  a3 := Tryd.isAgg3
  z3 := Tryd.sizeOf3
  v3 := Tryd.zeroValue3
  t4 := Tryd.underlying4
  a4 := Tryd.isAgg4
  z4 := Tryd.sizeOf4
  v4 := Tryd.zeroValue4
  t21 := Tryd.underlying21
  a21 := Tryd.isAgg21
  z21 := Tryd.sizeOf21
  v21 := Tryd.zeroValue21
  t46 := Tryd.underlying161
  a46 := Tryd.isAgg161
  z46 := Tryd.sizeOf161
  v46 := Tryd.zeroValue161
  t49 := Tryd.underlying108
  a49 := Tryd.isAgg108
  z49 := Tryd.sizeOf108
  v49 := Tryd.zeroValue108
  t51 := Tryd.underlying87
  a51 := Tryd.isAgg87
  z51 := Tryd.sizeOf87
  v51 := Tryd.zeroValue87
  t141 := Tryd.underlying174
  a141 := Tryd.isAgg174
  z141 := Tryd.sizeOf174
  v141 := Tryd.zeroValue174
  t193 := Tryd.underlying179
  a193 := Tryd.isAgg179
  z193 := Tryd.sizeOf179
  v193 := Tryd.zeroValue179
  t194 := Tryd.underlying180
  a194 := Tryd.isAgg180
  z194 := Tryd.sizeOf180
  v194 := Tryd.zeroValue180
  t196 := Tryd.underlying182
  a196 := Tryd.isAgg182
  z196 := Tryd.sizeOf182
  v196 := Tryd.zeroValue182
  t198 := Tryd.underlying184
  a198 := Tryd.isAgg184
  z198 := Tryd.sizeOf184
  v198 := Tryd.zeroValue184
  t201 := Tryd.underlying187
  a201 := Tryd.isAgg187
  z201 := Tryd.sizeOf187
  v201 := Tryd.zeroValue187
  t226 := Tryd.underlying189
  a226 := Tryd.isAgg189
  z226 := Tryd.sizeOf189
  v226 := Tryd.zeroValue189
  t227 := Tryd.underlying190
  a227 := Tryd.isAgg190
  z227 := Tryd.sizeOf190
  v227 := Tryd.zeroValue190
  g5 := by kernel_rfl }
def Tryd.lays200_ren : Go.Shelf.Ren := ⟨fun | 200 => 95 | 261 => 102 | 311 => 103 | 312 => 104 | n => n, fun | 21 => 21 | 4 => 4 | 51 => 87 | 5 => 5 | 119 => 160 | 0 => 0 | 141 => 174 | 196 => 182 | 193 => 179 | 3 => 3 | 198 => 184 | 49 => 108 | 194 => 180 | 201 => 187 | 226 => 189 | 46 => 161 | 227 => 190 | n => n, fun | 7 => 5 | 8 => 6 | n => n⟩
theorem Tryd.lays200 : Go.Proofs.Lays.n200 Tryd.prog Tryd.lays200_ren := {
  mixed := by kernel_rfl
  f200 := Tryd.func95.trans (congrArg some (by kernel_rfl))
  f261 := Tryd.func102.trans (congrArg some (by kernel_rfl))
  f311 := Tryd.func103.trans (congrArg some (by kernel_rfl))
  f312 := Tryd.func104.trans (congrArg some (by kernel_rfl))
  t0 := Tryd.underlying0
  a0 := Tryd.isAgg0
  z0 := Tryd.sizeOf0
  v0 := Tryd.zeroValue0
  t3 := Tryd.underlying3
  a3 := Tryd.isAgg3
  z3 := Tryd.sizeOf3
  v3 := Tryd.zeroValue3
  t4 := Tryd.underlying4
  a4 := Tryd.isAgg4
  z4 := Tryd.sizeOf4
  v4 := Tryd.zeroValue4
  t5 := Tryd.underlying5
  a5 := Tryd.isAgg5
  z5 := Tryd.sizeOf5
  v5 := Tryd.zeroValue5
  t21 := Tryd.underlying21
  a21 := Tryd.isAgg21
  z21 := Tryd.sizeOf21
  v21 := Tryd.zeroValue21
  t46 := Tryd.underlying161
  a46 := Tryd.isAgg161
  z46 := Tryd.sizeOf161
  v46 := Tryd.zeroValue161
  t49 := Tryd.underlying108
  a49 := Tryd.isAgg108
  z49 := Tryd.sizeOf108
  v49 := Tryd.zeroValue108
  t51 := Tryd.underlying87
  a51 := Tryd.isAgg87
  z51 := Tryd.sizeOf87
  v51 := Tryd.zeroValue87
  t119 := Tryd.underlying160
  a119 := Tryd.isAgg160
  z119 := Tryd.sizeOf160
  t141 := Tryd.underlying174
  a141 := Tryd.isAgg174
  z141 := Tryd.sizeOf174
  v141 := Tryd.zeroValue174
  t193 := Tryd.underlying179
  a193 := Tryd.isAgg179
  z193 := Tryd.sizeOf179
  v193 := Tryd.zeroValue179
  t194 := Tryd.underlying180
  a194 := Tryd.isAgg180
  z194 := Tryd.sizeOf180
  v194 := Tryd.zeroValue180
  t196 := Tryd.underlying182
  a196 := Tryd.isAgg182
  z196 := Tryd.sizeOf182
  v196 := Tryd.zeroValue182
  t198 := Tryd.underlying184
  a198 := Tryd.isAgg184
  z198 := Tryd.sizeOf184
  v198 := Tryd.zeroValue184
  t201 := Tryd.underlying187
  a201 := Tryd.isAgg187
  z201 := Tryd.sizeOf187
  v201 := Tryd.zeroValue187
  t226 := Tryd.underlying189
  a226 := Tryd.isAgg189
  z226 := Tryd.sizeOf189
  v226 := Tryd.zeroValue189
  t227 := Tryd.underlying190
  a227 := Tryd.isAgg190
  z227 := Tryd.sizeOf190
  v227 := Tryd.zeroValue190
  g7 := by kernel_rfl
  g8 := by kernel_rfl }
def Tryd.lays197_ren : Go.Shelf.Ren := ⟨fun | 197 => 62 | 260 => 82 | n => n, fun | 9 => 9 | 21 => 21 | 3 => 3 | 4 => 4 | 5 => 5 | 105 => 69 | 119 => 160 | 0 => 0 | 46 => 161 | 139 => 164 | 138 => 163 | n => n, fun | 3 => 0 | 4 => 1 | n => n⟩
theorem Tryd.lays197 : Go.Proofs.Lays.n197 Tryd.prog Tryd.lays197_ren := {
  mixed := by kernel_rfl
  f197 := Tryd.func62.trans (congrArg some (by kernel_rfl))
  f260 := Tryd.func82.trans (congrArg some (by kernel_rfl))
  t0 := Tryd.underlying0
  a0 := Tryd.isAgg0
  z0 := Tryd.sizeOf0
  v0 := Tryd.zeroValue0
  t3 := Tryd.underlying3
  a3 := Tryd.isAgg3
  z3 := Tryd.sizeOf3
  v3 := Tryd.zeroValue3
  t4 := Tryd.underlying4
  a4 := Tryd.isAgg4
  z4 := Tryd.sizeOf4
  v4 := Tryd.zeroValue4
  t5 := Tryd.underlying5
  a5 := Tryd.isAgg5
  z5 := Tryd.sizeOf5
  v5 := Tryd.zeroValue5
  t9 := Tryd.underlying9
  a9 := Tryd.isAgg9
  z9 := Tryd.sizeOf9
  v9 := Tryd.zeroValue9
  t21 := Tryd.underlying21
  a21 := Tryd.isAgg21
  z21 := Tryd.sizeOf21
  v21 := Tryd.zeroValue21
  t46 := Tryd.underlying161
  a46 := Tryd.isAgg161
  z46 := Tryd.sizeOf161
  v46 := Tryd.zeroValue161
  t105 := Tryd.underlying69
  a105 := Tryd.isAgg69
  z105 := Tryd.sizeOf69
  v105 := Tryd.zeroValue69
  t119 := Tryd.underlying160
  a119 := Tryd.isAgg160
  z119 := Tryd.sizeOf160
  t138 := Tryd.underlying163
  a138 := Tryd.isAgg163
  z138 := Tryd.sizeOf163
  v138 := Tryd.zeroValue163
  t139 := Tryd.underlying164
  a139 := Tryd.isAgg164
  z139 := Tryd.sizeOf164
  v139 := Tryd.zeroValue164
  g3 := by kernel_rfl
  g4 := by kernel_rfl }
open Go.RowKit Go.Lib in
/-- **unicode/utf8.DecodeRuneInString AT EVERY STRING.** (LAID: no walk: one application.) -/
theorem Tryd.utf8_DecodeRuneInString (s : ByteArray) (w : World) (hT : Lib.Utf8Tabs 0 1 w) :
    Calls Tryd.prog 62 #[.string s] w fun e w' => e = .returned (.tuple #[.int .i32 (Lib.decodeGo s).1, .int .i64 (Lib.decodeGo s).2]) ∧ Below w.heap.size w w' := Any.utf8_DecodeRuneInString Tryd.lays197 s w hT
open Go.RowKit Go.Lib in
/-- unicode.IsLetter(r) AT EVERY int32, over whatever table the variable unicode.Letter leads to. (LAID: no walk: one application.) -/
theorem Tryd.unicode_IsLetter_any (T : RTab) (r : Int) (w : World) (hlo : -2147483648 ≤ r) (hhi : r ≤ 2147483647) (htab : Lib.TabIs Tryd.prog w "unicode.properties" .u8 Lib.propertiesTab) (hV : RVar 6 T w) (hok : RTabOk T) :
    Calls Tryd.prog 95 #[.int .i32 r] w fun e w' => e = .returned (.bool (if latin1 r then isLetterL r else exclGo T r)) ∧ Below w.heap.size w w' := Any.unicode_IsLetter_any Tryd.lays200 (by kernel_rfl) T r w hlo hhi htab hV hok
open Go.RowKit Go.Lib in
/-- unicode.IsDigit(r) AT EVERY int32, over whatever table the variable unicode.Digit leads to. (LAID: no walk: one application.) -/
theorem Tryd.unicode_IsDigit_any (T : RTab) (r : Int) (w : World) (hlo : -2147483648 ≤ r) (hhi : r ≤ 2147483647) (hV : RVar 7 T w) (hok : RTabOk T) :
    Calls Tryd.prog 96 #[.int .i32 r] w fun e w' => e = .returned (.bool (if r ≤ 255 then isDigitL r else exclGo T r)) ∧ Below w.heap.size w w' := Any.unicode_IsDigit_any Tryd.lays198 T r w hlo hhi hV hok
end Go.Proofs
