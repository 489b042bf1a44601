/-
 DERIVED: THE SHELF's CONTRACTS AT THIS DUMP, IN PLAIN WORDS (tools/lay-plain.mjs out of 'TrydShelfC.lean', which tools/lay-shelf.mjs wrote): THE SAME DECLARATIONS UNDER THE SAME NAMES: 'import', 'namespace', 'open', 'def', 'theorem' AND NOTHING ELSE: no command of the shelf's: FOR A HAND-IN. Each laying: the table of numbers ('.._ren') and one theorem, a field a fact of the dump's own or the kernel's comparison; each contract: ONE APPLICATION.
-/
import Derived.Shelf.Small.Utf8
import Derived.Shelf.Unicode.Decode
import Derived.Shelf.Unicode.DecodeSlow
import Derived.Shelf.Unicode.DecodeAny
import Derived.Shelf.Unicode.DecodeLast
import Derived.Shelf.Unicode.CaseLookup
import Derived.Shelf.Unicode.CaseConvert
import Derived.Test.YtcncclglmgdinaaDoorProg
namespace Go.Proofs
open Go.Shelf
def Tryd.lays274_ren : Go.Shelf.Ren := ⟨fun | 274 => 78 | n => n, fun | 21 => 21 | 162 => 170 | 160 => 168 | 3 => 3 | 4 => 4 | 46 => 128 | 0 => 0 | 208 => 189 | 51 => 75 | 206 => 187 | n => n, fun | n => n⟩
theorem Tryd.lays274 : Go.Proofs.Lays.n274 Tryd.prog Tryd.lays274_ren := {
 mixed := by kernel_rfl
 f274 := Tryd.func78.trans (congrArg some (by kernel_rfl))
 t0 := Tryd.underlying0
 a0 := Tryd.isAgg0
 z0 := Tryd.sizeOf0
 v0 := Tryd.zeroValue0
 t3 := Tryd.underlying3
 a3 := Tryd.isAgg3
 z3 := Tryd.sizeOf3
 v3 := Tryd.zeroValue3
 t4 := Tryd.underlying4
 a4 := Tryd.isAgg4
 z4 := Tryd.sizeOf4
 v4 := Tryd.zeroValue4
 t21 := Tryd.underlying21
 a21 := Tryd.isAgg21
 z21 := Tryd.sizeOf21
 v21 := Tryd.zeroValue21
 t46 := Tryd.underlying128
 a46 := Tryd.isAgg128
 z46 := Tryd.sizeOf128
 v46 := Tryd.zeroValue128
 t51 := Tryd.underlying75
 a51 := Tryd.isAgg75
 z51 := Tryd.sizeOf75
 v51 := Tryd.zeroValue75
 t160 := Tryd.underlying168
 a160 := Tryd.isAgg168
 z160 := Tryd.sizeOf168
 v160 := Tryd.zeroValue168
 t162 := Tryd.underlying170
 a162 := Tryd.isAgg170
 z162 := Tryd.sizeOf170
 v162 := Tryd.zeroValue170
 t208 := Tryd.underlying189
 a208 := Tryd.isAgg189
 z208 := Tryd.sizeOf189
 v208 := Tryd.zeroValue189 }
open Go.RowKit Go.Lib in
theorem Tryd.unicode_lookupCaseRange (T : Array CaseRow) (R oR cap : Nat) (r : Int) (w : World) (hT : CaseTab R oR T w) (hok : CaseOk T) (hn : T.size ≤ 1000000000) :
  Calls Tryd.prog 78 #[.int .i32 r, .slice (some ⟨R, oR, none⟩) T.size cap] w fun e w' =>
   e = .returned (match lookupIdx T r (T.size + 1) 0 T.size with | some i => .pointer (some ⟨R, oR + i * 5, none⟩) | none => .pointer none) ∧ w' = w := Any.unicode_lookupCaseRange Tryd.lays274 T R oR cap r w hT hok hn
def Tryd.lays275_ren : Go.Shelf.Ren := ⟨fun | 275 => 79 | n => n, fun | 3 => 3 | 21 => 21 | 160 => 168 | 0 => 0 | 208 => 189 | 206 => 187 | 4 => 4 | 51 => 75 | n => n, fun | n => n⟩
theorem Tryd.lays275 : Go.Proofs.Lays.n275 Tryd.prog Tryd.lays275_ren := {
 mixed := by kernel_rfl
 f275 := Tryd.func79.trans (congrArg some (by kernel_rfl))
 t0 := Tryd.underlying0
 a0 := Tryd.isAgg0
 z0 := Tryd.sizeOf0
 v0 := Tryd.zeroValue0
 t3 := Tryd.underlying3
 a3 := Tryd.isAgg3
 z3 := Tryd.sizeOf3
 v3 := Tryd.zeroValue3
 t4 := Tryd.underlying4
 a4 := Tryd.isAgg4
 z4 := Tryd.sizeOf4
 v4 := Tryd.zeroValue4
 t21 := Tryd.underlying21
 a21 := Tryd.isAgg21
 z21 := Tryd.sizeOf21
 v21 := Tryd.zeroValue21
 t51 := Tryd.underlying75
 a51 := Tryd.isAgg75
 z51 := Tryd.sizeOf75
 v51 := Tryd.zeroValue75
 t160 := Tryd.underlying168
 a160 := Tryd.isAgg168
 z160 := Tryd.sizeOf168
 v160 := Tryd.zeroValue168
 t206 := Tryd.underlying187
 a206 := Tryd.isAgg187
 z206 := Tryd.sizeOf187
 v206 := Tryd.zeroValue187
 t208 := Tryd.underlying189
 a208 := Tryd.isAgg189
 z208 := Tryd.sizeOf189
 v208 := Tryd.zeroValue189 }
open Go.RowKit Go.Lib in
theorem Tryd.unicode_convertCase (c : Nat) (hc : c < 3) (r : Int) (A o : Nat) (x : CaseRow) (w : World) (hlo : (x.1 : Int) ≤ r) (hhi : r ≤ (x.2.1 : Int)) (hH : x.2.1 < 2147483647) (c0 : w.cell? ⟨A, o, none⟩ = some (.int .u32 x.1)) (cD : w.cell? ⟨A, o + 2 + c, none⟩ = some (.int .i32 (x.delta c))) :
  Calls Tryd.prog 79 #[.int .i64 c, .int .i32 r, .pointer (some ⟨A, o, none⟩)] w fun e w' => e = .returned (.int .i32 (wrap32 (convertR c r x))) ∧ ∃ q, w' = w.drewN q := Any.unicode_convertCase Tryd.lays275 c hc r A o x w hlo hhi hH c0 cD
end Go.Proofs
