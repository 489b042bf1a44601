/- Where the library's five tables of characters read as Go's text lays them, the walk's facts on them hold. -/
import Derived.Test.YtmgdlodnhmpbiaaDoorTxLib
import Derived.Lib.LaidU8
import Derived.Lib.LaidRTab
import Derived.Lib.LaidTab
import Derived.PinnedBridge
namespace Go.Proofs.YtmgdlodnhmpbiaaDoor.Tx
open Go.RowKit Go.Lib Go.ChangeShapes Go.WideShapes
set_option linter.unusedVariables false
theorem u8X : U8Extra Tryd.prog Tryd.lays197_ren := ⟨by kernel_rfl, by kernel_rfl, by kernel_rfl, by kernel_rfl, by kernel_rfl, by kernel_rfl, by kernel_rfl⟩
theorem letX : RExtra Tryd.prog Tryd.lays200_ren := ⟨by kernel_rfl, by kernel_rfl, by kernel_rfl, by kernel_rfl, by kernel_rfl, by kernel_rfl, by kernel_rfl, by kernel_rfl⟩
theorem digX : RExtra Tryd.prog Tryd.lays198_ren := ⟨by kernel_rfl, by kernel_rfl, by kernel_rfl, by kernel_rfl, by kernel_rfl, by kernel_rfl, by kernel_rfl, by kernel_rfl⟩
theorem accept_eq : (Rows.laid_unicode_utf8_acceptRanges : DataW Unit) = acceptData := by kernel_rfl
theorem props_eq : (Rows.laid_unicode_properties : DataW Unit) = tabData .u8 propertiesTab := by kernel_rfl
theorem tabIs_of_reads {P : Program} {W : World} {name : String} {k : IntKind} {zs : List Int} {g : Nat} {t e : TypeId} {n : Nat}
    (hg : P.globalNamed name = some g) (hty : (P.globals[g]?).map (·.type) = some t) (ht : P.underlying t = some (.array n e)) (he : P.underlying e = some (.int k)) (hce : P.cellsOf e = 1) (hct : P.cellsOf t = n)
    (h : VarReads P W name (tabData k zs)) : TabIs P W name k zs := by
  obtain ⟨g', t', cs, fuel, p, hg', ht', hvar, hd⟩ := h
  obtain rfl := Option.some.inj (hg.symm.trans hg')
  obtain rfl := Option.some.inj (hty.symm.trans ht')
  unfold TabIs
  rw [hvar, ← cells_of_tab ht he hce hct hd]
theorem utf_of_reads {w : World} (h1 : VarReads Tryd.prog w "unicode/utf8.first" Rows.laid_unicode_utf8_first) (h2 : VarReads Tryd.prog w "unicode/utf8.acceptRanges" Rows.laid_unicode_utf8_acceptRanges) : Lib.Utf8Tabs 0 1 w := by
  rw [show Rows.laid_unicode_utf8_first = firstData from Pinned.utf8First_eq] at h1
  rw [accept_eq] at h2
  exact utf8Tabs_of_reads { Tryd.lays197 with } u8X h1 h2
theorem uTabs_of_reads {w : World} (h1 : VarReads Tryd.prog w "unicode/utf8.first" Rows.laid_unicode_utf8_first) (h2 : VarReads Tryd.prog w "unicode/utf8.acceptRanges" Rows.laid_unicode_utf8_acceptRanges)
    (h3 : VarReads Tryd.prog w "unicode.properties" Rows.laid_unicode_properties) (h4 : VarReads Tryd.prog w "unicode.Letter" Rows.laid_unicode_Letter) (h5 : VarReads Tryd.prog w "unicode.Digit" Rows.laid_unicode_Digit) : UTabs w := by
  rw [props_eq] at h3
  rw [show Rows.laid_unicode_Letter = rtabData letterT from Pinned.letter_eq] at h4
  rw [show Rows.laid_unicode_Digit = rtabData digitT from Pinned.digit_eq] at h5
  exact ⟨utf_of_reads h1 h2, tabIs_of_reads (g := 5) (t := 160) (e := 5) (n := 256) (by kernel_rfl) (by kernel_rfl) Tryd.underlying160 Tryd.underlying5 (by kernel_rfl) (by kernel_rfl) h3,
    rvar_of_reads { Tryd.lays200 with } letX (by kernel_rfl) (by kernel_rfl) h4, rvar_of_reads { Tryd.lays198 with } digX (by kernel_rfl) (by kernel_rfl) h5⟩
end Go.Proofs.YtmgdlodnhmpbiaaDoor.Tx
