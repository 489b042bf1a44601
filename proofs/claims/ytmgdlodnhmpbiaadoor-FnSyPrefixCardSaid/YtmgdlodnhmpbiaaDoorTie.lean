/-
  DERIVED. GIVEN WITH THE SEED: THE PROGRAM's TIES (one call each: nine closed facts by the kernel) AND EACH ROW's TIE, after the 31st guide's Derived/Test/Toyas{Tie, Card}.lean. No idea stands in it: it is a product of the set-up. Laid BY PROGRAM, IN A SANDBOX (cutbox-door.mjs). By AI agents, Wed Nov 11 2026. No macro, syntax, notation, axiom, sorry.
-/
import Derived.Test.YtmgdlodnhmpbiaaDoorRows
import Derived.LaidByTextLater
import Derived.SevenTiedAt
import Derived.LaidSub
import Derived.LaidOnce
namespace Go.Proofs.YtmgdlodnhmpbiaaDoor
open Go
set_option maxRecDepth 100000
theorem seatTie1 : Tryd.prog.laidByTextLater [("unicode/utf8.acceptRanges", Rows.laid_unicode_utf8_acceptRanges), ("unicode.properties", Rows.laid_unicode_properties)] [.data, .data] true :=
  Program.laidByTextLater_by_one 128 8 257 (by kernel_rfl) (by kernel_rfl) (by kernel_rfl) (by kernel_rfl) (by kernel_rfl) (by kernel_rfl) (fun _ _ => by kernel_rfl)
theorem seatTie2 : Tryd.prog.laidByTextLater [("unicode/utf8.acceptRanges", Rows.laid_unicode_utf8_acceptRanges), ("unicode.asciiFold", Rows.laid_unicode_asciiFold), ("unicode.caseOrbit", Rows.laid_unicode_caseOrbit)] [.data, .data, .data] true :=
  Program.laidByTextLater_by_one 128 8 257 (by kernel_rfl) (by kernel_rfl) (by kernel_rfl) (by kernel_rfl) (by kernel_rfl) (by kernel_rfl) (fun _ _ => by kernel_rfl)
theorem pin_laid_unicode_Digit : Tryd.pinned.checked.prog.pinnedFits "unicode.Digit" = true := by kernel_rfl
theorem pin_laid_unicode_Letter : Tryd.pinned.checked.prog.pinnedFits "unicode.Letter" = true := by kernel_rfl
theorem pin_laid_unicode_utf8_first : Tryd.pinned.checked.prog.pinnedFits "unicode/utf8.first" = true := by kernel_rfl
theorem pin_laid_unicode_CaseRanges : Tryd.pinned.checked.prog.pinnedFits "unicode.CaseRanges" = true := by kernel_rfl
theorem noOwnUnsafe : Tryd.pinned.checked.prog.headLifts.contains "ownunsafe" = false := by kernel_rfl
theorem fits1 : Tryd.pinned.checked.prog.listedFits [("unicode/utf8.acceptRanges", Rows.laid_unicode_utf8_acceptRanges), ("unicode.properties", Rows.laid_unicode_properties), ("unicode.Digit", Rows.laid_unicode_Digit), ("unicode.Letter", Rows.laid_unicode_Letter), ("unicode/utf8.first", Rows.laid_unicode_utf8_first)] = true := by
  unfold Program.listedFits
  rw [noOwnUnsafe]
  kernel_rfl
theorem tie : Tryd.prog.laidByTextLater [("unicode/utf8.acceptRanges", Rows.laid_unicode_utf8_acceptRanges), ("unicode.properties", Rows.laid_unicode_properties)] [.data, .data] true :=
  Program.laidByTextLater.sub seatTie1 ["unicode/utf8.acceptRanges", "unicode.properties"] (by kernel_rfl) (by kernel_rfl)
theorem fnTxTemplate_row_tie : Rows.fnTxTemplateRow.laidByTextAt .later Tryd.pinned [.data, .data, .pinned, .pinned, .pinned] true :=
  OpenClaim.laidByTextAt_pinned rfl rfl tie rfl rfl rfl rfl (fun y hy _e => by
    simp only [Rows.fnTxTemplateRow, List.zip_cons_cons, List.zip_nil_right, List.mem_cons, List.mem_nil_iff, or_false] at hy
    rcases hy with rfl | rfl | rfl | rfl | rfl
    · cases _e
    · cases _e
    · exact ⟨pin_laid_unicode_Digit, by kernel_rfl⟩
    · exact ⟨pin_laid_unicode_Letter, by kernel_rfl⟩
    · exact ⟨pin_laid_unicode_utf8_first, by kernel_rfl⟩) fits1
theorem fits2 : Tryd.pinned.checked.prog.listedFits [("unicode/utf8.acceptRanges", Rows.laid_unicode_utf8_acceptRanges), ("unicode.asciiFold", Rows.laid_unicode_asciiFold), ("unicode.caseOrbit", Rows.laid_unicode_caseOrbit), ("unicode.CaseRanges", Rows.laid_unicode_CaseRanges), ("unicode/utf8.first", Rows.laid_unicode_utf8_first)] = true := by
  unfold Program.listedFits
  rw [noOwnUnsafe]
  kernel_rfl
theorem tie2 : Tryd.prog.laidByTextLater [("unicode/utf8.acceptRanges", Rows.laid_unicode_utf8_acceptRanges), ("unicode.asciiFold", Rows.laid_unicode_asciiFold), ("unicode.caseOrbit", Rows.laid_unicode_caseOrbit)] [.data, .data, .data] true :=
  Program.laidByTextLater.sub seatTie2 ["unicode/utf8.acceptRanges", "unicode.asciiFold", "unicode.caseOrbit"] (by kernel_rfl) (by kernel_rfl)
theorem fnSyPrefix_row_tie : Rows.fnSyPrefixRow.laidByTextAt .later Tryd.pinned [.data, .data, .data, .pinned, .pinned] true :=
  OpenClaim.laidByTextAt_pinned rfl rfl tie2 rfl rfl rfl rfl (fun y hy _e => by
    simp only [Rows.fnSyPrefixRow, List.zip_cons_cons, List.zip_nil_right, List.mem_cons, List.mem_nil_iff, or_false] at hy
    rcases hy with rfl | rfl | rfl | rfl | rfl
    · cases _e
    · cases _e
    · cases _e
    · exact ⟨pin_laid_unicode_CaseRanges, by kernel_rfl⟩
    · exact ⟨pin_laid_unicode_utf8_first, by kernel_rfl⟩) fits2
theorem fnSySimplify_row_tie : Rows.fnSySimplifyRow.laidByTextAt .later Tryd.pinned [.data, .data, .data, .pinned, .pinned] true :=
  OpenClaim.laidByTextAt_pinned rfl rfl tie2 rfl rfl rfl rfl (fun y hy _e => by
    simp only [Rows.fnSySimplifyRow, List.zip_cons_cons, List.zip_nil_right, List.mem_cons, List.mem_nil_iff, or_false] at hy
    rcases hy with rfl | rfl | rfl | rfl | rfl
    · cases _e
    · cases _e
    · cases _e
    · exact ⟨pin_laid_unicode_CaseRanges, by kernel_rfl⟩
    · exact ⟨pin_laid_unicode_utf8_first, by kernel_rfl⟩) fits2
theorem fnTxTemplateUpto_row_tie : Rows.fnTxTemplateUptoRow.laidByTextAt .later Tryd.pinned [.data, .data, .pinned, .pinned, .pinned] true :=
  OpenClaim.laidByTextAt_pinned rfl rfl tie rfl rfl rfl rfl (fun y hy _e => by
    simp only [Rows.fnTxTemplateUptoRow, List.zip_cons_cons, List.zip_nil_right, List.mem_cons, List.mem_nil_iff, or_false] at hy
    rcases hy with rfl | rfl | rfl | rfl | rfl
    · cases _e
    · cases _e
    · exact ⟨pin_laid_unicode_Digit, by kernel_rfl⟩
    · exact ⟨pin_laid_unicode_Letter, by kernel_rfl⟩
    · exact ⟨pin_laid_unicode_utf8_first, by kernel_rfl⟩) fits1
theorem fnSyPrefixUpto_row_tie : Rows.fnSyPrefixUptoRow.laidByTextAt .later Tryd.pinned [.data, .data, .data, .pinned, .pinned] true :=
  OpenClaim.laidByTextAt_pinned rfl rfl tie2 rfl rfl rfl rfl (fun y hy _e => by
    simp only [Rows.fnSyPrefixUptoRow, List.zip_cons_cons, List.zip_nil_right, List.mem_cons, List.mem_nil_iff, or_false] at hy
    rcases hy with rfl | rfl | rfl | rfl | rfl
    · cases _e
    · cases _e
    · cases _e
    · exact ⟨pin_laid_unicode_CaseRanges, by kernel_rfl⟩
    · exact ⟨pin_laid_unicode_utf8_first, by kernel_rfl⟩) fits2
theorem fnSySimplifyUpto_row_tie : Rows.fnSySimplifyUptoRow.laidByTextAt .later Tryd.pinned [.data, .data, .data, .pinned, .pinned] true :=
  OpenClaim.laidByTextAt_pinned rfl rfl tie2 rfl rfl rfl rfl (fun y hy _e => by
    simp only [Rows.fnSySimplifyUptoRow, List.zip_cons_cons, List.zip_nil_right, List.mem_cons, List.mem_nil_iff, or_false] at hy
    rcases hy with rfl | rfl | rfl | rfl | rfl
    · cases _e
    · cases _e
    · cases _e
    · exact ⟨pin_laid_unicode_CaseRanges, by kernel_rfl⟩
    · exact ⟨pin_laid_unicode_utf8_first, by kernel_rfl⟩) fits2
end Go.Proofs.YtmgdlodnhmpbiaaDoor
