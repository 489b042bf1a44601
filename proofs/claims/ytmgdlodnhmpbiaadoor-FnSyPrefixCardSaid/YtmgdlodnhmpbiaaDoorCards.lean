/-
  DERIVED. GIVEN WITH THE SEED: THE CARDS: each row of YtmgdlodnhmpbiaaDoorRows.lean that lists a variable, with what it lists TIED to the program's text (the seventh form; the later family's looks); each row that meets fmt, with fmt's text TOLD by the authors' own Lean function (tested against real Go, not proved from fmt's source: count such statements apart). THE CARD IS WHAT COUNTS. Prove the row's statement (the work); the ties are given (YtmgdlodnhmpbiaaDoorTie.lean); close each card by the builder's one call (the guide's Derived/Test/ToyasCard.lean, 'card_holds'). Laid BY PROGRAM, IN A SANDBOX (cutbox-door.mjs). By AI agents, Wed Nov 11 2026. No macro, syntax, notation, axiom, sorry.
-/
import Derived.Test.YtmgdlodnhmpbiaaDoorRows
import GoSem.ClaimSeven
namespace Go.Proofs.YtmgdlodnhmpbiaaDoor
namespace Rows

/-- THE TIED CARD OF 'laws.FnTxTemplate'. -/
def fnTxTemplateCard : Claim7 := { stood := { row := fnTxTemplateRow, standIns := [], harness := (true, "109a33adffe09ce1ebc682d904a9d67115a4ec0af6d6dd1b7248f5ca1e6cadde"), looks := false }, kinds := [], alts := [], laidByText := true, laidKinds := [.data, .data, .pinned, .pinned, .pinned], laidTests := true, laidLooks := .later }
def FnTxTemplateCardSaid : Prop := Claim7.holds Tryd.pinned (.plain (OpenSpec.ofChange fnTxTemplateSpec)) fnTxTemplateCard

/-- THE TIED CARD OF 'laws.FnSyPrefix'. -/
def fnSyPrefixCard : Claim7 := { stood := { row := fnSyPrefixRow, standIns := [], harness := (true, "109a33adffe09ce1ebc682d904a9d67115a4ec0af6d6dd1b7248f5ca1e6cadde"), looks := false }, kinds := [], alts := [], laidByText := true, laidKinds := [.data, .data, .data, .pinned, .pinned], laidTests := true, laidLooks := .later }
def FnSyPrefixCardSaid : Prop := Claim7.holds Tryd.pinned (.plain (OpenSpec.ofChange fnSyPrefixSpec)) fnSyPrefixCard

/-- THE TIED CARD OF 'laws.FnSySimplify'. -/
def fnSySimplifyCard : Claim7 := { stood := { row := fnSySimplifyRow, standIns := [], harness := (true, "109a33adffe09ce1ebc682d904a9d67115a4ec0af6d6dd1b7248f5ca1e6cadde"), looks := false }, kinds := [], alts := [], laidByText := true, laidKinds := [.data, .data, .data, .pinned, .pinned], laidTests := true, laidLooks := .later }
def FnSySimplifyCardSaid : Prop := Claim7.holds Tryd.pinned (.plain (OpenSpec.ofChange fnSySimplifySpec)) fnSySimplifyCard

/-- THE SECOND FORM's CARD OF 'laws.FnTxTemplate'. -/
def fnTxTemplateUptoCard : Claim7 := { stood := { row := fnTxTemplateUptoRow, standIns := [], harness := (true, "109a33adffe09ce1ebc682d904a9d67115a4ec0af6d6dd1b7248f5ca1e6cadde"), looks := false }, kinds := [], alts := [], laidByText := true, laidKinds := [.data, .data, .pinned, .pinned, .pinned], laidTests := true, laidLooks := .later }
def FnTxTemplateUptoCardSaid : Prop := Claim7.holds Tryd.pinned (.plain (OpenSpec.upto fnTxTemplateSpec)) fnTxTemplateUptoCard

/-- THE SECOND FORM's CARD OF 'laws.FnSyPrefix'. -/
def fnSyPrefixUptoCard : Claim7 := { stood := { row := fnSyPrefixUptoRow, standIns := [], harness := (true, "109a33adffe09ce1ebc682d904a9d67115a4ec0af6d6dd1b7248f5ca1e6cadde"), looks := false }, kinds := [], alts := [], laidByText := true, laidKinds := [.data, .data, .data, .pinned, .pinned], laidTests := true, laidLooks := .later }
def FnSyPrefixUptoCardSaid : Prop := Claim7.holds Tryd.pinned (.plain (OpenSpec.upto fnSyPrefixSpec)) fnSyPrefixUptoCard

/-- THE SECOND FORM's CARD OF 'laws.FnSySimplify'. -/
def fnSySimplifyUptoCard : Claim7 := { stood := { row := fnSySimplifyUptoRow, standIns := [], harness := (true, "109a33adffe09ce1ebc682d904a9d67115a4ec0af6d6dd1b7248f5ca1e6cadde"), looks := false }, kinds := [], alts := [], laidByText := true, laidKinds := [.data, .data, .data, .pinned, .pinned], laidTests := true, laidLooks := .later }
def FnSySimplifyUptoCardSaid : Prop := Claim7.holds Tryd.pinned (.plain (OpenSpec.upto fnSySimplifySpec)) fnSySimplifyUptoCard
end Rows
end Go.Proofs.YtmgdlodnhmpbiaaDoor
