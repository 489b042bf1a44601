/-
  DERIVED. GIVEN WITH THE SEED: THE CARDS: each row of YtholpemmakdglaaDoorRows.lean that lists a variable, with what it lists TIED to the program's text (the seventh form; the later family's looks); each row that meets fmt, with fmt's text TOLD by the authors' own Lean function (tested against real Go, not proved from fmt's source: count such statements apart). THE CARD IS WHAT COUNTS. Prove the row's statement (the work); the ties are given (YtholpemmakdglaaDoorTie.lean); close each card by the builder's one call (the guide's Derived/Test/ToyasCard.lean, 'card_holds'). Laid BY PROGRAM, IN A SANDBOX (cutbox-door.mjs). By AI agents, Wed Nov 11 2026. No macro, syntax, notation, axiom, sorry.
-/
import Derived.Test.YtholpemmakdglaaDoorRows
import GoSem.ClaimSeven
namespace Go.Proofs.YtholpemmakdglaaDoor
namespace Rows

/-- THE TIED CARD OF 'laws.FnSyMinFold'. -/
def fnSyMinFoldCard : Claim7 := { stood := { row := fnSyMinFoldRow, standIns := [], harness := (true, "d8434733d7b8f25ca0a75651924342503bb77a40fdb8f301b37e73cf87fa4c44"), looks := true }, kinds := [], alts := [], laidByText := true, laidKinds := [.data, .data, .pinned], laidTests := true, laidLooks := .later }
def FnSyMinFoldCardSaid : Prop := Claim7.holds Tryd.pinned (.plain (OpenSpec.ofChange fnSyMinFoldSpec)) fnSyMinFoldCard

/-- THE TIED CARD OF 'laws.FnTxExtract'. -/
def fnTxExtractCard : Claim7 := { stood := { row := fnTxExtractRow, standIns := [], harness := (true, "d8434733d7b8f25ca0a75651924342503bb77a40fdb8f301b37e73cf87fa4c44"), looks := true }, kinds := [], alts := [], laidByText := true, laidKinds := [.data, .data, .pinned, .pinned, .pinned], laidTests := true, laidLooks := .later }
def FnTxExtractCardSaid : Prop := Claim7.holds Tryd.pinned (.plain (OpenSpec.ofChange fnTxExtractSpec)) fnTxExtractCard

/-- THE TIED CARD OF 'laws.FnSyMatchRune'. -/
def fnSyMatchRuneCard : Claim7 := { stood := { row := fnSyMatchRuneRow, standIns := [], harness := (true, "d8434733d7b8f25ca0a75651924342503bb77a40fdb8f301b37e73cf87fa4c44"), looks := true }, kinds := [], alts := [], laidByText := true, laidKinds := [.data, .data, .pinned], laidTests := true, laidLooks := .later }
def FnSyMatchRuneCardSaid : Prop := Claim7.holds Tryd.pinned (.plain (OpenSpec.ofChange fnSyMatchRuneSpec)) fnSyMatchRuneCard

/-- THE TIED CARD OF 'laws.FnMtLeastLen'. -/
def fnMtLeastLenCard : Claim7 := { stood := { row := fnMtLeastLenRow, standIns := [], harness := (true, "d8434733d7b8f25ca0a75651924342503bb77a40fdb8f301b37e73cf87fa4c44"), looks := true }, kinds := [], alts := [], laidByText := true, laidKinds := [.data, .data, .pinned], laidTests := true, laidLooks := .later }
def FnMtLeastLenCardSaid : Prop := Claim7.holds Tryd.pinned (.plain (OpenSpec.ofChange fnMtLeastLenSpec)) fnMtLeastLenCard

/-- THE TIED CARD OF 'laws.FnSyEscape'. -/
def fnSyEscapeCard : Claim7 := { stood := { row := fnSyEscapeRow, standIns := [], harness := (true, "d8434733d7b8f25ca0a75651924342503bb77a40fdb8f301b37e73cf87fa4c44"), looks := true }, kinds := [], alts := [], laidByText := true, laidKinds := [.data, .pinned], laidTests := true, laidLooks := .later }
def FnSyEscapeCardSaid : Prop := Claim7.holds Tryd.pinned (.plain (OpenSpec.ofChange fnSyEscapeSpec)) fnSyEscapeCard

/-- THE SECOND FORM's CARD OF 'laws.FnSyMinFold'. -/
def fnSyMinFoldUptoCard : Claim7 := { stood := { row := fnSyMinFoldUptoRow, standIns := [], harness := (true, "d8434733d7b8f25ca0a75651924342503bb77a40fdb8f301b37e73cf87fa4c44"), looks := true }, kinds := [], alts := [], laidByText := true, laidKinds := [.data, .data, .pinned], laidTests := true, laidLooks := .later }
def FnSyMinFoldUptoCardSaid : Prop := Claim7.holds Tryd.pinned (.plain (OpenSpec.upto fnSyMinFoldSpec)) fnSyMinFoldUptoCard

/-- THE SECOND FORM's CARD OF 'laws.FnTxExtract'. -/
def fnTxExtractUptoCard : Claim7 := { stood := { row := fnTxExtractUptoRow, standIns := [], harness := (true, "d8434733d7b8f25ca0a75651924342503bb77a40fdb8f301b37e73cf87fa4c44"), looks := true }, kinds := [], alts := [], laidByText := true, laidKinds := [.data, .data, .pinned, .pinned, .pinned], laidTests := true, laidLooks := .later }
def FnTxExtractUptoCardSaid : Prop := Claim7.holds Tryd.pinned (.plain (OpenSpec.upto fnTxExtractSpec)) fnTxExtractUptoCard

/-- THE SECOND FORM's CARD OF 'laws.FnSyMatchRune'. -/
def fnSyMatchRuneUptoCard : Claim7 := { stood := { row := fnSyMatchRuneUptoRow, standIns := [], harness := (true, "d8434733d7b8f25ca0a75651924342503bb77a40fdb8f301b37e73cf87fa4c44"), looks := true }, kinds := [], alts := [], laidByText := true, laidKinds := [.data, .data, .pinned], laidTests := true, laidLooks := .later }
def FnSyMatchRuneUptoCardSaid : Prop := Claim7.holds Tryd.pinned (.plain (OpenSpec.upto fnSyMatchRuneSpec)) fnSyMatchRuneUptoCard

/-- THE SECOND FORM's CARD OF 'laws.FnMtLeastLen'. -/
def fnMtLeastLenUptoCard : Claim7 := { stood := { row := fnMtLeastLenUptoRow, standIns := [], harness := (true, "d8434733d7b8f25ca0a75651924342503bb77a40fdb8f301b37e73cf87fa4c44"), looks := true }, kinds := [], alts := [], laidByText := true, laidKinds := [.data, .data, .pinned], laidTests := true, laidLooks := .later }
def FnMtLeastLenUptoCardSaid : Prop := Claim7.holds Tryd.pinned (.plain (OpenSpec.upto fnMtLeastLenSpec)) fnMtLeastLenUptoCard

/-- THE SECOND FORM's CARD OF 'laws.FnSyEscape'. -/
def fnSyEscapeUptoCard : Claim7 := { stood := { row := fnSyEscapeUptoRow, standIns := [], harness := (true, "d8434733d7b8f25ca0a75651924342503bb77a40fdb8f301b37e73cf87fa4c44"), looks := true }, kinds := [], alts := [], laidByText := true, laidKinds := [.data, .pinned], laidTests := true, laidLooks := .later }
def FnSyEscapeUptoCardSaid : Prop := Claim7.holds Tryd.pinned (.plain (OpenSpec.upto fnSyEscapeSpec)) fnSyEscapeUptoCard
end Rows
end Go.Proofs.YtholpemmakdglaaDoor
