/-
  DERIVED. GIVEN WITH THE SEED: THE CARDS: each row of YtcncclglmgdinaaDoorRows.lean that lists a variable, with what it lists TIED to the program's text (the seventh form; the later family's looks); each row that meets fmt, with fmt's text TOLD by the authors' own Lean function (tested against real Go, not proved from fmt's source: count such statements apart). THE CARD IS WHAT COUNTS. Prove the row's statement (the work); the ties are given (YtcncclglmgdinaaDoorTie.lean); close each card by the builder's one call (the guide's Derived/Test/ToyasCard.lean, 'card_holds'). Laid BY PROGRAM, IN A SANDBOX (cutbox-door.mjs). By AI agents, Wed Nov 11 2026. No macro, syntax, notation, axiom, sorry.
-/
import Derived.Test.YtcncclglmgdinaaDoorRows
import GoSem.ClaimSeven
namespace Go.Proofs.YtcncclglmgdinaaDoor
namespace Rows

/-- THE TIED CARD OF 'laws.FnPgStep'. -/
def fnPgStepCard : Claim7 := { stood := { row := fnPgStepRow, standIns := [], harness := (true, "966a5b39d9694c0afdfd441274fa6acd8d77c6197779a443dfbecfcb7ffe18b0"), looks := false }, kinds := [], alts := [], laidByText := true, laidKinds := [.data, .data, .data, .pinned], laidTests := true, laidLooks := .later }
def FnPgStepCardSaid : Prop := Claim7.holds Tryd.pinned (.plain (OpenSpec.ofChange fnPgStepSpec)) fnPgStepCard

/-- THE TIED CARD OF 'laws.FnPgBack'. -/
def fnPgBackCard : Claim7 := { stood := { row := fnPgBackRow, standIns := [], harness := (true, "966a5b39d9694c0afdfd441274fa6acd8d77c6197779a443dfbecfcb7ffe18b0"), looks := false }, kinds := [], alts := [], laidByText := true, laidKinds := [.data, .data, .data, .data, .pinned, .pinned], laidTests := true, laidLooks := .later }
def FnPgBackCardSaid : Prop := Claim7.holds Tryd.pinned (.plain (OpenSpec.ofChange fnPgBackSpec)) fnPgBackCard

/-- THE SECOND FORM's CARD OF 'laws.FnPgStep'. -/
def fnPgStepUptoCard : Claim7 := { stood := { row := fnPgStepUptoRow, standIns := [], harness := (true, "966a5b39d9694c0afdfd441274fa6acd8d77c6197779a443dfbecfcb7ffe18b0"), looks := false }, kinds := [], alts := [], laidByText := true, laidKinds := [.data, .data, .data, .pinned], laidTests := true, laidLooks := .later }
def FnPgStepUptoCardSaid : Prop := Claim7.holds Tryd.pinned (.plain (OpenSpec.upto fnPgStepSpec)) fnPgStepUptoCard

/-- THE SECOND FORM's CARD OF 'laws.FnPgBack'. -/
def fnPgBackUptoCard : Claim7 := { stood := { row := fnPgBackUptoRow, standIns := [], harness := (true, "966a5b39d9694c0afdfd441274fa6acd8d77c6197779a443dfbecfcb7ffe18b0"), looks := false }, kinds := [], alts := [], laidByText := true, laidKinds := [.data, .data, .data, .data, .pinned, .pinned], laidTests := true, laidLooks := .later }
def FnPgBackUptoCardSaid : Prop := Claim7.holds Tryd.pinned (.plain (OpenSpec.upto fnPgBackSpec)) fnPgBackUptoCard
end Rows
end Go.Proofs.YtcncclglmgdinaaDoor
