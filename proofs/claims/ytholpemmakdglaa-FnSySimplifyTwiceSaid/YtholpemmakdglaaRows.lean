/-
  NARROWER THAN 'FOR EVERY INPUT', by the rows' own cells (each row's printed sentence says how): FnSyRepeatValid: loops · FnSySimplifyTwice: loops.
  DERIVED. THE GIVEN ROWS OF THIS SEAT. 6 by the template 'for every input the law returns true; each argument reads behind the call as it read before'; 0 by the template 'total and deterministic' (their statements: YtholpemmakdglaaTotals.lean).
  GIVEN WITH THE SEED: the statements are not yours to turn. If you find one false, say at which input.
  Laid BY PROGRAM, IN A SANDBOX (cutbox-rows.mjs): the forced cells as the released guide's own fill.sh prints them over the translation 9a757b74965259e1… (all of the seat's roots in one cut). By AI agents, Wed Nov 11 2026. No macro, syntax, notation, axiom, sorry.
-/
import Derived.Test.YtholpemmakdglaaChecked
import GoSem.Claim
import GoSem.ClaimJoined
import GoSem.ClaimMapViews
import Derived.JoinedTies
import Derived.KernelRfl
namespace Go.Proofs.Ytholpemmakdglaa
/- THE CELL 'sum', in the pinned program and in every row, IS THE sha256 OF THE DUMP (.gsa) THAT YtholpemmakdglaaProg.lean LOADS. Nothing in Lean hashes anything: it is a label: what it is worth is what the hold of that sum in a sandbox is worth. -/
noncomputable def Try.pinned : Pinned := { name := "ytholpemmakdglaa", sum := "9a757b74965259e178736f04b14f1686b70e6295414356459c93aaa3cbb79cc3", checked := Try.checked }
namespace Rows
def none {H : Type} : Left H := { results := [], args := [] }

/-- 'laws.FnSyWord': WHATEVER THE INPUT: true; the input reads as it did. -/
def fnSyWordSpec : ChangeSpec := { name := "fnSyWord", fn := fun _ => fun
  | [d] => { results := [.lit (.bool true)], args := [d] }
  | _ => none }
def fnSyWordRow : OpenClaim := { program := "ytholpemmakdglaa", sum := "9a757b74965259e178736f04b14f1686b70e6295414356459c93aaa3cbb79cc3", func := "pub-searce/laws.FnSyWord", spec := "fnSyWord", apart := false }
def FnSyWordSaid : Prop := fnSyWordRow.holds Try.pinned (OpenSpec.ofChange fnSyWordSpec)

/-- ITS FALSE NEIGHBOUR: 'it returns false'. Refute it at one input. -/
def fnSyWordWrong : ChangeSpec := { name := "fnSyWord", fn := fun _ => fun
  | [d] => { results := [.lit (.bool false)], args := [d] }
  | _ => none }
def FnSyWordWrongFalsely : Prop := fnSyWordRow.holds Try.pinned (OpenSpec.ofChange fnSyWordWrong)

/-- 'laws.FnTxSpecial': WHATEVER THE INPUT: true; the input reads as it did. -/
def fnTxSpecialSpec : ChangeSpec := { name := "fnTxSpecial", fn := fun _ => fun
  | [d] => { results := [.lit (.bool true)], args := [d] }
  | _ => none }
def fnTxSpecialRow : OpenClaim := { program := "ytholpemmakdglaa", sum := "9a757b74965259e178736f04b14f1686b70e6295414356459c93aaa3cbb79cc3", func := "pub-searce/laws.FnTxSpecial", spec := "fnTxSpecial", apart := false }
def FnTxSpecialSaid : Prop := fnTxSpecialRow.holds Try.pinned (OpenSpec.ofChange fnTxSpecialSpec)

/-- ITS FALSE NEIGHBOUR: 'it returns false'. Refute it at one input. -/
def fnTxSpecialWrong : ChangeSpec := { name := "fnTxSpecial", fn := fun _ => fun
  | [d] => { results := [.lit (.bool false)], args := [d] }
  | _ => none }
def FnTxSpecialWrongFalsely : Prop := fnTxSpecialRow.holds Try.pinned (OpenSpec.ofChange fnTxSpecialWrong)

/-- 'laws.FnTxQuoteJoins': WHATEVER THE INPUT: true; the input reads as it did. -/
def fnTxQuoteJoinsSpec : ChangeSpec := { name := "fnTxQuoteJoins", fn := fun _ => fun
  | [d1, d2] => { results := [.lit (.bool true)], args := [d1, d2] }
  | _ => none }
def fnTxQuoteJoinsRow : OpenClaim := { program := "ytholpemmakdglaa", sum := "9a757b74965259e178736f04b14f1686b70e6295414356459c93aaa3cbb79cc3", func := "pub-searce/laws.FnTxQuoteJoins", spec := "fnTxQuoteJoins", apart := false }
def FnTxQuoteJoinsSaid : Prop := fnTxQuoteJoinsRow.holds Try.pinned (OpenSpec.ofChange fnTxQuoteJoinsSpec)

/-- ITS FALSE NEIGHBOUR: 'it returns false'. Refute it at one input. -/
def fnTxQuoteJoinsWrong : ChangeSpec := { name := "fnTxQuoteJoins", fn := fun _ => fun
  | [d1, d2] => { results := [.lit (.bool false)], args := [d1, d2] }
  | _ => none }
def FnTxQuoteJoinsWrongFalsely : Prop := fnTxQuoteJoinsRow.holds Try.pinned (OpenSpec.ofChange fnTxQuoteJoinsWrong)

/-- 'laws.FnPgMerge': WHATEVER THE INPUT: true; the input reads as it did. -/
def fnPgMergeSpec : ChangeSpec := { name := "fnPgMerge", fn := fun _ => fun
  | [d1, d2, d3, d4] => { results := [.lit (.bool true)], args := [d1, d2, d3, d4] }
  | _ => none }
def fnPgMergeRow : OpenClaim := { program := "ytholpemmakdglaa", sum := "9a757b74965259e178736f04b14f1686b70e6295414356459c93aaa3cbb79cc3", func := "pub-searce/laws.FnPgMerge", spec := "fnPgMerge", unfollowed := true, recurses := true, apart := false }
def FnPgMergeSaid : Prop := fnPgMergeRow.holds Try.pinned (OpenSpec.ofChange fnPgMergeSpec)

/-- ITS FALSE NEIGHBOUR: 'it returns false'. Refute it at one input. -/
def fnPgMergeWrong : ChangeSpec := { name := "fnPgMerge", fn := fun _ => fun
  | [d1, d2, d3, d4] => { results := [.lit (.bool false)], args := [d1, d2, d3, d4] }
  | _ => none }
def FnPgMergeWrongFalsely : Prop := fnPgMergeRow.holds Try.pinned (OpenSpec.ofChange fnPgMergeWrong)

/-- 'laws.FnSyRepeatValid': WHATEVER THE INPUT: true; the input reads as it did. -/
def fnSyRepeatValidSpec : ChangeSpec := { name := "fnSyRepeatValid", fn := fun _ => fun
  | [d1, d2] => { results := [.lit (.bool true)], args := [d1, d2] }
  | _ => none }
def fnSyRepeatValidRow : OpenClaim := { program := "ytholpemmakdglaa", sum := "9a757b74965259e178736f04b14f1686b70e6295414356459c93aaa3cbb79cc3", func := "pub-searce/laws.FnSyRepeatValid", spec := "fnSyRepeatValid", recurses := true, loops := true, apart := false }
def FnSyRepeatValidSaid : Prop := fnSyRepeatValidRow.holds Try.pinned (OpenSpec.ofChange fnSyRepeatValidSpec)

/-- ITS FALSE NEIGHBOUR: 'it returns false'. Refute it at one input. -/
def fnSyRepeatValidWrong : ChangeSpec := { name := "fnSyRepeatValid", fn := fun _ => fun
  | [d1, d2] => { results := [.lit (.bool false)], args := [d1, d2] }
  | _ => none }
def FnSyRepeatValidWrongFalsely : Prop := fnSyRepeatValidRow.holds Try.pinned (OpenSpec.ofChange fnSyRepeatValidWrong)

/-- 'laws.FnSySimplifyTwice': WHATEVER THE INPUT: true; the input reads as it did. -/
def fnSySimplifyTwiceSpec : ChangeSpec := { name := "fnSySimplifyTwice", fn := fun _ => fun
  | [d] => { results := [.lit (.bool true)], args := [d] }
  | _ => none }
def fnSySimplifyTwiceRow : OpenClaim := { program := "ytholpemmakdglaa", sum := "9a757b74965259e178736f04b14f1686b70e6295414356459c93aaa3cbb79cc3", func := "pub-searce/laws.FnSySimplifyTwice", spec := "fnSySimplifyTwice", recurses := true, loops := true, apart := false }
def FnSySimplifyTwiceSaid : Prop := fnSySimplifyTwiceRow.holds Try.pinned (OpenSpec.ofChange fnSySimplifyTwiceSpec)

/-- ITS FALSE NEIGHBOUR: 'it returns false'. Refute it at one input. -/
def fnSySimplifyTwiceWrong : ChangeSpec := { name := "fnSySimplifyTwice", fn := fun _ => fun
  | [d] => { results := [.lit (.bool false)], args := [d] }
  | _ => none }
def FnSySimplifyTwiceWrongFalsely : Prop := fnSySimplifyTwiceRow.holds Try.pinned (OpenSpec.ofChange fnSySimplifyTwiceWrong)

/- THE SECOND FORM. 'bulk': how many values and letters a reading holds, each counted each time it is reached (what is shared counts as often as it is met; a slice's spare places count too). A statement '..UptoSaid' is the law's where the arguments, and the package variables that the reading takes, are together of bulk at most 1048576: NARROWER than '..Said'. Prove '..Said' where nothing that the law and all that it calls make is longer than what came in: it says more and counts as full. Else prove '..UptoSaid'. A law counts once. -/
mutual
def uptoBulk {H : Type} : DataW H → Nat
  | .lit (.string bytes) => bytes.length + 1
  | .lit _ => 1
  | .nil => 1
  | .ptr d => uptoBulk d + 1
  | .slice elems spare => uptoBulkAll elems + uptoBulkAll spare + 1
  | .agg parts => uptoBulkAll parts + 1
  | .iface _ d => uptoBulk d + 1
  | .map entries => uptoBulkEntries entries + 1
  | .held _ => 1
def uptoBulkAll {H : Type} : List (DataW H) → Nat
  | [] => 0
  | d :: r => uptoBulk d + uptoBulkAll r
def uptoBulkEntries {H : Type} : List (Lit × DataW H) → Nat
  | [] => 0
  | x :: r => uptoBulkEntry x + uptoBulkEntries r
def uptoBulkEntry {H : Type} : Lit × DataW H → Nat
  | (.string bytes, d) => bytes.length + uptoBulk d + 1
  | (_, d) => uptoBulk d + 1
 end
def uptoSmall : (H : Type) → List (DataW H) → Bool := fun _ ds => decide (uptoBulkAll ds ≤ 1048576)
def OpenSpec.upto (s : _root_.Go.ChangeSpec) : _root_.Go.OpenSpec := { _root_.Go.OpenSpec.ofChange s with cond := some uptoSmall }

/-- 'laws.FnSyWord', WHERE WHAT IT READS IS OF BULK AT MOST 1048576: true; the input reads as it did. -/
def fnSyWordUptoRow : OpenClaim := { program := "ytholpemmakdglaa", sum := "9a757b74965259e178736f04b14f1686b70e6295414356459c93aaa3cbb79cc3", func := "pub-searce/laws.FnSyWord", spec := "fnSyWord", apart := false, narrowed := true }
def FnSyWordUptoSaid : Prop := fnSyWordUptoRow.holds Try.pinned (OpenSpec.upto fnSyWordSpec)

/-- 'laws.FnTxSpecial', WHERE WHAT IT READS IS OF BULK AT MOST 1048576: true; the input reads as it did. -/
def fnTxSpecialUptoRow : OpenClaim := { program := "ytholpemmakdglaa", sum := "9a757b74965259e178736f04b14f1686b70e6295414356459c93aaa3cbb79cc3", func := "pub-searce/laws.FnTxSpecial", spec := "fnTxSpecial", apart := false, narrowed := true }
def FnTxSpecialUptoSaid : Prop := fnTxSpecialUptoRow.holds Try.pinned (OpenSpec.upto fnTxSpecialSpec)

/-- 'laws.FnTxQuoteJoins', WHERE WHAT IT READS IS OF BULK AT MOST 1048576: true; the input reads as it did. -/
def fnTxQuoteJoinsUptoRow : OpenClaim := { program := "ytholpemmakdglaa", sum := "9a757b74965259e178736f04b14f1686b70e6295414356459c93aaa3cbb79cc3", func := "pub-searce/laws.FnTxQuoteJoins", spec := "fnTxQuoteJoins", apart := false, narrowed := true }
def FnTxQuoteJoinsUptoSaid : Prop := fnTxQuoteJoinsUptoRow.holds Try.pinned (OpenSpec.upto fnTxQuoteJoinsSpec)

/-- 'laws.FnPgMerge', WHERE WHAT IT READS IS OF BULK AT MOST 1048576: true; the input reads as it did. -/
def fnPgMergeUptoRow : OpenClaim := { program := "ytholpemmakdglaa", sum := "9a757b74965259e178736f04b14f1686b70e6295414356459c93aaa3cbb79cc3", func := "pub-searce/laws.FnPgMerge", spec := "fnPgMerge", unfollowed := true, recurses := true, apart := false, narrowed := true }
def FnPgMergeUptoSaid : Prop := fnPgMergeUptoRow.holds Try.pinned (OpenSpec.upto fnPgMergeSpec)

/-- 'laws.FnSyRepeatValid', WHERE WHAT IT READS IS OF BULK AT MOST 1048576: true; the input reads as it did. -/
def fnSyRepeatValidUptoRow : OpenClaim := { program := "ytholpemmakdglaa", sum := "9a757b74965259e178736f04b14f1686b70e6295414356459c93aaa3cbb79cc3", func := "pub-searce/laws.FnSyRepeatValid", spec := "fnSyRepeatValid", recurses := true, loops := true, apart := false, narrowed := true }
def FnSyRepeatValidUptoSaid : Prop := fnSyRepeatValidUptoRow.holds Try.pinned (OpenSpec.upto fnSyRepeatValidSpec)

/-- 'laws.FnSySimplifyTwice', WHERE WHAT IT READS IS OF BULK AT MOST 1048576: true; the input reads as it did. -/
def fnSySimplifyTwiceUptoRow : OpenClaim := { program := "ytholpemmakdglaa", sum := "9a757b74965259e178736f04b14f1686b70e6295414356459c93aaa3cbb79cc3", func := "pub-searce/laws.FnSySimplifyTwice", spec := "fnSySimplifyTwice", recurses := true, loops := true, apart := false, narrowed := true }
def FnSySimplifyTwiceUptoSaid : Prop := fnSySimplifyTwiceUptoRow.holds Try.pinned (OpenSpec.upto fnSySimplifyTwiceSpec)

end Rows
end Go.Proofs.Ytholpemmakdglaa
