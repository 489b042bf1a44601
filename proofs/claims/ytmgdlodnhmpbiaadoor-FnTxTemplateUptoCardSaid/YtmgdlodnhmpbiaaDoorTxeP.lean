/- The reader of a name behind a $, the package's and the reference's: each as a function of the string. -/
import Derived.Test.YtmgdlodnhmpbiaaDoorTxLib
import Derived.Test.YtmgdlodnhmpbiaaDoorExtPure
import Derived.Deep.QuietTactic
import Derived.BigQuiet
namespace Go.Proofs.YtmgdlodnhmpbiaaDoor.Tx
open Go.RowKit Go.Lib Ext
set_option linter.unusedVariables false
/-- A character of a name. -/
def nch (r : Int) : Bool := r == 95 || isLetterU r || isDigitU r
/-- Where the name ends that goes on at place k; g: the rounds at hand. -/
def nEnd (s : ByteArray) : Nat → Nat → Nat
  | 0, k => k
  | g + 1, k => if k < s.size ∧ nch ((Utf8.decode s k).1 : Nat) = true then nEnd s g (k + (Utf8.decode s k).2) else k
theorem nEnd_yes {s : ByteArray} {g k : Nat} (h : k < s.size) (hn : nch ((Utf8.decode s k).1 : Nat) = true) : nEnd s (g + 1) k = nEnd s g (k + (Utf8.decode s k).2) := by
  simp only [nEnd]; rw [if_pos ⟨h, hn⟩]
theorem nEnd_no {s : ByteArray} {g k : Nat} (h : ¬ (k < s.size ∧ nch ((Utf8.decode s k).1 : Nat) = true)) : nEnd s (g + 1) k = k := by
  simp only [nEnd]; rw [if_neg h]
theorem nEnd_le (s : ByteArray) : ∀ g k, k ≤ s.size → nEnd s g k ≤ s.size
  | 0, k, h => h
  | g + 1, k, h => by
    simp only [nEnd]
    split
    · rename_i hc
      exact nEnd_le s g _ (decode_fits s k hc.1).2
    · exact h
theorem toList_empty {s : ByteArray} (h : s.size = 0) : s.toList.isEmpty = true := by
  rw [Lib.toList_data]
  have : s.data.toList = [] := List.eq_nil_of_length_eq_zero (by rw [← Lib.size_eq]; exact h)
  rw [this]; rfl
theorem toList_full {s : ByteArray} (h : s.size ≠ 0) : s.toList.isEmpty = false := by
  rw [Lib.toList_data]
  cases e : s.data.toList with
  | nil => exact absurd (by rw [Lib.size_eq, e]; rfl) h
  | cons _ _ => rfl
theorem drop_at (s : ByteArray) (k : Nat) (h : k < s.size) : s.data.toList.drop k = s[k] :: s.data.toList.drop (k + 1) := by
  rw [List.drop_eq_getElem_cons (by rw [← Lib.size_eq]; exact h)]; rfl
theorem all_no {s : ByteArray} {k : Nat} (h : k < s.size) (hd : isD s[k] = false) : s.data.toList.all isD = false := by
  rw [Bool.eq_false_iff]
  intro ha
  have := List.all_eq_true.1 ha s[k] (by
    have hk : k < s.data.toList.length := by rw [← Lib.size_eq]; exact h
    exact (List.getElem_mem hk : s.data.toList[k] ∈ _))
  rw [hd] at this; cases this
end Go.Proofs.YtmgdlodnhmpbiaaDoor.Tx
