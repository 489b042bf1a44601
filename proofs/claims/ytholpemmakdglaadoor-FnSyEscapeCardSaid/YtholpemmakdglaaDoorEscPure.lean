/- An escape as a function of the string: its character, the place behind it, the kind of its error. -/
import GoSem.Core.Utf8
namespace Go.Proofs.YtholpemmakdglaaDoor.Esc
set_option linter.unusedVariables false
/-- The value of a hexadecimal digit, -1 of another character. -/
def hexv (c : Nat) : Int := if 48 ≤ c ∧ c ≤ 57 then c - 48 else if 97 ≤ c ∧ c ≤ 102 then c - 87 else if 65 ≤ c ∧ c ≤ 70 then c - 55 else -1
/-- A letter or a digit of ASCII. -/
def alnum (c : Nat) : Bool := (decide (48 ≤ c) && decide (c ≤ 57)) || (decide (65 ≤ c) && decide (c ≤ 90)) || (decide (97 ≤ c) && decide (c ≤ 122))
/-- No UTF-8 stands at place k. -/
def bad (s : ByteArray) (k : Nat) : Bool := (Utf8.decode s k).1 == 65533 && (Utf8.decode s k).2 == 1
def octal (s : ByteArray) (k : Nat) : Bool := decide (k < s.size) && decide (48 ≤ (s.get! k).toNat) && decide ((s.get! k).toNat ≤ 55)
/-- Up to m octal digits more. -/
def oct (s : ByteArray) : Nat → Nat → Int → Int × Nat × Int
  | 0, k, r => (r, k, 0)
  | m + 1, k, r => if octal s k = true then oct s m (k + 1) (8 * r + ((s.get! k).toNat - 48)) else (r, k, 0)
/-- The digits behind an opening brace; some: there was one. -/
def hexB (s : ByteArray) : Nat → Nat → Int → Bool → Int × Nat × Int
  | 0, _, _, _ => (0, 0, 4)
  | g + 1, k, r, sm =>
    if s.size ≤ k then (0, 0, 4) else if bad s k = true then (0, 0, 9)
    else if (Utf8.decode s k).1 = 125 then (if sm = true then (r, k + (Utf8.decode s k).2, 0) else (0, 0, 4))
    else if hexv (Utf8.decode s k).1 < 0 ∨ 1114111 < 16 * r + hexv (Utf8.decode s k).1 then (0, 0, 4)
    else hexB s g (k + (Utf8.decode s k).2) (16 * r + hexv (Utf8.decode s k).1) true
/-- What stands behind an x. -/
def hexE (s : ByteArray) (k : Nat) : Int × Nat × Int :=
  if s.size ≤ k then (0, 0, 4) else if bad s k = true then (0, 0, 9)
  else if (Utf8.decode s k).1 = 123 then hexB s (s.size + 1) (k + (Utf8.decode s k).2) 0 false
  else if s.size ≤ k + (Utf8.decode s k).2 then (0, 0, 4) else if bad s (k + (Utf8.decode s k).2) = true then (0, 0, 9)
  else if hexv (Utf8.decode s k).1 < 0 ∨ hexv (Utf8.decode s (k + (Utf8.decode s k).2)).1 < 0 then (0, 0, 4)
  else (16 * hexv (Utf8.decode s k).1 + hexv (Utf8.decode s (k + (Utf8.decode s k).2)).1, k + (Utf8.decode s k).2 + (Utf8.decode s (k + (Utf8.decode s k).2)).2, 0)
/-- What a character c stands for behind a backslash; k: the place behind it. -/
def escC (s : ByteArray) (c k : Nat) : Int × Nat × Int :=
  if c = 48 ∨ (49 ≤ c ∧ c ≤ 55 ∧ octal s k = true) then oct s 2 k (c - 48)
  else if c = 120 then hexE s k
  else if c = 97 then (7, k, 0) else if c = 102 then (12, k, 0) else if c = 110 then (10, k, 0)
  else if c = 114 then (13, k, 0) else if c = 116 then (9, k, 0) else if c = 118 then (11, k, 0)
  else if c < 128 ∧ alnum c = false then (c, k, 0) else (0, 0, 4)
/-- The escape at the beginning of s. -/
def esc (s : ByteArray) : Int × Nat × Int :=
  if s.size ≤ 1 then (0, 0, 13) else if bad s 1 = true then (0, 0, 9) else escC s (Utf8.decode s 1).1 (1 + (Utf8.decode s 1).2)
theorem hexv_lt (c : Nat) : -1 ≤ hexv c ∧ hexv c ≤ 15 := by
  unfold hexv
  repeat' split
  all_goals omega
theorem octal_iff (s : ByteArray) (k : Nat) : octal s k = true ↔ k < s.size ∧ 48 ≤ (s.get! k).toNat ∧ (s.get! k).toNat ≤ 55 := by
  simp [octal, and_assoc]
end Go.Proofs.YtholpemmakdglaaDoor.Esc
