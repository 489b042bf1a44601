/- The name behind a $ in a template and its number: the two ways of reading the number come to one. -/
import GoSem.Core.Utf8
namespace Go.Proofs.YtmgdlodnhmpbiaaDoor.Ext
set_option linter.unusedVariables false
def isD (c : UInt8) : Bool := decide (48 ≤ c.toNat) && decide (c.toNat ≤ 57)
/-- As the package reads it. -/
def numI : List UInt8 → Int → Int
  | [], n => n
  | c :: l, n => if isD c = true ∧ n < 100000000 then numI l (n * 10 + c.toNat - 48) else -1
/-- As the reference reads it. -/
def numS : List UInt8 → Int → Int
  | [], n => n
  | c :: l, n => if isD c = true then numS l (min (n * 10 + (c.toNat - 48)) 1000000000) else -1
def val : List UInt8 → Int → Int
  | [], n => n
  | c :: l, n => val l (n * 10 + (c.toNat - 48))
theorem isD_iff (c : UInt8) : isD c = true ↔ 48 ≤ c.toNat ∧ c.toNat ≤ 57 := by simp [isD]
theorem numI_no : ∀ (l : List UInt8) (n : Int), l.all isD = false → numI l n = -1
  | [], n, h => by simp at h
  | c :: l, n, h => by
    simp only [numI]
    by_cases hc : isD c = true ∧ n < 100000000
    · rw [if_pos hc]
      refine numI_no l _ ?_
      simpa [hc.1] using h
    · rw [if_neg hc]
theorem numS_no : ∀ (l : List UInt8) (n : Int), l.all isD = false → numS l n = -1
  | [], n, h => by simp at h
  | c :: l, n, h => by
    simp only [numS]
    by_cases hc : isD c = true
    · rw [if_pos hc]
      refine numS_no l _ ?_
      simpa [hc] using h
    · rw [if_neg hc]
theorem pow_le8 (d : Nat) (h : d ≤ 8) : (10 : Int) ^ d ≤ 10 ^ 8 := by
  have := Nat.pow_le_pow_right (n := 10) (by decide) h
  exact_mod_cast this
theorem numS_val : ∀ (l : List UInt8) (n : Int) (d : Nat), l.all isD = true → 0 ≤ n → n < 10 ^ d → d + l.length ≤ 9 → numS l n = val l n
  | [], n, d, _, _, _, _ => rfl
  | c :: l, n, d, h, h0, h1, h2 => by
    simp only [List.all_cons, Bool.and_eq_true] at h
    have hc := (isD_iff c).1 h.1
    simp only [List.length_cons] at h2
    have hp : (10 : Int) ^ (d + 1) = 10 ^ d * 10 := Int.pow_succ _ _
    have hm := pow_le8 d (by omega)
    have hm8 : (10 : Int) ^ 8 = 100000000 := by decide
    simp only [numS, val, if_pos h.1]
    have hmin : min (n * 10 + ((c.toNat : Int) - 48)) 1000000000 = n * 10 + ((c.toNat : Int) - 48) := by omega
    rw [hmin]
    exact numS_val l _ (d + 1) h.2 (by omega) (by omega) (by omega)
theorem numI_val : ∀ (l : List UInt8) (n : Int) (d : Nat), l.all isD = true → 1 ≤ n → 10 ^ d ≤ n → n < 10 ^ (d + 1) → d ≤ 8 → numI l n = if d + l.length ≤ 8 then val l n else -1
  | [], n, d, _, _, _, _, h => by simp [numI, val, h]
  | c :: l, n, d, h, h0, h1, h2, h3 => by
    simp only [List.all_cons, Bool.and_eq_true] at h
    have hc := (isD_iff c).1 h.1
    have hp : (10 : Int) ^ (d + 1) = 10 ^ d * 10 := Int.pow_succ _ _
    have hp2 : (10 : Int) ^ (d + 1 + 1) = 10 ^ (d + 1) * 10 := Int.pow_succ _ _
    have hm8 : (10 : Int) ^ 8 = 100000000 := by decide
    by_cases h8 : d = 8
    · subst h8
      simp only [numI]
      rw [if_neg (by omega), if_neg (by simp)]
    · have hm := pow_le8 (d + 1) (by omega)
      simp only [numI, val]
      rw [if_pos ⟨h.1, by omega⟩]
      have e : n * 10 + (c.toNat : Int) - 48 = n * 10 + ((c.toNat : Int) - 48) := by omega
      rw [e, numI_val l _ (d + 1) h.2 (by omega) (by omega) (by omega) (by omega)]
      simp only [List.length_cons]
      by_cases h9 : d + (l.length + 1) ≤ 8
      · rw [if_pos h9, if_pos (by omega)]
      · rw [if_neg h9, if_neg (by omega)]
def finI (l : List UInt8) : Int := if l.head? = some 48 ∧ 1 < l.length then -1 else numI l 0
def finS (l : List UInt8) : Int := if l.all isD = true then (if l = [] ∨ 9 < l.length ∨ (l.head? = some 48 ∧ 1 < l.length) then -1 else numS l 0) else -1
theorem fin_eq (l : List UInt8) (hl : l ≠ []) : finI l = finS l := by
  unfold finI finS
  by_cases ha : l.all isD = true
  · rw [if_pos ha]
    by_cases hz : l.head? = some 48 ∧ 1 < l.length
    · rw [if_pos hz, if_pos (Or.inr (Or.inr hz))]
    · rw [if_neg hz]
      match l, hl with
      | c :: l, _ =>
        have hall := ha
        simp only [List.all_cons, Bool.and_eq_true] at ha
        have hc := (isD_iff c).1 ha.1
        simp only [List.head?_cons, Option.some.injEq, List.length_cons] at hz
        have hn0 : numI (c :: l) 0 = numI l ((c.toNat : Int) - 48) := by
          simp only [numI]; rw [if_pos ⟨ha.1, by omega⟩]; congr 1; omega
        by_cases h48 : c = 48
        · have hlen : l = [] := by
            rcases Nat.eq_zero_or_pos l.length with h | h
            · exact List.length_eq_zero_iff.1 h
            · exact absurd ⟨h48, by omega⟩ hz
          subst hlen; subst h48
          decide
        · have hcn : c.toNat ≠ 48 := fun e => h48 (by rw [← UInt8.ofNat_toNat (x := c), e]; rfl)
          have h1 := numI_val l ((c.toNat : Int) - 48) 0 ha.2 (by omega) (by simp; omega) (by simp; omega) (by omega)
          rw [hn0, h1]
          by_cases h9 : 9 < (c :: l).length
          · rw [if_pos (Or.inr (Or.inl h9)), if_neg (by simp at h9; omega)]
          · have hno : ¬ ((c :: l) = [] ∨ 9 < (c :: l).length ∨ ((c :: l).head? = some 48 ∧ 1 < (c :: l).length)) := by
              rintro (h | h | h)
              · cases h
              · exact h9 h
              · exact h48 (by simpa using h.1)
            simp only [List.length_cons] at h9
            rw [if_neg hno, if_pos (by omega), numS_val (c :: l) 0 0 hall (by omega) (by simp) (by simp; omega)]
            simp only [val]; congr 1; omega
  · have ha' : l.all isD = false := by simpa using ha
    rw [if_neg ha]
    split
    · rfl
    · exact numI_no l 0 ha'
end Go.Proofs.YtmgdlodnhmpbiaaDoor.Ext
