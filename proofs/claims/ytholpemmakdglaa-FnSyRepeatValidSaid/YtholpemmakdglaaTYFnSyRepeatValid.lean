/- What the law's reference says of a tree, and what the thin package's bounds and the package's look at its repeats make of it: in plain numbers. -/
import Derived.Test.YtholpemmakdglaaRsFnSyRepeatValid
namespace Go.Proofs.Ytholpemmakdglaa.PFnSyRepeatValid
open Go.RowKit Go.Proofs.YtholpemmakdglaaW.PrintWords Go.Proofs.YtholpemmakdglaaW.PrintLast Go.Proofs.YtholpemmakdglaaW.PrintMore
set_option linter.unusedVariables false
mutual
theorem ncT_pos' : ∀ t : Tr, 1 ≤ ncT t
  | ⟨_, _, _, _, _, _, _, ts⟩ => by rw [ncT]; omega
end
/-- A sum over the parts stays at least what it was, and is not negative. -/
theorem mn_le (a b : Int) : mn a b ≤ a ∧ mn a b ≤ b ∧ (mn a b = a ∨ mn a b = b) := by unfold mn; split <;> omega
theorem mx_ge (a b : Int) : a ≤ mx a b ∧ b ≤ mx a b ∧ (mx a b = a ∨ mx a b = b) := by unfold mx; split <;> omega
/-- Bounds of one node's size. -/
theorem sizeE_bd (op : Int) (len : Nat) (m0 m1 : Int) (sub : Nat) (acc : Int) (hl : Room len 4) (hs : Room sub 8) (ha : 0 ≤ acc) (ha1 : acc ≤ 2001) (h0 : op = 17 → 0 ≤ m0 ∧ m0 ≤ 1000 ∧ -1 ≤ m1 ∧ m1 ≤ 1000) (hlen : op = 3 → acc = 0) :
    0 ≤ sizeE op len m0 m1 sub acc 2000 ∧ sizeE op len m0 m1 sub acc 2000 ≤ 2001 ∧ (sizeE op len m0 m1 sub acc 2000 ≤ 2000 → acc + 2 ≤ sizeE op len m0 m1 sub acc 2000 ∧ (op = 17 → (acc + 1) * mx (mx (m0 + 1) m1) 1 ≤ sizeE op len m0 m1 sub acc 2000)) := by
  have hw : wrap64 (2000 + 1) = 2001 := by unfold wrap64; omega
  unfold Room at hl hs
  have hw1 : wrap64 (acc + 1) = acc + 1 := by unfold wrap64; omega
  have hw2 : wrap64 (acc + 2) = acc + 2 := by unfold wrap64; omega
  have hw3 : wrap64 (acc + (sub : Int)) = acc + sub := by unfold wrap64; omega
  have hw4 : wrap64 (acc + (sub : Int) + 2) = acc + sub + 2 := by unfold wrap64; omega
  unfold sizeE
  rw [hw]
  by_cases h17 : op = 17
  · rw [if_pos h17]
    obtain ⟨a1, a2, a3, a4⟩ := h0 h17
    have hw5 : wrap64 (m0 + 1) = m0 + 1 := by unfold wrap64; omega
    rw [hw1, hw5]
    obtain ⟨F, hF⟩ : ∃ F, F = mx (mx (m0 + 1) m1) 1 := ⟨_, rfl⟩
    rw [← hF]
    have hF1 : 1 ≤ F := by rw [hF]; exact (mx_ge _ _).2.1
    have hF2 : F ≤ 1001 := by
      rw [hF]; unfold mx
      repeat' split
      all_goals omega
    have hp0 : (acc + 1) * 1 ≤ (acc + 1) * F := Int.mul_le_mul_of_nonneg_left hF1 (by omega)
    have hp1 : (acc + 1) * F ≤ 2002 * 1001 := Int.mul_le_mul (by omega) hF2 (by omega) (by omega)
    generalize (acc + 1) * F = X at *
    have hw6 : wrap64 X = X := by unfold wrap64; omega
    rw [hw6]
    obtain ⟨b1, b2, b3⟩ := mn_le X 2001
    generalize mn X 2001 = Y at *
    have hw7 : wrap64 (Y + 2) = Y + 2 := by unfold wrap64; omega
    rw [hw7]
    obtain ⟨c1, c2, c3⟩ := mn_le (Y + 2) 2001
    generalize mn (Y + 2) 2001 = Z at *
    refine ⟨by omega, by omega, fun hZ => ⟨by omega, fun _ => by omega⟩⟩
  · rw [if_neg h17]
    by_cases h3 : op = 3
    · rw [if_pos h3]
      have l2 := hlen h3
      have hw8 : wrap64 ((len : Int) + 2) = len + 2 := by unfold wrap64; omega
      rw [hw8]
      obtain ⟨c1, c2, c3⟩ := mn_le ((len : Int) + 2) 2001
      exact ⟨by omega, by omega, fun hZ => ⟨by omega, fun h => absurd h h17⟩⟩
    · rw [if_neg h3]
      split
      · rw [hw3, hw4]
        obtain ⟨c1, c2, c3⟩ := mn_le (acc + (sub : Int) + 2) 2001
        exact ⟨by omega, by omega, fun hZ => ⟨by omega, fun h => absurd h h17⟩⟩
      · rw [hw2]
        obtain ⟨c1, c2, c3⟩ := mn_le (acc + 2) 2001
        exact ⟨by omega, by omega, fun hZ => ⟨by omega, fun h => absurd h h17⟩⟩
/-- The numbers of a tree's groups. -/
def cpP (B : Int) (op cp : Int) : Prop := op = 13 → 1 ≤ cp ∧ cp ≤ B
mutual
def cpT (B : Int) : Tr → Prop
  | ⟨op, _, _, _, _, cp, _, ts⟩ => cpP B op cp ∧ cpL B ts
def cpL (B : Int) : List Tr → Prop
  | [] => True
  | t :: ts => cpT B t ∧ cpL B ts
end
mutual
theorem caps_ok (B : Int) (hB : B ≤ 1000000) : ∀ (t : Tr) (n : Int), 1 ≤ n → n + ncT t ≤ B + 1 → 0 ≤ capsT t n → cpT B t ∧ n ≤ capsT t n ∧ capsT t n ≤ n + ncT t
  | ⟨op, fl, rs, m0, m1, cp, nm, ts⟩, n, h1, hn, hc => by
    rw [ncT] at hn
    rw [capsT] at hc ⊢
    rw [cpT, ncT]
    by_cases h13 : op = 13
    · rw [if_pos h13] at hc ⊢
      by_cases hcn : cp = n
      · rw [if_pos hcn] at hc ⊢
        have hw : wrap64 (n + 1) = n + 1 := by unfold wrap64; omega
        rw [hw] at hc ⊢
        obtain ⟨a, b, c⟩ := capsL_ok B hB ts (n + 1) (by omega) (by omega) hc
        exact ⟨⟨fun _ => by omega, a⟩, by omega, by omega⟩
      · rw [if_neg hcn] at hc; omega
    · rw [if_neg h13] at hc ⊢
      obtain ⟨a, b, c⟩ := capsL_ok B hB ts n h1 (by omega) hc
      exact ⟨⟨fun h => absurd h h13, a⟩, by omega, by omega⟩
theorem capsL_ok (B : Int) (hB : B ≤ 1000000) : ∀ (ts : List Tr) (n : Int), 1 ≤ n → n + ncL ts ≤ B + 1 → 0 ≤ capsL ts n → cpL B ts ∧ n ≤ capsL ts n ∧ capsL ts n ≤ n + ncL ts
  | [], n, h1, hn, hc => by
    rw [capsL] at hc ⊢
    rw [ncL] at hn ⊢
    rw [cpL]
    exact ⟨trivial, by omega, by omega⟩
  | t :: ts, n, h1, hn, hc => by
    rw [ncL] at hn ⊢
    rw [capsL] at hc ⊢
    rw [cpL]
    by_cases hneg : capsT t n < 0
    · rw [if_pos hneg] at hc; omega
    · rw [if_neg hneg] at hc ⊢
      obtain ⟨a, b, c⟩ := caps_ok B hB t n h1 (by omega) (by omega)
      obtain ⟨a', b', c'⟩ := capsL_ok B hB ts (capsT t n) (by omega) (by omega) hc
      exact ⟨⟨a, a'⟩, by omega, by omega⟩
end
/-- What the reference's look at a node says of it. -/
theorem nd_split {op : Int} {rs : List Int} {m0 m1 : Int} {sub : Nat} (h : ndF op rs m0 m1 sub = true) :
    (arF op).1 ≤ sub ∧ ((arF op).2 < 0 ∨ (sub : Int) ≤ (arF op).2) ∧ (op = 3 → chrF rs = true ∧ 0 < (rs.length : Int)) ∧ (op = 4 → clsF (-1) rs = true) ∧ (op = 17 → 0 ≤ m0 ∧ m0 ≤ 1000 ∧ -1 ≤ m1 ∧ m1 ≤ 1000 ∧ (m1 = -1 ∨ m0 ≤ m1)) := by
  unfold ndF at h
  by_cases hc : (sub : Int) < (arF op).1 ∨ ((arF op).2 ≥ 0 ∧ (sub : Int) > (arF op).2)
  · rw [if_pos hc] at h; cases h
  rw [if_neg hc] at h
  refine ⟨by omega, by omega, ?_⟩
  by_cases h3 : op = 3
  · rw [if_pos h3] at h
    simp only [Bool.and_eq_true, decide_eq_true_eq] at h
    exact ⟨fun _ => ⟨h.1, by omega⟩, fun h' => by omega, fun h' => by omega⟩
  rw [if_neg h3] at h
  by_cases h4 : op = 4
  · rw [if_pos h4] at h
    exact ⟨fun h' => by omega, fun _ => h, fun h' => by omega⟩
  rw [if_neg h4] at h
  by_cases h17 : op = 17
  · rw [if_pos h17] at h
    simp only [Bool.and_eq_true, Bool.or_eq_true, decide_eq_true_eq] at h
    exact ⟨fun h' => by omega, fun h' => by omega, fun _ => by omega⟩
  · exact ⟨fun h' => by omega, fun h' => by omega, fun h' => absurd h' h17⟩
theorem ar_11 {op : Int} (h : op = 13 ∨ op = 14 ∨ op = 15 ∨ op = 16 ∨ op = 17) : arF op = (1, 1) := by unfold arF; rw [if_pos h]
theorem ar_00 {op : Int} (h : 1 ≤ op ∧ op ≤ 12) : arF op = (0, 0) := by
  unfold arF
  rw [if_neg (show ¬ (op = 13 ∨ op = 14 ∨ op = 15 ∨ op = 16 ∨ op = 17) by omega), if_neg (show ¬ op = 18 by omega), if_neg (show ¬ op = 19 by omega), if_pos h]
theorem ar_19 : arF 19 = (1, -1) := by decide
theorem ar_10 {op : Int} (h : ¬ (1 ≤ op ∧ op ≤ 19)) : arF op = (1, 0) := by
  unfold arF
  rw [if_neg (show ¬ (op = 13 ∨ op = 14 ∨ op = 15 ∨ op = 16 ∨ op = 17) by omega), if_neg (show ¬ op = 18 by omega), if_neg (show ¬ op = 19 by omega), if_neg (show ¬ (1 ≤ op ∧ op ≤ 12) by omega)]
theorem nd_rep {op : Int} {rs : List Int} {m0 m1 : Int} {sub : Nat} (h : ndF op rs m0 m1 sub = true) : op = 17 → 0 ≤ m0 ∧ m0 ≤ 1000 ∧ -1 ≤ m1 ∧ m1 ≤ 1000 ∧ (m1 = -1 ∨ m0 ≤ m1) := (nd_split h).2.2.2.2
theorem nd_lit {op : Int} {rs : List Int} {m0 m1 : Int} {sub : Nat} (h : ndF op rs m0 m1 sub = true) : op = 3 → sub = 0 := by
  intro h3
  obtain ⟨h1, h2, _⟩ := nd_split h
  rw [ar_00 (by omega)] at h1 h2
  simp at h1 h2
  omega
theorem snd_of {op : Int} {rs : List Int} {m0 m1 cp : Int} {sub : Nat} (h : ndF op rs m0 m1 sub = true) (hcp : cpP 1000 op cp) : sndF op rs m0 m1 cp sub = true := by
  obtain ⟨a1, a2, n3, n4, n17⟩ := nd_split h
  clear h
  unfold sndF
  unfold cpP at hcp
  by_cases h1 : op = 1 ∨ op = 2 ∨ (5 ≤ op ∧ op ≤ 12)
  · rw [if_pos h1]
    rw [ar_00 (by omega)] at a1 a2
    simp at a1 a2 ⊢
    omega
  rw [if_neg h1]
  by_cases h3 : op = 3
  · rw [if_pos h3]
    rw [ar_00 (by omega)] at a1 a2
    obtain ⟨b1, b2⟩ := n3 h3
    simp only [Bool.and_eq_true, decide_eq_true_eq, beq_iff_eq]
    simp at a1 a2
    exact ⟨⟨by omega, b1⟩, by omega⟩
  rw [if_neg h3]
  by_cases h4 : op = 4
  · rw [if_pos h4]
    rw [ar_00 (by omega)] at a1 a2
    simp only [Bool.and_eq_true, beq_iff_eq]
    simp at a1 a2
    exact ⟨n4 h4, by omega⟩
  rw [if_neg h4]
  by_cases h13 : op = 13
  · rw [if_pos h13]
    rw [ar_11 (by omega)] at a1 a2
    obtain ⟨b1, b2⟩ := hcp h13
    simp only [Bool.and_eq_true, decide_eq_true_eq, beq_iff_eq]
    simp at a1 a2
    omega
  rw [if_neg h13]
  by_cases h14 : op = 14 ∨ op = 15 ∨ op = 16
  · rw [if_pos h14]
    rw [ar_11 (by omega)] at a1 a2
    simp only [beq_iff_eq]
    simp at a1 a2
    omega
  rw [if_neg h14]
  by_cases h17 : op = 17
  · rw [if_pos h17]
    rw [ar_11 (by omega)] at a1 a2
    obtain ⟨b1, b2, b3, b4, b5⟩ := n17 h17
    simp only [Bool.and_eq_true, Bool.or_eq_true, decide_eq_true_eq, beq_iff_eq]
    simp at a1 a2
    omega
  rw [if_neg h17]
  by_cases h18 : op = 18
  · rw [if_pos h18]
  rw [if_neg h18]
  by_cases h19 : op = 19
  · rw [if_pos h19]
    rw [h19, ar_19] at a1
    simp at a1 ⊢
    omega
  · exfalso
    rw [ar_10 (by omega)] at a1 a2
    simp at a1 a2
    omega
end Go.Proofs.Ytholpemmakdglaa.PFnSyRepeatValid
