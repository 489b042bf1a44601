/- The plain law of the merging: as the package does it, it is as the reference has it, if the ranges are apart; else there is none. -/
import Derived.Test.YtholpemmakdglaaMergeW
namespace Go.Proofs.Ytholpemmakdglaa.Mem
open Go.RowKit
set_option linter.unusedVariables false
/-- The merging as the reference has it: the lesser range first, whether they are apart or not. -/
def spM (lp rp : Int) : Nat → List Int → List Int → List Int → List Int → List Int × List Int
  | 0, M, N, _, _ => (M, N)
  | f + 1, M, N, l, r =>
    match l, r with
    | a :: b :: l', [] => spM lp rp f (M ++ [a, b]) (N ++ [lp]) l' []
    | [], c :: d :: r' => spM lp rp f (M ++ [c, d]) (N ++ [rp]) [] r'
    | a :: b :: l', c :: d :: r' =>
      if a < c then spM lp rp f (M ++ [a, b]) (N ++ [lp]) l' (c :: d :: r')
      else spM lp rp f (M ++ [c, d]) (N ++ [rp]) (a :: b :: l') r'
    | _, _ => (M, N)
theorem clsF_app : ∀ (P : List Int) (last : Int) (X : List Int), P.length % 2 = 0 → clsF last (P ++ X) = (clsF last P && clsF (P.getLastD last) X)
  | [], _, _, _ => by simp [clsF]
  | [_], _, _, h => by simp at h
  | a :: b :: P, last, X, h => by
    have ih := clsF_app P b X (by simp at h; omega)
    simp only [List.cons_append, clsF, ih, List.getLastD_cons, Bool.and_assoc]
theorem clsF_weak : ∀ (l : List Int) (x y : Int), y ≤ x → clsF x l = true → clsF y l = true
  | [], _, _, _, _ => rfl
  | [_], _, _, _, h => by simp [clsF] at h
  | a :: b :: l, x, y, hxy, h => by
    simp only [clsF, Bool.and_eq_true, decide_eq_true_eq] at h ⊢
    exact ⟨⟨⟨by omega, h.1.1.2⟩, h.1.2⟩, h.2⟩
theorem getLastD_getD (M : List Int) (h : M.length ≠ 0) : M.getD (M.length - 1) 0 = M.getLastD (-1) := by
  obtain ⟨P, z, rfl⟩ : ∃ P z, M = P ++ [z] := by
    rcases List.eq_nil_or_concat M with h0 | ⟨P, z, h0⟩
    · rw [h0] at h; simp at h
    · exact ⟨P, z, by simpa using h0⟩
  simp
/-- A range behind those that there are. -/
theorem app_pair (M : List Int) (hM : clsF (-1) M = true) (he : M.length % 2 = 0) (x y : Int) (hx : -1 < x) (hxy : x ≤ y) (hy : y ≤ 1114111) :
    clsF (-1) (M ++ [x, y]) = !decide (M.length ≠ 0 ∧ x ≤ M.getD (M.length - 1) 0) := by
  rw [clsF_app M _ _ he, hM]
  simp only [clsF, Bool.true_and, Bool.and_true, hxy, hy, decide_true]
  by_cases h0 : M.length = 0
  · have : M = [] := List.length_eq_zero_iff.1 h0
    subst this
    simp [hx]
  · rw [getLastD_getD M h0]
    by_cases hh : x ≤ M.getLastD (-1)
    · rw [decide_eq_false (by omega), decide_eq_true (show M.length ≠ 0 ∧ x ≤ M.getLastD (-1) from ⟨h0, hh⟩)]; rfl
    · rw [decide_eq_true (by omega), decide_eq_false (fun h : M.length ≠ 0 ∧ x ≤ M.getLastD (-1) => hh h.2)]; rfl
theorem cls_pre (M X : List Int) (he : M.length % 2 = 0) (h : clsF (-1) M = false) : clsF (-1) (M ++ X) = false := by rw [clsF_app M _ _ he, h]; rfl
theorem spM_pre (lp rp : Int) : ∀ (f : Nat) (M N l r : List Int), ∃ X, (spM lp rp f M N l r).1 = M ++ X
  | 0, M, N, l, r => ⟨[], by simp [spM]⟩
  | f + 1, M, N, l, r => by
    unfold spM
    split
    · rename_i a b l'
      obtain ⟨X, hX⟩ := spM_pre lp rp f (M ++ [a, b]) (N ++ [lp]) l' []
      exact ⟨[a, b] ++ X, by rw [hX, List.append_assoc]⟩
    · rename_i c d r'
      obtain ⟨X, hX⟩ := spM_pre lp rp f (M ++ [c, d]) (N ++ [rp]) [] r'
      exact ⟨[c, d] ++ X, by rw [hX, List.append_assoc]⟩
    · rename_i a b l' c d r'
      split
      · obtain ⟨X, hX⟩ := spM_pre lp rp f (M ++ [a, b]) (N ++ [lp]) l' (c :: d :: r')
        exact ⟨[a, b] ++ X, by rw [hX, List.append_assoc]⟩
      · obtain ⟨X, hX⟩ := spM_pre lp rp f (M ++ [c, d]) (N ++ [rp]) (a :: b :: l') r'
        exact ⟨[c, d] ++ X, by rw [hX, List.append_assoc]⟩
    · exact ⟨[], by simp⟩
/-- A list with a part at its front that isn't ascending is none. -/
theorem spM_bad (lp rp : Int) (f : Nat) (M N l r : List Int) (he : M.length % 2 = 0) (h : clsF (-1) M = false) : clsF (-1) (spM lp rp f M N l r).1 = false := by
  obtain ⟨X, hX⟩ := spM_pre lp rp f M N l r
  rw [hX]; exact cls_pre M X he h
theorem merge_law (lp rp : Int) : ∀ (f : Nat) (M N l r : List Int), clsF (-1) M = true → M.length % 2 = 0 → clsF (-1) l = true → clsF (-1) r = true → l.length + r.length ≤ f →
    goM lp rp f M N l r = if clsF (-1) (spM lp rp f M N l r).1 = true then some (spM lp rp f M N l r) else none
  | 0, M, N, l, r, hM, _, _, _, _ => by simp [goM, spM, hM]
  | f + 1, M, N, l, r, hM, he, hl, hr, hf => by
    match l, r, hl, hr, hf with
    | [], [], _, _, _ => simp [goM, spM, hM]
    | [_], _, hl, _, _ => simp [clsF] at hl
    | _, [_], _, hr, _ => simp [clsF] at hr
    | a :: b :: l', [], hl, hr, hf =>
      simp only [clsF, Bool.and_eq_true, decide_eq_true_eq] at hl
      have hp := app_pair M hM he a b hl.1.1.1 hl.1.1.2 hl.1.2
      have hs : spM lp rp (f + 1) M N (a :: b :: l') [] = spM lp rp f (M ++ [a, b]) (N ++ [lp]) l' [] := rfl
      have hg : goM lp rp (f + 1) M N (a :: b :: l') [] = if M.length ≠ 0 ∧ a ≤ M.getD (M.length - 1) 0 then none else goM lp rp f (M ++ [a, b]) (N ++ [lp]) l' [] := rfl
      rw [hs, hg]
      by_cases hb : M.length ≠ 0 ∧ a ≤ M.getD (M.length - 1) 0
      · rw [if_pos hb, if_neg (by rw [spM_bad _ _ _ _ _ _ _ (by simp; omega) (by rw [hp, decide_eq_true hb]; rfl)]; simp)]
      · rw [if_neg hb]
        exact merge_law lp rp f _ _ l' [] (by rw [hp, decide_eq_false hb]; rfl) (by simp; omega) (clsF_weak l' b _ (by omega) hl.2) rfl (by simp at hf ⊢; omega)
    | [], c :: d :: r', hl, hr, hf =>
      simp only [clsF, Bool.and_eq_true, decide_eq_true_eq] at hr
      have hp := app_pair M hM he c d hr.1.1.1 hr.1.1.2 hr.1.2
      have hs : spM lp rp (f + 1) M N [] (c :: d :: r') = spM lp rp f (M ++ [c, d]) (N ++ [rp]) [] r' := rfl
      have hg : goM lp rp (f + 1) M N [] (c :: d :: r') = if M.length ≠ 0 ∧ c ≤ M.getD (M.length - 1) 0 then none else goM lp rp f (M ++ [c, d]) (N ++ [rp]) [] r' := rfl
      rw [hs, hg]
      by_cases hb : M.length ≠ 0 ∧ c ≤ M.getD (M.length - 1) 0
      · rw [if_pos hb, if_neg (by rw [spM_bad _ _ _ _ _ _ _ (by simp; omega) (by rw [hp, decide_eq_true hb]; rfl)]; simp)]
      · rw [if_neg hb]
        exact merge_law lp rp f _ _ [] r' (by rw [hp, decide_eq_false hb]; rfl) (by simp; omega) rfl (clsF_weak r' d _ (by omega) hr.2) (by simp at hf ⊢; omega)
    | a :: b :: l', c :: d :: r', hl, hr, hf =>
      have hl0 := hl
      have hr0 := hr
      simp only [clsF, Bool.and_eq_true, decide_eq_true_eq] at hl hr
      have hpa := app_pair M hM he a b hl.1.1.1 hl.1.1.2 hl.1.2
      have hpc := app_pair M hM he c d hr.1.1.1 hr.1.1.2 hr.1.2
      have hs : spM lp rp (f + 1) M N (a :: b :: l') (c :: d :: r') = if a < c then spM lp rp f (M ++ [a, b]) (N ++ [lp]) l' (c :: d :: r') else spM lp rp f (M ++ [c, d]) (N ++ [rp]) (a :: b :: l') r' := rfl
      have hg : goM lp rp (f + 1) M N (a :: b :: l') (c :: d :: r') = if c < a then (if M.length ≠ 0 ∧ c ≤ M.getD (M.length - 1) 0 then none else goM lp rp f (M ++ [c, d]) (N ++ [rp]) (a :: b :: l') r') else (if M.length ≠ 0 ∧ a ≤ M.getD (M.length - 1) 0 then none else goM lp rp f (M ++ [a, b]) (N ++ [lp]) l' (c :: d :: r')) := rfl
      rw [hs, hg]
      rcases Int.lt_trichotomy a c with hac | hac | hac
      · rw [if_pos hac, if_neg (show ¬ c < a by omega)]
        by_cases hb : M.length ≠ 0 ∧ a ≤ M.getD (M.length - 1) 0
        · rw [if_pos hb, if_neg (by rw [spM_bad _ _ _ _ _ _ _ (by simp; omega) (by rw [hpa, decide_eq_true hb]; rfl)]; simp)]
        · rw [if_neg hb]
          exact merge_law lp rp f _ _ l' (c :: d :: r') (by rw [hpa, decide_eq_false hb]; rfl) (by simp; omega) (clsF_weak l' b _ (by omega) hl.2) hr0 (by simp at hf ⊢; omega)
      · subst hac
        rw [if_neg (Int.lt_irrefl a), if_neg (Int.lt_irrefl a)]
        have hfalse : clsF (-1) (spM lp rp f (M ++ [a, d]) (N ++ [rp]) (a :: b :: l') r').1 = false := by
          obtain ⟨f2, rfl⟩ : ∃ f2, f = f2 + 1 := ⟨f - 1, by simp at hf; omega⟩
          have hq : clsF (-1) ((M ++ [a, d]) ++ [a, b]) = false := by
            rw [clsF_app _ _ _ (by simp; omega)]
            have : ((M ++ [a, d]).getLastD (-1)) = d := by simp
            rw [this]
            simp only [clsF, Bool.and_eq_false_iff, decide_eq_false_iff_not]
            right; left; left; left; omega
          have hst : spM lp rp (f2 + 1) (M ++ [a, d]) (N ++ [rp]) (a :: b :: l') r' = spM lp rp f2 ((M ++ [a, d]) ++ [a, b]) ((N ++ [rp]) ++ [lp]) l' r' := by
            match r', hr with
            | [], _ => rfl
            | [_], hr => simp [clsF] at hr
            | c2 :: d2 :: r2, hr =>
              simp only [clsF, Bool.and_eq_true, decide_eq_true_eq] at hr
              show (if a < c2 then _ else _) = _
              rw [if_pos (by omega)]
          rw [hst]
          exact spM_bad _ _ _ _ _ _ _ (by simp; omega) hq
        have hno : ¬ clsF (-1) (spM lp rp f (M ++ [a, d]) (N ++ [rp]) (a :: b :: l') r').1 = true := by rw [hfalse]; simp
        rw [if_neg hno]
        by_cases hb : M.length ≠ 0 ∧ a ≤ M.getD (M.length - 1) 0
        · rw [if_pos hb]
        · rw [if_neg hb]
          obtain ⟨f2, rfl⟩ : ∃ f2, f = f2 + 1 := ⟨f - 1, by simp at hf; omega⟩
          have hb2 : (M ++ [a, b]).length ≠ 0 ∧ a ≤ (M ++ [a, b]).getD ((M ++ [a, b]).length - 1) 0 := by
            rw [getLastD_getD _ (by simp)]
            simp
            exact hl.1.1.2
          match l', hl with
          | [], _ => show (if _ then _ else _) = _; rw [if_pos hb2]
          | [_], hl => simp [clsF] at hl
          | a2 :: b2 :: l2, hl =>
            simp only [clsF, Bool.and_eq_true, decide_eq_true_eq] at hl
            show (if a < a2 then _ else _) = _
            rw [if_pos (by omega), if_pos hb2]
      · rw [if_pos hac, if_neg (show ¬ a < c by omega)]
        by_cases hb : M.length ≠ 0 ∧ c ≤ M.getD (M.length - 1) 0
        · rw [if_pos hb, if_neg (by rw [spM_bad _ _ _ _ _ _ _ (by simp; omega) (by rw [hpc, decide_eq_true hb]; rfl)]; simp)]
        · rw [if_neg hb]
          exact merge_law lp rp f _ _ (a :: b :: l') r' (by rw [hpc, decide_eq_false hb]; rfl) (by simp; omega) hl0 (clsF_weak r' d _ (by omega) hr.2) (by simp at hf ⊢; omega)
end Go.Proofs.Ytholpemmakdglaa.Mem
