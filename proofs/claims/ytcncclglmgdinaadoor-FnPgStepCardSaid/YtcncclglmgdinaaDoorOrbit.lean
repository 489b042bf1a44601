/- The orbit of a character under SimpleFold: it comes back in at most four steps; the functions that walk along it. -/
import Derived.Test.YtcncclglmgdinaaDoorSFold
import Derived.Test.YtcncclglmgdinaaDoorMemA
namespace Go.Proofs.YtcncclglmgdinaaDoor.Fold
open Go.RowKit Go.Lib
set_option linter.unusedVariables false
def itF : Nat → Int → Int
 | 0, r => r
 | k + 1, r => SF (itF k r)
/-- The least of the first k characters of the orbit, the character itself at least. -/
def minU : Nat → Int → Int
 | 0, r => r
 | k + 1, r => min (minU k r) (itF k r)
structure Per (r : Int) (p : Nat) : Prop where
 pos : 1 ≤ p
 le : p ≤ 4
 back : itF p r = r
 first : ∀ j, 1 ≤ j → j < p → itF j r ≠ r
 lo : ∀ j, 0 ≤ itF j r
 hi : ∀ j, itF j r ≤ 1114111
 far : r < 65 ∨ 125251 < r → p = 1
theorem itF_add (r : Int) (j : Nat) : ∀ k, itF (k + j) r = itF k (itF j r)
 | 0 => by simp [itF]
 | k + 1 => by rw [show k + 1 + j = (k + j) + 1 by omega]; simp [itF, itF_add r j k]
theorem SF_in (r : Int) (h0 : 0 ≤ r) (h1 : r ≤ 1114111) : 0 ≤ SF r ∧ SF r ≤ 1114111 := by
 have h := chk_all r h0 h1
 unfold chk okN at h
 simp only [Bool.and_eq_true, decide_eq_true_eq] at h
 exact h.1
theorem itF_in (r : Int) (h0 : 0 ≤ r) (h1 : r ≤ 1114111) : ∀ j, 0 ≤ itF j r ∧ itF j r ≤ 1114111
 | 0 => ⟨h0, h1⟩
 | j + 1 => SF_in _ (itF_in r h0 h1 j).1 (itF_in r h0 h1 j).2
theorem per_any (r : Int) (h0 : 0 ≤ r) (h1 : r ≤ 1114111) : ∃ p, Per r p := by
 have h := chk_all r h0 h1
 unfold chk at h
 simp only [Bool.and_eq_true, Bool.or_eq_true, decide_eq_true_eq] at h
 have hin := itF_in r h0 h1
 by_cases a1 : itF 1 r = r
 ·exact ⟨1, by omega, by omega, a1, fun j _ _ => (by omega), fun j => (hin j).1, fun j => (hin j).2, fun _ => rfl⟩
 have hfar : 65 ≤ r ∧ r ≤ 125251 := by
  rcases h.2 with h | h
  ·exact absurd h a1
  ·exact h.1
 have hf : (r < 65 ∨ 125251 < r) → False := fun hh => by omega
 by_cases a2 : itF 2 r = r
 ·exact ⟨2, by omega, by omega, a2, fun j _ _ => (by have e : j = 1 := (by omega); rw [e]; exact a1), fun j => (hin j).1, fun j => (hin j).2, fun hh => (hf hh).elim⟩
 by_cases a3 : itF 3 r = r
 ·refine ⟨3, by omega, by omega, a3, fun j _ _ => ?_, fun j => (hin j).1, fun j => (hin j).2, fun hh => (hf hh).elim⟩
  rcases (show j = 1 ∨ j = 2 by omega) with rfl | rfl
  ·exact a1
  ·exact a2
 have a4 : itF 4 r = r := by
  rcases h.2 with h | h
  ·exact absurd h a1
  rcases h.2.2 with h | h
  ·exact absurd h a2
  rcases h.2 with h | h
  ·exact absurd h a3
  exact h.2
 refine ⟨4, by omega, by omega, a4, fun j _ _ => ?_, fun j => (hin j).1, fun j => (hin j).2, fun hh => (hf hh).elim⟩
 rcases (show j = 1 ∨ j = 2 ∨ j = 3 by omega) with rfl | rfl | rfl
 ·exact a1
 ·exact a2
 ·exact a3
theorem minU_in (r : Int) (h0 : 0 ≤ r) (h1 : r ≤ 1114111) : ∀ j, 0 ≤ minU j r ∧ minU j r ≤ 1114111
 | 0 => ⟨h0, h1⟩
 | j + 1 => by
  have := minU_in r h0 h1 j
  have := itF_in r h0 h1 j
  simp only [minU]; omega
end Go.Proofs.YtcncclglmgdinaaDoor.Fold
