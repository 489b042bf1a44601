/- As XRegT's law, the operation in the middle being any (a call among them). -/
import Derived.Test.YtholpemmakdglaaRegT
namespace Go.Proofs.Ytholpemmakdglaa.Mem
open Go.RowKit
set_option linter.unusedVariables false
section
variable {P : Program} {Q : Exit → Act → World → Prop}
theorem wp_region_mid2 {id : Nat} {a : Act} {w : World} {l : List Oper} (m : Nat) (S : World → Prop) (hm : P.follows .mixedOrders = true) (hB : midB l.toArray m = true)
    (hS : S { w with drawn := w.drawn + 1 })
    (h : wpHeld P l.toArray S (fun a' => wpOp P l.toArray (NoPanic Q) m (fun a2 w2 => S w2 ∧ wpList P l.toArray (NoPanic Q) (l.drop (m + 1)) a2 w2) a' { w with drawn := w.drawn + 1 }) (l.take m) a) :
    (Code.region id l.toArray true).wp P Q a w := by
  simp only [midB, Bool.and_eq_true, decide_eq_true_eq] at hB
  obtain ⟨⟨⟨⟨hsel, hn⟩, hs⟩, hc⟩, hhead⟩ := hB
  have hn' : m + 1 < l.length := by simpa using hn
  have htl : (l.take m).length = m := by simp; omega
  have inv0 : HeadInv .any l.toArray (m + 1) (Array.replicate l.toArray.size false) :=
    ⟨by simp, fun j oj _ hl => (by rw [getD_replicate_false] at hl; cases hl), fun t _ ht => getD_in (by simpa using ht) (getD_replicate_false _ _)⟩
  refine wp_region_noPanic (wp_region_any hm (wpAny_of_T (S := S) (n := m + 1) _ _ _ _ ?_))
  have H := wpAnyT_lex (P := P) (md := .any) (Q := NoPanic Q) (S := S) (n := m + 1) (m := m) (g := l.toArray.size - m) (ops := l.toArray)
    (L := fun a' w' => wpOp P l.toArray (NoPanic Q) m (fun a2 w2 => S w2 ∧ wpList P l.toArray (NoPanic Q) (l.drop (m + 1)) a2 w2) a' w')
    (fun c a d v w h => h) hsel hs hc hn (by omega) { w with drawn := w.drawn + 1 } hS (fun listed a' hseq hL => by
      obtain ⟨g, hg⟩ : ∃ g, l.toArray.size - m = g + 1 := ⟨l.toArray.size - m - 1, by omega⟩
      rw [hg] at hseq ⊢
      simp only [Region.seqB, Bool.and_eq_true, decide_eq_true_eq] at hseq
      refine ⟨fun h1 => (by rw [hseq.1] at h1; cases h1), fun i hi => ?_⟩
      rw [hseq.1] at hi
      have him : i = m := by simpa using hi
      subst him
      have hgl : (l.drop (i + 1)).length = g := by simp at hg ⊢; omega
      refine wpOp_mono (fun a2 w2 h2 => ⟨fun _ => h2.1, ?_⟩) hL
      have hT := wpAnyT_of_seq (P := P) (md := .any) (S := S) (n := i + 1) (Q' := NoPanic Q) (l.drop (i + 1)) (i + 1) (listed.setIfInBounds i true) a2 w2 (Nat.le_refl _) (fun j => by simp [List.getElem?_drop]) (by rw [hgl]; exact hseq.2) h2.2
      rwa [hgl] at hT)
    (l.take m) 0 _ a (fun j hj => by
      have hj' : j < m := by rw [htl] at hj; exact hj
      simp [hj']) (by simpa using htl) inv0 (by rw [htl]; exact hhead) h
  rw [htl, show m + (l.toArray.size - m) = l.toArray.size by simp; omega] at H
  exact H
end
end Go.Proofs.Ytholpemmakdglaa.Mem
