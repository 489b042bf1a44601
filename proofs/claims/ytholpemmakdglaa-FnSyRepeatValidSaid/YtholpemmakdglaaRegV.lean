/- As XRegU's law: k operations in the middle, one behind the other, ahead of which or behind which some reads may come. -/
import Derived.Test.YtholpemmakdglaaRegT
namespace Go.Proofs.Ytholpemmakdglaa.Mem
open Go.RowKit
set_option linter.unusedVariables false
section
variable {P : Program} {Q : Exit → Act → World → Prop}
def midK (P : Program) (l : List Oper) (Q : Exit → Act → World → Prop) (S : World → Prop) : Nat → Nat → Act → World → Prop
  | 0, i, a, w => wpList P l.toArray (NoPanic Q) (l.drop i) a w
  | k + 1, i, a, w => wpOp P l.toArray (NoPanic Q) i (fun a2 w2 => S w2 ∧ midK P l Q S k (i + 1) a2 w2) a w
theorem wpAnyT_midK {l : List Oper} {S : World → Prop} {n : Nat} : ∀ (k i g : Nat) (listed : Array Bool) (a : Act) (w : World), (l.drop i).length = g → Region.seqB .any l.toArray g i listed = true → i + k = n → k ≤ g → midK P l Q S k i a w → wpAnyT P .any l.toArray (NoPanic Q) S n g listed a w
  | 0, i, g, listed, a, w, hg, hseq, hn, _, h => by
    have hT := wpAnyT_of_seq (P := P) (md := .any) (S := S) (n := n) (Q' := NoPanic Q) (l.drop i) i listed a w (by omega) (fun j => by simp [List.getElem?_drop]) (by rw [hg]; exact hseq) h
    rwa [hg] at hT
  | k + 1, i, 0, listed, a, w, hg, hseq, hn, hk, h => by omega
  | k + 1, i, g + 1, listed, a, w, hg, hseq, hn, hk, h => by
    simp only [Region.seqB, Bool.and_eq_true, decide_eq_true_eq] at hseq
    refine ⟨fun h1 => (by rw [hseq.1] at h1; cases h1), fun j hj => ?_⟩
    rw [hseq.1] at hj
    have hji : j = i := by simpa using hj
    subst hji
    exact wpOp_mono (fun a2 w2 h2 => ⟨fun _ => h2.1, wpAnyT_midK k (j + 1) g _ a2 w2 (by simp at hg ⊢; omega) hseq.2 (by omega) (by omega) h2.2⟩) h
def midkB (ops : Array Oper) (m k : Nat) : Bool :=
  Region.noSelect ops && decide (m + k < ops.size) && Region.sinkB .any ops (m + k) && Region.chainB .any ops (m + k) && headB .any ops (ops.size - m) m 0 (Array.replicate ops.size false)
theorem wp_region_midk {id : Nat} {a : Act} {w : World} {l : List Oper} (m k : Nat) (S : World → Prop) (hm : P.follows .mixedOrders = true) (hB : midkB l.toArray m k = true)
    (hS : S { w with drawn := w.drawn + 1 })
    (h : wpHeld P l.toArray S (fun a' => midK P l Q S k m a' { w with drawn := w.drawn + 1 }) (l.take m) a) :
    (Code.region id l.toArray true).wp P Q a w := by
  simp only [midkB, Bool.and_eq_true, decide_eq_true_eq] at hB
  obtain ⟨⟨⟨⟨hsel, hn⟩, hs⟩, hc⟩, hhead⟩ := hB
  have hn' : m + k < l.length := by simpa using hn
  have htl : (l.take m).length = m := by simp; omega
  have inv0 : HeadInv .any l.toArray (m + k) (Array.replicate l.toArray.size false) :=
    ⟨by simp, fun j oj _ hl => (by rw [getD_replicate_false] at hl; cases hl), fun t _ ht => getD_in (by simpa using ht) (getD_replicate_false _ _)⟩
  refine wp_region_noPanic (wp_region_any hm (wpAny_of_T (S := S) (n := m + k) _ _ _ _ ?_))
  have H := wpAnyT_lex (P := P) (md := .any) (Q := NoPanic Q) (S := S) (n := m + k) (m := m) (g := l.toArray.size - m) (ops := l.toArray)
    (L := fun a' w' => midK P l Q S k m a' w')
    (fun c a d v w h => h) hsel hs hc hn (by omega) { w with drawn := w.drawn + 1 } hS (fun listed a' hseq hL =>
      wpAnyT_midK k m _ listed a' _ (by simp) hseq rfl (by simp; omega) hL)
    (l.take m) 0 _ a (fun j hj => by
      have hj' : j < m := by rw [htl] at hj; exact hj
      simp [hj']) (by simpa using htl) inv0 (by rw [htl]; exact hhead) h
  rw [htl, show m + (l.toArray.size - m) = l.toArray.size by simp; omega] at H
  exact H
end
end Go.Proofs.Ytholpemmakdglaa.Mem
