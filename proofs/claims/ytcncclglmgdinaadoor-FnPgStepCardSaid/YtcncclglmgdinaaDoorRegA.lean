/- A statement that leaves its order open: its reads first, in the text's order, then one operation that may make memory ahead of some of the reads, then the others, one behind the other. As XRegT's law, the operation in the middle being any (a call among them). As XRegU's law: k operations in the middle, one behind the other, ahead of which or behind which some reads may come. -/
import Derived.Test.YtcncclglmgdinaaDoorMemA
import Derived.OrdersHeld
import Derived.StillTail
import Derived.Deep.RegionHeld3
namespace Go.Proofs.YtcncclglmgdinaaDoor.Mem
open Go.RowKit
set_option linter.unusedVariables false
section
variable {P : Program} {ops : Array Oper} {Q : Exit → Act → World → Prop} {md : Region.Mode} {S : World → Prop}
/-- Whatever order is picked from here on, and S holds behind each operation ahead of number n. -/
def wpAnyT (P : Program) (md : Region.Mode) (ops : Array Oper) (Q : Exit → Act → World → Prop) (S : World → Prop) (n : Nat) : Nat → Array Bool → Act → World → Prop
 | 0, listed, a, w => Region.ready md ops listed = [] ∧ Q .normal a w
 | f + 1, listed, a, w =>
  (Region.ready md ops listed = [] → Q .normal a w) ∧
  ∀ i ∈ Region.ready md ops listed, wpOp P ops Q i (fun a' w' => (i < n → S w') ∧ wpAnyT P md ops Q S n f (listed.setIfInBounds i true) a' w') a w
theorem wpAny_of_T {n : Nat} : ∀ (f : Nat) (listed : Array Bool) (a : Act) (w : World), wpAnyT P md ops Q S n f listed a w → wpAny P md ops Q f listed a w
 | 0, _, _, _, h => h
 | f + 1, _, _, _, h => ⟨h.1, fun i hi => wpOp_mono (fun a' w' h' => wpAny_of_T f _ a' w' h'.2) (h.2 i hi)⟩
theorem wpAnyT_first {n i : Nat} {oi : Oper} {v : Value} (hi : ops[i]? = some oi) (hsel : ∀ (j : Nat) (o : Oper) cs b, ops[j]? = some o → o.op ≠ .select cs b)
  (hQ : ∀ c a w, Q (.panic c) (a.put oi.dst v) w → Q (.panic c) a w) (hs : Region.sinkB md ops n = true) (hc : Region.chainB md ops n = true) (hn : n < ops.size) (hin : i < n) :
  ∀ (f : Nat) (listed : Array Bool) (a : Act) (w : World), HeadInv md ops n listed →
   (∀ j oj, ops[j]? = some oj → j ≠ i → listed.getD j true = false → (∀ e ∈ oj.after, Region.binds md e = true → e.on ≠ i) → oi.apart ops oj = true) →
   i ∈ Region.ready md ops listed → YieldsIf P ops S oi v a → S w →
   wpAnyT P md ops Q S n f (listed.setIfInBounds i true) (a.put oi.dst v) w → wpAnyT P md ops Q S n (f + 1) listed a w := by
 intro f
 induction f with
 | zero =>
  intro listed a w inv _ hr hy hS H
  refine ⟨fun h => (by rw [h] at hr; cases hr), fun j hj => ?_⟩
  by_cases hji : j = i
  ·subst hji; exact hy.wpOp hi hS ⟨fun _ => hS, H⟩
  ·have := ready_mono hj hji
   rw [H.1] at this
   cases this
 | succ f ih =>
  intro listed a w inv hfree hr hy hS H
  have hun := (mem_ready.1 hr).1
  refine ⟨fun h => (by rw [h] at hr; cases hr), fun j hj => ?_⟩
  have hjn : j < n := by
   rcases Nat.lt_or_ge j n with h | h
   ·exact h
   ·exact absurd hj (tail_waits hs hc hn inv _ i rfl hin hun j h)
  by_cases hji : j = i
  ·subst hji; exact hy.wpOp hi hS ⟨fun _ => hS, H⟩
  ·have h1 := H.2 j (ready_mono hj hji)
   obtain ⟨hjun, oj, hoj, hall⟩ := mem_ready.1 hj
   have hnot : ∀ e ∈ oj.after, Region.binds md e = true → e.on ≠ i := fun e he hb heq => by
    have h1 := hall e he hb
    rw [heq, getD_both hun] at h1
    cases h1
   have h2 := wpOp_putIf hoj (hfree j oj hoj hji hjun hnot) (fun cs b => hsel i oi cs b hi) (fun cs b => hsel j oj cs b hoj) hQ hy h1
   have hfree' : ∀ k ok, ops[k]? = some ok → k ≠ i → (listed.setIfInBounds j true).getD k true = false →
     (∀ e ∈ ok.after, Region.binds md e = true → e.on ≠ i) → oi.apart ops ok = true := fun k ok hk hki hku hno => by
    refine hfree k ok hk hki ?_ hno
    by_cases hjk : j = k
    ·subst hjk; exact hjun
    ·rw [getD_set_ne true hjk] at hku; exact hku
   refine wpOp_mono (fun a' w' h3 => ⟨fun _ => h3.2.1 hjn, ih (listed.setIfInBounds j true) a' w' (inv.set hj hjn) hfree' (ready_mono hr (Ne.symm hji)) h3.1 (h3.2.1 hjn) ?_⟩) h2
   rw [Array.setIfInBounds_comm _ _ hji]
   exact h3.2.2
/-- The reads in the text's order, each of them yielding in every world that meets S. -/
def wpHeld (P : Program) (ops : Array Oper) (S : World → Prop) (L : Act → Prop) : List Oper → Act → Prop
 | [], a => L a
 | o :: l, a => ∃ v, YieldsIf P ops S o v a ∧ wpHeld P ops S L l (a.put o.dst v)
theorem wpHeld_nil {L : Act → Prop} {a : Act} (h : L a) : wpHeld P ops S L [] a := h
theorem wpHeld_step {L : Act → Prop} {o : Oper} {l : List Oper} {a : Act} {v : Value} (hg : Region.wanted o (yielded ops a.tmps) = true) (hv : ∀ w, S w → (execOp a.eval o).run P w = .ok (.value v) w) (h : wpHeld P ops S L l (a.put o.dst v)) : wpHeld P ops S L (o :: l) a :=
 ⟨v, Or.inl ⟨hg, hv⟩, h⟩
/-- The head's operations may come up in the text's order; then number n alone, then the others, one behind the other. -/
def headB (md : Region.Mode) (ops : Array Oper) (g : Nat) : Nat → Nat → Array Bool → Bool
 | 0, k, listed => Region.seqB md ops g k listed
 | f + 1, k, listed => (Region.ready md ops listed).contains k && Region.free md ops listed k && headB md ops g f (k + 1) (listed.setIfInBounds k true)
theorem wpAnyT_lex {n m g : Nat} {L : Act → World → Prop} (hQ : ∀ c (a : Act) d v w, Q (.panic c) (a.put d v) w → Q (.panic c) a w) (hsel : Region.noSelect ops = true) (hs : Region.sinkB md ops n = true) (hc : Region.chainB md ops n = true) (hn : n < ops.size) (hmn : m ≤ n) (w : World) (hS : S w)
  (hend : ∀ listed a, Region.seqB md ops g m listed = true → L a w → wpAnyT P md ops Q S n g listed a w) :
  ∀ (l : List Oper) (k : Nat) (listed : Array Bool) (a : Act), (∀ j, j < l.length → l[j]? = ops[k + j]?) → k + l.length = m → HeadInv md ops n listed →
  headB md ops g l.length k listed = true → wpHeld P ops S (fun a' => L a' w) l a → wpAnyT P md ops Q S n (l.length + g) listed a w
 | [], k, listed, a, _, hk, _, hB, h => by
  have : k = m := by simpa using hk
  subst this
  rw [List.length_nil, Nat.zero_add]
  exact hend _ _ (by simpa [headB] using hB) h
 | o :: l, k, listed, a, hl, hk, inv, hB, h => by
  have h0 : ops[k]? = some o := by simpa using (hl 0 (by simp)).symm
  simp only [List.length_cons, headB, Bool.and_eq_true] at hB
  obtain ⟨⟨hr, hf⟩, hB'⟩ := hB
  have hkn : k < n := by simp only [List.length_cons] at hk; omega
  have hr' : k ∈ Region.ready md ops listed := by simpa using hr
  obtain ⟨v, hy, hK⟩ := h
  rw [show (o :: l).length + g = (l.length + g) + 1 by simp; omega]
  exact wpAnyT_first h0 (Region.noSelect_spec hsel) (fun c a w => hQ c a _ _ w) hs hc hn hkn (l.length + g) listed a w inv (Region.free_spec h0 hf) hr' hy hS
   (wpAnyT_lex hQ hsel hs hc hn hmn w hS hend l (k + 1) _ _ (fun j hj => by have := hl (j + 1) (by simp; omega); simpa [Nat.add_assoc, Nat.add_comm 1 j] using this) (by simp only [List.length_cons] at hk; omega) (inv.set hr' hkn) hB' hK)
theorem wpAnyT_of_seq {n : Nat} {Q' : Exit → Act → World → Prop} : ∀ (l : List Oper) (k : Nat) (listed : Array Bool) (a : Act) (w : World), n ≤ k → (∀ j, l[j]? = ops[k + j]?) →
  Region.seqB md ops l.length k listed = true → wpList P ops Q' l a w → wpAnyT P md ops Q' S n l.length listed a w
 | [], _, _, _, _, _, _, hB, h => ⟨by simpa [Region.seqB] using hB, h⟩
 | o :: l, k, listed, a, w, hnk, hl, hB, h => by
  have h0 : ops[k]? = some o := by simpa using (hl 0).symm
  simp only [List.length_cons, Region.seqB, Bool.and_eq_true, decide_eq_true_eq] at hB
  refine ⟨fun h1 => (by rw [hB.1] at h1; cases h1), fun i hi => ?_⟩
  rw [hB.1] at hi
  have hik : i = k := by simpa using hi
  subst hik
  have hw : wpOp P ops Q' i (wpList P ops Q' l) a w := by unfold wpOp; simp only [h0]; exact h
  exact wpOp_mono (fun a' w' h' => ⟨fun hlt => absurd hlt (by omega), wpAnyT_of_seq l (i + 1) _ a' w' (by omega) (fun j => by have := hl (j + 1); simpa [Nat.add_assoc, Nat.add_comm 1 j] using this) hB.2 h'⟩) hw
/-- The shape that the law is for, as a Bool. -/
def midB (ops : Array Oper) (m : Nat) : Bool :=
 Region.noSelect ops && decide (m + 1 < ops.size) && Region.sinkB .any ops (m + 1) && Region.chainB .any ops (m + 1) && headB .any ops (ops.size - m) m 0 (Array.replicate ops.size false)
theorem wp_region_mid {id : Nat} {a : Act} {w : World} {l : List Oper} (m : Nat) (S : World → Prop) (hm : P.follows .mixedOrders = true) (hB : midB l.toArray m = true)
  (hS : S { w with drawn := w.drawn + 1 })
  (h : wpHeld P l.toArray S (fun a' => ∃ o v w1, l[m]? = some o ∧ Region.wanted o (yielded l.toArray a'.tmps) = true ∧ (execOp a'.eval o).run P { w with drawn := w.drawn + 1 } = .ok (.value v) w1 ∧ S w1 ∧ wpList P l.toArray (NoPanic Q) (l.drop (m + 1)) (a'.put o.dst v) w1) (l.take m) a) :
  (Code.region id l.toArray true).wp P Q a w := by
 simp only [midB, Bool.and_eq_true, decide_eq_true_eq] at hB
 obtain ⟨⟨⟨⟨hsel, hn⟩, hs⟩, hc⟩, hhead⟩ := hB
 have hn' : m + 1 < l.length := by simpa using hn
 have htl : (l.take m).length = m := by simp; omega
 have inv0 : HeadInv .any l.toArray (m + 1) (Array.replicate l.toArray.size false) :=
  ⟨by simp, fun j oj _ hl => (by rw [getD_replicate_false] at hl; cases hl), fun t _ ht => getD_in (by simpa using ht) (getD_replicate_false _ _)⟩
 refine wp_region_noPanic (wp_region_any hm (wpAny_of_T (S := S) (n := m + 1) _ _ _ _ ?_))
 have H := wpAnyT_lex (P := P) (md := .any) (Q := NoPanic Q) (S := S) (n := m + 1) (m := m) (g := l.toArray.size - m) (ops := l.toArray)
  (L := fun a' w' => ∃ o v w1, l[m]? = some o ∧ Region.wanted o (yielded l.toArray a'.tmps) = true ∧ (execOp a'.eval o).run P w' = .ok (.value v) w1 ∧ S w1 ∧ wpList P l.toArray (NoPanic Q) (l.drop (m + 1)) (a'.put o.dst v) w1)
  (fun c a d v w h => h) hsel hs hc hn (by omega) { w with drawn := w.drawn + 1 } hS (fun listed a' hseq hL => by
   obtain ⟨o, v, w1, ho, hw, hr, hS1, hrest⟩ := hL
   obtain ⟨g, hg⟩ : ∃ g, l.toArray.size - m = g + 1 := ⟨l.toArray.size - m - 1, by omega⟩
   rw [hg] at hseq ⊢
   simp only [Region.seqB, Bool.and_eq_true, decide_eq_true_eq] at hseq
   refine ⟨fun h1 => (by rw [hseq.1] at h1; cases h1), fun i hi => ?_⟩
   rw [hseq.1] at hi
   have him : i = m := by simpa using hi
   subst him
   have hgl : (l.drop (i + 1)).length = g := by simp at hg ⊢; omega
   have hT := wpAnyT_of_seq (P := P) (md := .any) (S := S) (n := i + 1) (Q' := NoPanic Q) (l.drop (i + 1)) (i + 1) (listed.setIfInBounds i true) (a'.put o.dst v) w1 (Nat.le_refl _) (fun j => by simp [List.getElem?_drop]) (by rw [hgl]; exact hseq.2) hrest
   rw [hgl] at hT
   have hoo : l.toArray[i]? = some o := by simpa using ho
   unfold wpOp
   simp only [hoo, hw, if_true]
   refine Or.inl ?_
   simp only [Oper.wp, hr, Oper.upon]
   exact ⟨fun _ => hS1, hT⟩)
  (l.take m) 0 _ a (fun j hj => by
   have hj' : j < m := by rw [htl] at hj; exact hj
   simp [hj']) (by simpa using htl) inv0 (by rw [htl]; exact hhead) h
 rw [htl, show m + (l.toArray.size - m) = l.toArray.size by omega] at H
 exact H
end
end Go.Proofs.YtcncclglmgdinaaDoor.Mem
namespace Go.Proofs.YtcncclglmgdinaaDoor.Mem
open Go.RowKit
set_option linter.unusedVariables false
section
variable {P : Program} {Q : Exit → Act → World → Prop}
theorem wp_region_mid2 {id : Nat} {a : Act} {w : World} {l : List Oper} (m : Nat) (S : World → Prop) (hm : P.follows .mixedOrders = true) (hB : midB l.toArray m = true)
  (hS : S { w with drawn := w.drawn + 1 })
  (h : wpHeld P l.toArray S (fun a' => wpOp P l.toArray (NoPanic Q) m (fun a2 w2 => S w2 ∧ wpList P l.toArray (NoPanic Q) (l.drop (m + 1)) a2 w2) a' { w with drawn := w.drawn + 1 }) (l.take m) a) :
  (Code.region id l.toArray true).wp P Q a w := by
 simp only [midB, Bool.and_eq_true, decide_eq_true_eq] at hB
 obtain ⟨⟨⟨⟨hsel, hn⟩, hs⟩, hc⟩, hhead⟩ := hB
 have hn' : m + 1 < l.length := by simpa using hn
 have htl : (l.take m).length = m := by simp; omega
 have inv0 : HeadInv .any l.toArray (m + 1) (Array.replicate l.toArray.size false) :=
  ⟨by simp, fun j oj _ hl => (by rw [getD_replicate_false] at hl; cases hl), fun t _ ht => getD_in (by simpa using ht) (getD_replicate_false _ _)⟩
 refine wp_region_noPanic (wp_region_any hm (wpAny_of_T (S := S) (n := m + 1) _ _ _ _ ?_))
 have H := wpAnyT_lex (P := P) (md := .any) (Q := NoPanic Q) (S := S) (n := m + 1) (m := m) (g := l.toArray.size - m) (ops := l.toArray)
  (L := fun a' w' => wpOp P l.toArray (NoPanic Q) m (fun a2 w2 => S w2 ∧ wpList P l.toArray (NoPanic Q) (l.drop (m + 1)) a2 w2) a' w')
  (fun c a d v w h => h) hsel hs hc hn (by omega) { w with drawn := w.drawn + 1 } hS (fun listed a' hseq hL => by
   obtain ⟨g, hg⟩ : ∃ g, l.toArray.size - m = g + 1 := ⟨l.toArray.size - m - 1, by omega⟩
   rw [hg] at hseq ⊢
   simp only [Region.seqB, Bool.and_eq_true, decide_eq_true_eq] at hseq
   refine ⟨fun h1 => (by rw [hseq.1] at h1; cases h1), fun i hi => ?_⟩
   rw [hseq.1] at hi
   have him : i = m := by simpa using hi
   subst him
   have hgl : (l.drop (i + 1)).length = g := by simp at hg ⊢; omega
   refine wpOp_mono (fun a2 w2 h2 => ⟨fun _ => h2.1, ?_⟩) hL
   have hT := wpAnyT_of_seq (P := P) (md := .any) (S := S) (n := i + 1) (Q' := NoPanic Q) (l.drop (i + 1)) (i + 1) (listed.setIfInBounds i true) a2 w2 (Nat.le_refl _) (fun j => by simp [List.getElem?_drop]) (by rw [hgl]; exact hseq.2) h2.2
   rwa [hgl] at hT)
  (l.take m) 0 _ a (fun j hj => by
   have hj' : j < m := by rw [htl] at hj; exact hj
   simp [hj']) (by simpa using htl) inv0 (by rw [htl]; exact hhead) h
 rw [htl, show m + (l.toArray.size - m) = l.toArray.size by simp; omega] at H
 exact H
end
end Go.Proofs.YtcncclglmgdinaaDoor.Mem
namespace Go.Proofs.YtcncclglmgdinaaDoor.Mem
open Go.RowKit
set_option linter.unusedVariables false
section
variable {P : Program} {Q : Exit → Act → World → Prop}
def midK (P : Program) (l : List Oper) (Q : Exit → Act → World → Prop) (S : World → Prop) : Nat → Nat → Act → World → Prop
 | 0, i, a, w => wpList P l.toArray (NoPanic Q) (l.drop i) a w
 | k + 1, i, a, w => wpOp P l.toArray (NoPanic Q) i (fun a2 w2 => S w2 ∧ midK P l Q S k (i + 1) a2 w2) a w
theorem wpAnyT_midK {l : List Oper} {S : World → Prop} {n : Nat} : ∀ (k i g : Nat) (listed : Array Bool) (a : Act) (w : World), (l.drop i).length = g → Region.seqB .any l.toArray g i listed = true → i + k = n → k ≤ g → midK P l Q S k i a w → wpAnyT P .any l.toArray (NoPanic Q) S n g listed a w
 | 0, i, g, listed, a, w, hg, hseq, hn, _, h => by
  have hT := wpAnyT_of_seq (P := P) (md := .any) (S := S) (n := n) (Q' := NoPanic Q) (l.drop i) i listed a w (by omega) (fun j => by simp [List.getElem?_drop]) (by rw [hg]; exact hseq) h
  rwa [hg] at hT
 | k + 1, i, 0, listed, a, w, hg, hseq, hn, hk, h => by omega
 | k + 1, i, g + 1, listed, a, w, hg, hseq, hn, hk, h => by
  simp only [Region.seqB, Bool.and_eq_true, decide_eq_true_eq] at hseq
  refine ⟨fun h1 => (by rw [hseq.1] at h1; cases h1), fun j hj => ?_⟩
  rw [hseq.1] at hj
  have hji : j = i := by simpa using hj
  subst hji
  exact wpOp_mono (fun a2 w2 h2 => ⟨fun _ => h2.1, wpAnyT_midK k (j + 1) g _ a2 w2 (by simp at hg ⊢; omega) hseq.2 (by omega) (by omega) h2.2⟩) h
def midkB (ops : Array Oper) (m k : Nat) : Bool :=
 Region.noSelect ops && decide (m + k < ops.size) && Region.sinkB .any ops (m + k) && Region.chainB .any ops (m + k) && headB .any ops (ops.size - m) m 0 (Array.replicate ops.size false)
theorem wp_region_midk {id : Nat} {a : Act} {w : World} {l : List Oper} (m k : Nat) (S : World → Prop) (hm : P.follows .mixedOrders = true) (hB : midkB l.toArray m k = true)
  (hS : S { w with drawn := w.drawn + 1 })
  (h : wpHeld P l.toArray S (fun a' => midK P l Q S k m a' { w with drawn := w.drawn + 1 }) (l.take m) a) :
  (Code.region id l.toArray true).wp P Q a w := by
 simp only [midkB, Bool.and_eq_true, decide_eq_true_eq] at hB
 obtain ⟨⟨⟨⟨hsel, hn⟩, hs⟩, hc⟩, hhead⟩ := hB
 have hn' : m + k < l.length := by simpa using hn
 have htl : (l.take m).length = m := by simp; omega
 have inv0 : HeadInv .any l.toArray (m + k) (Array.replicate l.toArray.size false) :=
  ⟨by simp, fun j oj _ hl => (by rw [getD_replicate_false] at hl; cases hl), fun t _ ht => getD_in (by simpa using ht) (getD_replicate_false _ _)⟩
 refine wp_region_noPanic (wp_region_any hm (wpAny_of_T (S := S) (n := m + k) _ _ _ _ ?_))
 have H := wpAnyT_lex (P := P) (md := .any) (Q := NoPanic Q) (S := S) (n := m + k) (m := m) (g := l.toArray.size - m) (ops := l.toArray)
  (L := fun a' w' => midK P l Q S k m a' w')
  (fun c a d v w h => h) hsel hs hc hn (by omega) { w with drawn := w.drawn + 1 } hS (fun listed a' hseq hL =>
   wpAnyT_midK k m _ listed a' _ (by simp) hseq rfl (by simp; omega) hL)
  (l.take m) 0 _ a (fun j hj => by
   have hj' : j < m := by rw [htl] at hj; exact hj
   simp [hj']) (by simpa using htl) inv0 (by rw [htl]; exact hhead) h
 rw [htl, show m + (l.toArray.size - m) = l.toArray.size by simp; omega] at H
 exact H
end
end Go.Proofs.YtcncclglmgdinaaDoor.Mem
