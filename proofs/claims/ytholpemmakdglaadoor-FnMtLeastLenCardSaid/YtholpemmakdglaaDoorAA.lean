/- Small laws on memory: a row of the call's own to which one element is appended; a slice that reads as a list. Blocks that stay as they are: behind a store elsewhere, a new block, an append to another row. Worlds of which one block may have been written and others made: small laws. A statement that leaves its order open: its reads first, in the text's order, then one operation that may make memory ahead of some of the reads, then the others, one behind the other. As XRegT's law, the operation in the middle being any (a call among them). As XRegU's law: k operations in the middle, one behind the other, ahead of which or behind which some reads may come. -/
import Derived.Test.YtholpemmakdglaaDoorProg
import Derived.WalkKit
import Derived.Below
import Derived.Laws.OwnMore
import Derived.Laws.Rows
import Derived.Deep.Draws
import Derived.Deep.AppendLies
import Derived.Lib.Hide
import Derived.OneCell
import Derived.OwnWalk
import Derived.Deep.QuietTactic
import Derived.OrdersHeld
import Derived.StillTail
import Derived.Deep.RegionHeld3
namespace Go.Proofs.YtholpemmakdglaaDoor.Mem
open Go.RowKit
set_option linter.unusedVariables false
theorem below_drewN {B : Nat} {a w : World} (h : Below B a w) (n : Nat) : Below B a (w.drewN n) := ⟨h.os, h.tape, h.output, h.size, h.block⟩
/-- A new row of one cell: a slice literal of one element. -/
theorem own_lit1 (w : World) (e : TypeId) (u : Value) {base : Nat} (hb : base ≤ w.heap.size) : (w.alloc (.cells #[u] e)).ownsRow base e 1 (.slice (some ⟨w.heap.size, 0, none⟩) 1 1) 1 [u] :=
  World.ownsRow_lit w #[u] 1 hb (by simp [maxLen]) (by simp)
section
variable {P : Program} {w : World}
/-- 'append(v, u)', v a row of the call's own whose elements are one cell each: the element lies in a new block of its own. -/
theorem wp_app1 {ops : Array Oper} {rest : List Oper} {o : Oper} {a : Act} {Q : Exit → Act → World → Prop} (hgd : o.guard = none) (s x : Operand) (t : TypeId)
    (ho : o.op = .call { callee := .builtin .append, args := #[s, x], argTypes := #[t, t] })
    (base : Nat) (e : TypeId) (z : Value) (bytes : Nat) (ht : P.underlying t = some (.slice e)) (hi : (P.info? e).map (fun i => (i.zero, i.size, i.bytes)) = some (some z, 1, bytes))
    (hzs : z.cells.size = 1) (v : Value) (n : Nat) (xs : List Value) (hs : a.eval s = v) (hown : w.ownsRow base e 1 v n xs) (u : Value) (h1 : u.oneCell' = true)
    (hx : a.eval x = .slice (some ⟨w.heap.size, 0, none⟩) 1 1)
    (h63 : n + 1 ≤ maxLen) (hbytes : (n + 1) * bytes ≤ 140737488355328) (hbase : base ≤ w.heap.size)
    (h : ∀ v' w', w'.ownsRow base e 1 v' (n + 1) (xs ++ [u]) → (w.alloc (.cells #[u] e)).grownBy w' v.ownBlock → Below base w w' → wpList P ops Q rest (a.put o.dst v') w') :
    wpList P ops Q (o :: rest) a (w.alloc (.cells #[u] e)) := by
  obtain ⟨i0, hi0, hz0, hz1, hz2⟩ := info_parts hi
  refine wpList_append_own _ hgd s x t ho base e i0 z 1 bytes ht hi0 hz0 hz1 hz2 hzs (by omega) v n xs hs (hown.alloc _) ⟨w.heap.size, 0, none⟩ 1 1 [u] hx rfl ?_ (by simpa using h1) h63 hbytes (by simp; omega) ?_
  · intro j u' hj
    cases j with
    | zero =>
      simp at hj
      subst hj
      have : (⟨w.heap.size, 0, none⟩ : Addr).add 0 = ⟨w.heap.size, 0, none⟩ := by simp [Addr.add]
      rw [this]
      simp
    | succ j => simp at hj
  · intro v' w' ho' hg _
    refine h v' w' ho' hg ?_
    refine ((Below.refl base w).alloc hbase _).grown hg (by simp; omega) fun k hk => ?_
    exact (hown.lt k hk).1
end
end Go.Proofs.YtholpemmakdglaaDoor.Mem
namespace Go.Proofs.YtholpemmakdglaaDoor.Mem
open Go.RowKit
set_option linter.unusedVariables false
section
variable {w w' : World} {b : Nat} {o : Obj}
theorem blk_set_ne (h : w.heap[b]? = some o) {p : Addr} (hp : b ≠ p.block) (u : Value) : (w.setCell p u).heap[b]? = some o := by
  rw [Below.heap_setCell _ _ _ _ hp]; exact h
theorem blk_old (h : w.heap[b]? = some o) (x : Obj) : (w.alloc x).heap[b]? = some o := by
  rw [Below.heap_alloc _ _ _ (lt_of_block h)]; exact h
theorem blk_new (w : World) (x : Obj) : (w.alloc x).heap[w.heap.size]? = some x := by
  show (w.heap.push x)[w.heap.size]? = some x
  simp
theorem blk_grown {r : Option Nat} (h : w.heap[b]? = some o) (hg : w.grownBy w' r) (hr : some b ≠ r) : w'.heap[b]? = some o := by
  rw [hg.block b (lt_of_block h) hr]; exact h
theorem blk_below {B : Nat} (h : w.heap[b]? = some o) (hb : Below B w w') (hB : b < B) : w'.heap[b]? = some o := (hb.block b hB).trans h
/-- A row of one kind is none of the blocks of another kind. -/
theorem own_apart {base : Nat} {e t : TypeId} {v : Value} {n : Nat} {xs : List Value} {cs : Array Value} (h : w.ownsRow base e 1 v n xs) (hb : w.heap[b]? = some (.cells cs t (0, 0))) (ht : t ≠ e) : some b ≠ v.ownBlock := by
  rcases h.2 with ⟨rfl, _⟩ | ⟨g, cap, cur, rfl, _, hg, _⟩
  · simp [Value.ownBlock]
  · intro hh
    simp only [Value.ownBlock, Option.some.injEq] at hh
    subst hh
    rw [hb] at hg
    simp only [Option.some.injEq, Obj.cells.injEq] at hg
    exact ht hg.2.1
theorem own_apart2 {base base' : Nat} {e t : TypeId} {v v' : Value} {n n' : Nat} {xs xs' : List Value} (h : w.ownsRow base e 1 v n xs) (h' : w.ownsRow base' t 1 v' n' xs') (ht : t ≠ e) (k : Nat) (hk : v'.ownBlock = some k) : v.ownBlock ≠ some k := by
  rcases h'.2 with ⟨rfl, _⟩ | ⟨g, cap, cur, rfl, _, hg, _⟩
  · simp [Value.ownBlock] at hk
  · simp only [Value.ownBlock, Option.some.injEq] at hk
    subst hk
    exact (own_apart h hg ht).symm
end
end Go.Proofs.YtholpemmakdglaaDoor.Mem
namespace Go.Proofs.YtholpemmakdglaaDoor.Gb
open Go.RowKit
set_option linter.unusedVariables false
theorem trans {a b c : World} {r : Option Nat} (h : a.grownBy b r) (k : b.grownBy c r) : a.grownBy c r :=
  ⟨k.os.trans h.os, k.tape.trans h.tape, k.output.trans h.output, Nat.le_trans h.size k.size, fun i hi hr => (k.block i (Nat.lt_of_lt_of_le hi h.size) hr).trans (h.block i hi hr)⟩
theorem drewN (w : World) (n : Nat) (r : Option Nat) : w.grownBy (w.drewN n) r := ⟨rfl, rfl, rfl, Nat.le_refl _, fun _ _ _ => rfl⟩
theorem below {w w' : World} (h : Below w.heap.size w w') (r : Option Nat) : w.grownBy w' r := ⟨h.os, h.tape, h.output, h.size, fun k hk _ => h.block k hk⟩
theorem set (w : World) (b o : Nat) (v : Value) : w.grownBy (w.setCell ⟨b, o, none⟩ v) (some b) :=
  ⟨rfl, rfl, rfl, by simp [World.setCell], fun k hk hr => Below.heap_setCell _ _ _ _ (fun e => hr (by rw [e]))⟩
theorem cell {w w' : World} {r : Option Nat} (hg : w.grownBy w' r) {b o : Nat} {v : Value} (hc : w.cell? ⟨b, o, none⟩ = some v) (hr : some b ≠ r) : w'.cell? ⟨b, o, none⟩ = some v :=
  (World.cell?_of_block (w := w) (hg.block b (World.block_lt_of_cell? w _ hc) hr)).trans hc
theorem frozen {w w' : World} {r : Option Nat} (hg : w.grownBy w' r) {b o : Nat} (hb : b < w.heap.size) (hr : some b ≠ r) : w'.frozen? ⟨b, o, none⟩ = w.frozen? ⟨b, o, none⟩ := World.frozen?_of_block (w := w) (hg.block b hb hr)
theorem cellB {w w' : World} (hg : Below w.heap.size w w') {b o : Nat} {v : Value} (hc : w.cell? ⟨b, o, none⟩ = some v) : w'.cell? ⟨b, o, none⟩ = some v :=
  (World.cell?_of_block (w := w) (hg.block b (World.block_lt_of_cell? w _ hc))).trans hc
theorem frozenB {w w' : World} (hg : Below w.heap.size w w') {b o : Nat} (hb : b < w.heap.size) : w'.frozen? ⟨b, o, none⟩ = w.frozen? ⟨b, o, none⟩ := World.frozen?_of_block (w := w) (hg.block b hb)
theorem lt {w : World} {b o : Nat} {v : Value} (hc : w.cell? ⟨b, o, none⟩ = some v) : b < w.heap.size := World.block_lt_of_cell? w _ hc
theorem toBelow {B : Nat} {a w w' : World} {q : Nat} (h : Below B a w) (hg : w.grownBy w' (some q)) (hB : B ≤ w.heap.size) (hq : B ≤ q) : Below B a w' := h.grown hg hB fun k hk => by injection hk with hk; omega
theorem dn {B : Nat} {w w' : World} (h : Below B w w') (n : Nat) : Below B w (w'.drewN n) := by
  induction n with
  | zero => exact h
  | succ n ih => exact ih.drew
end Go.Proofs.YtholpemmakdglaaDoor.Gb
namespace Go.Proofs.YtholpemmakdglaaDoor.Mem
open Go.RowKit
set_option linter.unusedVariables false
section
variable {P : Program} {ops : Array Oper} {Q : Exit → Act → World → Prop} {md : Region.Mode} {S : World → Prop}
/-- Whatever order is picked from here on, and S holds behind each operation ahead of number n. -/
def wpAnyT (P : Program) (md : Region.Mode) (ops : Array Oper) (Q : Exit → Act → World → Prop) (S : World → Prop) (n : Nat) : Nat → Array Bool → Act → World → Prop
  | 0, listed, a, w => Region.ready md ops listed = [] ∧ Q .normal a w
  | f + 1, listed, a, w =>
    (Region.ready md ops listed = [] → Q .normal a w) ∧
    ∀ i ∈ Region.ready md ops listed, wpOp P ops Q i (fun a' w' => (i < n → S w') ∧ wpAnyT P md ops Q S n f (listed.setIfInBounds i true) a' w') a w
theorem wpAny_of_T {n : Nat} : ∀ (f : Nat) (listed : Array Bool) (a : Act) (w : World), wpAnyT P md ops Q S n f listed a w → wpAny P md ops Q f listed a w
  | 0, _, _, _, h => h
  | f + 1, _, _, _, h => ⟨h.1, fun i hi => wpOp_mono (fun a' w' h' => wpAny_of_T f _ a' w' h'.2) (h.2 i hi)⟩
theorem wpAnyT_first {n i : Nat} {oi : Oper} {v : Value} (hi : ops[i]? = some oi) (hsel : ∀ (j : Nat) (o : Oper) cs b, ops[j]? = some o → o.op ≠ .select cs b)
    (hQ : ∀ c a w, Q (.panic c) (a.put oi.dst v) w → Q (.panic c) a w) (hs : Region.sinkB md ops n = true) (hc : Region.chainB md ops n = true) (hn : n < ops.size) (hin : i < n) :
    ∀ (f : Nat) (listed : Array Bool) (a : Act) (w : World), HeadInv md ops n listed →
      (∀ j oj, ops[j]? = some oj → j ≠ i → listed.getD j true = false → (∀ e ∈ oj.after, Region.binds md e = true → e.on ≠ i) → oi.apart ops oj = true) →
      i ∈ Region.ready md ops listed → YieldsIf P ops S oi v a → S w →
      wpAnyT P md ops Q S n f (listed.setIfInBounds i true) (a.put oi.dst v) w → wpAnyT P md ops Q S n (f + 1) listed a w := by
  intro f
  induction f with
  | zero =>
    intro listed a w inv _ hr hy hS H
    refine ⟨fun h => (by rw [h] at hr; cases hr), fun j hj => ?_⟩
    by_cases hji : j = i
    · subst hji; exact hy.wpOp hi hS ⟨fun _ => hS, H⟩
    · have := ready_mono hj hji
      rw [H.1] at this
      cases this
  | succ f ih =>
    intro listed a w inv hfree hr hy hS H
    have hun := (mem_ready.1 hr).1
    refine ⟨fun h => (by rw [h] at hr; cases hr), fun j hj => ?_⟩
    have hjn : j < n := by
      rcases Nat.lt_or_ge j n with h | h
      · exact h
      · exact absurd hj (tail_waits hs hc hn inv _ i rfl hin hun j h)
    by_cases hji : j = i
    · subst hji; exact hy.wpOp hi hS ⟨fun _ => hS, H⟩
    · have h1 := H.2 j (ready_mono hj hji)
      obtain ⟨hjun, oj, hoj, hall⟩ := mem_ready.1 hj
      have hnot : ∀ e ∈ oj.after, Region.binds md e = true → e.on ≠ i := fun e he hb heq => by
        have h1 := hall e he hb
        rw [heq, getD_both hun] at h1
        cases h1
      have h2 := wpOp_putIf hoj (hfree j oj hoj hji hjun hnot) (fun cs b => hsel i oi cs b hi) (fun cs b => hsel j oj cs b hoj) hQ hy h1
      have hfree' : ∀ k ok, ops[k]? = some ok → k ≠ i → (listed.setIfInBounds j true).getD k true = false →
          (∀ e ∈ ok.after, Region.binds md e = true → e.on ≠ i) → oi.apart ops ok = true := fun k ok hk hki hku hno => by
        refine hfree k ok hk hki ?_ hno
        by_cases hjk : j = k
        · subst hjk; exact hjun
        · rw [getD_set_ne true hjk] at hku; exact hku
      refine wpOp_mono (fun a' w' h3 => ⟨fun _ => h3.2.1 hjn, ih (listed.setIfInBounds j true) a' w' (inv.set hj hjn) hfree' (ready_mono hr (Ne.symm hji)) h3.1 (h3.2.1 hjn) ?_⟩) h2
      rw [Array.setIfInBounds_comm _ _ hji]
      exact h3.2.2
/-- The reads in the text's order, each of them yielding in every world that meets S. -/
def wpHeld (P : Program) (ops : Array Oper) (S : World → Prop) (L : Act → Prop) : List Oper → Act → Prop
  | [], a => L a
  | o :: l, a => ∃ v, YieldsIf P ops S o v a ∧ wpHeld P ops S L l (a.put o.dst v)
theorem wpHeld_nil {L : Act → Prop} {a : Act} (h : L a) : wpHeld P ops S L [] a := h
theorem wpHeld_step {L : Act → Prop} {o : Oper} {l : List Oper} {a : Act} {v : Value} (hg : Region.wanted o (yielded ops a.tmps) = true) (hv : ∀ w, S w → (execOp a.eval o).run P w = .ok (.value v) w) (h : wpHeld P ops S L l (a.put o.dst v)) : wpHeld P ops S L (o :: l) a :=
  ⟨v, Or.inl ⟨hg, hv⟩, h⟩
/-- The head's operations may come up in the text's order; then number n alone, then the others, one behind the other. -/
def headB (md : Region.Mode) (ops : Array Oper) (g : Nat) : Nat → Nat → Array Bool → Bool
  | 0, k, listed => Region.seqB md ops g k listed
  | f + 1, k, listed => (Region.ready md ops listed).contains k && Region.free md ops listed k && headB md ops g f (k + 1) (listed.setIfInBounds k true)
theorem wpAnyT_lex {n m g : Nat} {L : Act → World → Prop} (hQ : ∀ c (a : Act) d v w, Q (.panic c) (a.put d v) w → Q (.panic c) a w) (hsel : Region.noSelect ops = true) (hs : Region.sinkB md ops n = true) (hc : Region.chainB md ops n = true) (hn : n < ops.size) (hmn : m ≤ n) (w : World) (hS : S w)
    (hend : ∀ listed a, Region.seqB md ops g m listed = true → L a w → wpAnyT P md ops Q S n g listed a w) :
    ∀ (l : List Oper) (k : Nat) (listed : Array Bool) (a : Act), (∀ j, j < l.length → l[j]? = ops[k + j]?) → k + l.length = m → HeadInv md ops n listed →
    headB md ops g l.length k listed = true → wpHeld P ops S (fun a' => L a' w) l a → wpAnyT P md ops Q S n (l.length + g) listed a w
  | [], k, listed, a, _, hk, _, hB, h => by
    have : k = m := by simpa using hk
    subst this
    rw [List.length_nil, Nat.zero_add]
    exact hend _ _ (by simpa [headB] using hB) h
  | o :: l, k, listed, a, hl, hk, inv, hB, h => by
    have h0 : ops[k]? = some o := by simpa using (hl 0 (by simp)).symm
    simp only [List.length_cons, headB, Bool.and_eq_true] at hB
    obtain ⟨⟨hr, hf⟩, hB'⟩ := hB
    have hkn : k < n := by simp only [List.length_cons] at hk; omega
    have hr' : k ∈ Region.ready md ops listed := by simpa using hr
    obtain ⟨v, hy, hK⟩ := h
    rw [show (o :: l).length + g = (l.length + g) + 1 by simp; omega]
    exact wpAnyT_first h0 (Region.noSelect_spec hsel) (fun c a w => hQ c a _ _ w) hs hc hn hkn (l.length + g) listed a w inv (Region.free_spec h0 hf) hr' hy hS
      (wpAnyT_lex hQ hsel hs hc hn hmn w hS hend l (k + 1) _ _ (fun j hj => by have := hl (j + 1) (by simp; omega); simpa [Nat.add_assoc, Nat.add_comm 1 j] using this) (by simp only [List.length_cons] at hk; omega) (inv.set hr' hkn) hB' hK)
theorem wpAnyT_of_seq {n : Nat} {Q' : Exit → Act → World → Prop} : ∀ (l : List Oper) (k : Nat) (listed : Array Bool) (a : Act) (w : World), n ≤ k → (∀ j, l[j]? = ops[k + j]?) →
    Region.seqB md ops l.length k listed = true → wpList P ops Q' l a w → wpAnyT P md ops Q' S n l.length listed a w
  | [], _, _, _, _, _, _, hB, h => ⟨by simpa [Region.seqB] using hB, h⟩
  | o :: l, k, listed, a, w, hnk, hl, hB, h => by
    have h0 : ops[k]? = some o := by simpa using (hl 0).symm
    simp only [List.length_cons, Region.seqB, Bool.and_eq_true, decide_eq_true_eq] at hB
    refine ⟨fun h1 => (by rw [hB.1] at h1; cases h1), fun i hi => ?_⟩
    rw [hB.1] at hi
    have hik : i = k := by simpa using hi
    subst hik
    have hw : wpOp P ops Q' i (wpList P ops Q' l) a w := by unfold wpOp; simp only [h0]; exact h
    exact wpOp_mono (fun a' w' h' => ⟨fun hlt => absurd hlt (by omega), wpAnyT_of_seq l (i + 1) _ a' w' (by omega) (fun j => by have := hl (j + 1); simpa [Nat.add_assoc, Nat.add_comm 1 j] using this) hB.2 h'⟩) hw
/-- The shape that the law is for, as a Bool. -/
def midB (ops : Array Oper) (m : Nat) : Bool :=
  Region.noSelect ops && decide (m + 1 < ops.size) && Region.sinkB .any ops (m + 1) && Region.chainB .any ops (m + 1) && headB .any ops (ops.size - m) m 0 (Array.replicate ops.size false)
theorem wp_region_mid {id : Nat} {a : Act} {w : World} {l : List Oper} (m : Nat) (S : World → Prop) (hm : P.follows .mixedOrders = true) (hB : midB l.toArray m = true)
    (hS : S { w with drawn := w.drawn + 1 })
    (h : wpHeld P l.toArray S (fun a' => ∃ o v w1, l[m]? = some o ∧ Region.wanted o (yielded l.toArray a'.tmps) = true ∧ (execOp a'.eval o).run P { w with drawn := w.drawn + 1 } = .ok (.value v) w1 ∧ S w1 ∧ wpList P l.toArray (NoPanic Q) (l.drop (m + 1)) (a'.put o.dst v) w1) (l.take m) a) :
    (Code.region id l.toArray true).wp P Q a w := by
  simp only [midB, Bool.and_eq_true, decide_eq_true_eq] at hB
  obtain ⟨⟨⟨⟨hsel, hn⟩, hs⟩, hc⟩, hhead⟩ := hB
  have hn' : m + 1 < l.length := by simpa using hn
  have htl : (l.take m).length = m := by simp; omega
  have inv0 : HeadInv .any l.toArray (m + 1) (Array.replicate l.toArray.size false) :=
    ⟨by simp, fun j oj _ hl => (by rw [getD_replicate_false] at hl; cases hl), fun t _ ht => getD_in (by simpa using ht) (getD_replicate_false _ _)⟩
  refine wp_region_noPanic (wp_region_any hm (wpAny_of_T (S := S) (n := m + 1) _ _ _ _ ?_))
  have H := wpAnyT_lex (P := P) (md := .any) (Q := NoPanic Q) (S := S) (n := m + 1) (m := m) (g := l.toArray.size - m) (ops := l.toArray)
    (L := fun a' w' => ∃ o v w1, l[m]? = some o ∧ Region.wanted o (yielded l.toArray a'.tmps) = true ∧ (execOp a'.eval o).run P w' = .ok (.value v) w1 ∧ S w1 ∧ wpList P l.toArray (NoPanic Q) (l.drop (m + 1)) (a'.put o.dst v) w1)
    (fun c a d v w h => h) hsel hs hc hn (by omega) { w with drawn := w.drawn + 1 } hS (fun listed a' hseq hL => by
      obtain ⟨o, v, w1, ho, hw, hr, hS1, hrest⟩ := hL
      obtain ⟨g, hg⟩ : ∃ g, l.toArray.size - m = g + 1 := ⟨l.toArray.size - m - 1, by omega⟩
      rw [hg] at hseq ⊢
      simp only [Region.seqB, Bool.and_eq_true, decide_eq_true_eq] at hseq
      refine ⟨fun h1 => (by rw [hseq.1] at h1; cases h1), fun i hi => ?_⟩
      rw [hseq.1] at hi
      have him : i = m := by simpa using hi
      subst him
      have hgl : (l.drop (i + 1)).length = g := by simp at hg ⊢; omega
      have hT := wpAnyT_of_seq (P := P) (md := .any) (S := S) (n := i + 1) (Q' := NoPanic Q) (l.drop (i + 1)) (i + 1) (listed.setIfInBounds i true) (a'.put o.dst v) w1 (Nat.le_refl _) (fun j => by simp [List.getElem?_drop]) (by rw [hgl]; exact hseq.2) hrest
      rw [hgl] at hT
      have hoo : l.toArray[i]? = some o := by simpa using ho
      unfold wpOp
      simp only [hoo, hw, if_true]
      refine Or.inl ?_
      simp only [Oper.wp, hr, Oper.upon]
      exact ⟨fun _ => hS1, hT⟩)
    (l.take m) 0 _ a (fun j hj => by
      have hj' : j < m := by rw [htl] at hj; exact hj
      simp [hj']) (by simpa using htl) inv0 (by rw [htl]; exact hhead) h
  rw [htl, show m + (l.toArray.size - m) = l.toArray.size by omega] at H
  exact H
end
end Go.Proofs.YtholpemmakdglaaDoor.Mem
namespace Go.Proofs.YtholpemmakdglaaDoor.Mem
open Go.RowKit
set_option linter.unusedVariables false
section
variable {P : Program} {Q : Exit → Act → World → Prop}
theorem wp_region_mid2 {id : Nat} {a : Act} {w : World} {l : List Oper} (m : Nat) (S : World → Prop) (hm : P.follows .mixedOrders = true) (hB : midB l.toArray m = true)
    (hS : S { w with drawn := w.drawn + 1 })
    (h : wpHeld P l.toArray S (fun a' => wpOp P l.toArray (NoPanic Q) m (fun a2 w2 => S w2 ∧ wpList P l.toArray (NoPanic Q) (l.drop (m + 1)) a2 w2) a' { w with drawn := w.drawn + 1 }) (l.take m) a) :
    (Code.region id l.toArray true).wp P Q a w := by
  simp only [midB, Bool.and_eq_true, decide_eq_true_eq] at hB
  obtain ⟨⟨⟨⟨hsel, hn⟩, hs⟩, hc⟩, hhead⟩ := hB
  have hn' : m + 1 < l.length := by simpa using hn
  have htl : (l.take m).length = m := by simp; omega
  have inv0 : HeadInv .any l.toArray (m + 1) (Array.replicate l.toArray.size false) :=
    ⟨by simp, fun j oj _ hl => (by rw [getD_replicate_false] at hl; cases hl), fun t _ ht => getD_in (by simpa using ht) (getD_replicate_false _ _)⟩
  refine wp_region_noPanic (wp_region_any hm (wpAny_of_T (S := S) (n := m + 1) _ _ _ _ ?_))
  have H := wpAnyT_lex (P := P) (md := .any) (Q := NoPanic Q) (S := S) (n := m + 1) (m := m) (g := l.toArray.size - m) (ops := l.toArray)
    (L := fun a' w' => wpOp P l.toArray (NoPanic Q) m (fun a2 w2 => S w2 ∧ wpList P l.toArray (NoPanic Q) (l.drop (m + 1)) a2 w2) a' w')
    (fun c a d v w h => h) hsel hs hc hn (by omega) { w with drawn := w.drawn + 1 } hS (fun listed a' hseq hL => by
      obtain ⟨g, hg⟩ : ∃ g, l.toArray.size - m = g + 1 := ⟨l.toArray.size - m - 1, by omega⟩
      rw [hg] at hseq ⊢
      simp only [Region.seqB, Bool.and_eq_true, decide_eq_true_eq] at hseq
      refine ⟨fun h1 => (by rw [hseq.1] at h1; cases h1), fun i hi => ?_⟩
      rw [hseq.1] at hi
      have him : i = m := by simpa using hi
      subst him
      have hgl : (l.drop (i + 1)).length = g := by simp at hg ⊢; omega
      refine wpOp_mono (fun a2 w2 h2 => ⟨fun _ => h2.1, ?_⟩) hL
      have hT := wpAnyT_of_seq (P := P) (md := .any) (S := S) (n := i + 1) (Q' := NoPanic Q) (l.drop (i + 1)) (i + 1) (listed.setIfInBounds i true) a2 w2 (Nat.le_refl _) (fun j => by simp [List.getElem?_drop]) (by rw [hgl]; exact hseq.2) h2.2
      rwa [hgl] at hT)
    (l.take m) 0 _ a (fun j hj => by
      have hj' : j < m := by rw [htl] at hj; exact hj
      simp [hj']) (by simpa using htl) inv0 (by rw [htl]; exact hhead) h
  rw [htl, show m + (l.toArray.size - m) = l.toArray.size by simp; omega] at H
  exact H
end
end Go.Proofs.YtholpemmakdglaaDoor.Mem
namespace Go.Proofs.YtholpemmakdglaaDoor.Mem
open Go.RowKit
set_option linter.unusedVariables false
section
variable {P : Program} {Q : Exit → Act → World → Prop}
def midK (P : Program) (l : List Oper) (Q : Exit → Act → World → Prop) (S : World → Prop) : Nat → Nat → Act → World → Prop
  | 0, i, a, w => wpList P l.toArray (NoPanic Q) (l.drop i) a w
  | k + 1, i, a, w => wpOp P l.toArray (NoPanic Q) i (fun a2 w2 => S w2 ∧ midK P l Q S k (i + 1) a2 w2) a w
theorem wpAnyT_midK {l : List Oper} {S : World → Prop} {n : Nat} : ∀ (k i g : Nat) (listed : Array Bool) (a : Act) (w : World), (l.drop i).length = g → Region.seqB .any l.toArray g i listed = true → i + k = n → k ≤ g → midK P l Q S k i a w → wpAnyT P .any l.toArray (NoPanic Q) S n g listed a w
  | 0, i, g, listed, a, w, hg, hseq, hn, _, h => by
    have hT := wpAnyT_of_seq (P := P) (md := .any) (S := S) (n := n) (Q' := NoPanic Q) (l.drop i) i listed a w (by omega) (fun j => by simp [List.getElem?_drop]) (by rw [hg]; exact hseq) h
    rwa [hg] at hT
  | k + 1, i, 0, listed, a, w, hg, hseq, hn, hk, h => by omega
  | k + 1, i, g + 1, listed, a, w, hg, hseq, hn, hk, h => by
    simp only [Region.seqB, Bool.and_eq_true, decide_eq_true_eq] at hseq
    refine ⟨fun h1 => (by rw [hseq.1] at h1; cases h1), fun j hj => ?_⟩
    rw [hseq.1] at hj
    have hji : j = i := by simpa using hj
    subst hji
    exact wpOp_mono (fun a2 w2 h2 => ⟨fun _ => h2.1, wpAnyT_midK k (j + 1) g _ a2 w2 (by simp at hg ⊢; omega) hseq.2 (by omega) (by omega) h2.2⟩) h
def midkB (ops : Array Oper) (m k : Nat) : Bool :=
  Region.noSelect ops && decide (m + k < ops.size) && Region.sinkB .any ops (m + k) && Region.chainB .any ops (m + k) && headB .any ops (ops.size - m) m 0 (Array.replicate ops.size false)
theorem wp_region_midk {id : Nat} {a : Act} {w : World} {l : List Oper} (m k : Nat) (S : World → Prop) (hm : P.follows .mixedOrders = true) (hB : midkB l.toArray m k = true)
    (hS : S { w with drawn := w.drawn + 1 })
    (h : wpHeld P l.toArray S (fun a' => midK P l Q S k m a' { w with drawn := w.drawn + 1 }) (l.take m) a) :
    (Code.region id l.toArray true).wp P Q a w := by
  simp only [midkB, Bool.and_eq_true, decide_eq_true_eq] at hB
  obtain ⟨⟨⟨⟨hsel, hn⟩, hs⟩, hc⟩, hhead⟩ := hB
  have hn' : m + k < l.length := by simpa using hn
  have htl : (l.take m).length = m := by simp; omega
  have inv0 : HeadInv .any l.toArray (m + k) (Array.replicate l.toArray.size false) :=
    ⟨by simp, fun j oj _ hl => (by rw [getD_replicate_false] at hl; cases hl), fun t _ ht => getD_in (by simpa using ht) (getD_replicate_false _ _)⟩
  refine wp_region_noPanic (wp_region_any hm (wpAny_of_T (S := S) (n := m + k) _ _ _ _ ?_))
  have H := wpAnyT_lex (P := P) (md := .any) (Q := NoPanic Q) (S := S) (n := m + k) (m := m) (g := l.toArray.size - m) (ops := l.toArray)
    (L := fun a' w' => midK P l Q S k m a' w')
    (fun c a d v w h => h) hsel hs hc hn (by omega) { w with drawn := w.drawn + 1 } hS (fun listed a' hseq hL =>
      wpAnyT_midK k m _ listed a' _ (by simp) hseq rfl (by simp; omega) hL)
    (l.take m) 0 _ a (fun j hj => by
      have hj' : j < m := by rw [htl] at hj; exact hj
      simp [hj']) (by simpa using htl) inv0 (by rw [htl]; exact hhead) h
  rw [htl, show m + (l.toArray.size - m) = l.toArray.size by simp; omega] at H
  exact H
end
end Go.Proofs.YtholpemmakdglaaDoor.Mem
