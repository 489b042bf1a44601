/- Small laws on memory: a row of the call's own to which one element is appended; a slice that reads as a list. Blocks that stay as they are: behind a store elsewhere, a new block, an append to another row. A slice of whole numbers that reads as a list; ranges of characters, ascending and apart, and the range that has a character. -/
import Derived.Test.YtcncclglmgdinaaDoorProg
import Derived.WalkKit
import Derived.Below
import Derived.Laws.OwnMore
import Derived.Laws.Rows
import Derived.Deep.Draws
import Derived.Deep.AppendLies
import Derived.Lib.Hide
import Derived.OneCell
namespace Go.Proofs.YtcncclglmgdinaaDoor.Mem
open Go.RowKit
set_option linter.unusedVariables false
theorem below_drewN {B : Nat} {a w : World} (h : Below B a w) (n : Nat) : Below B a (w.drewN n) := ⟨h.os, h.tape, h.output, h.size, h.block⟩
/-- A new row of one cell: a slice literal of one element. -/
theorem own_lit1 (w : World) (e : TypeId) (u : Value) {base : Nat} (hb : base ≤ w.heap.size) : (w.alloc (.cells #[u] e)).ownsRow base e 1 (.slice (some ⟨w.heap.size, 0, none⟩) 1 1) 1 [u] :=
 World.ownsRow_lit w #[u] 1 hb (by simp [maxLen]) (by simp)
section
variable {P : Program} {w : World}
/-- 'append(v, u)', v a row of the call's own whose elements are one cell each: the element lies in a new block of its own. -/
theorem wp_app1 {ops : Array Oper} {rest : List Oper} {o : Oper} {a : Act} {Q : Exit → Act → World → Prop} (hgd : o.guard = none) (s x : Operand) (t : TypeId)
  (ho : o.op = .call { callee := .builtin .append, args := #[s, x], argTypes := #[t, t] })
  (base : Nat) (e : TypeId) (z : Value) (bytes : Nat) (ht : P.underlying t = some (.slice e)) (hi : (P.info? e).map (fun i => (i.zero, i.size, i.bytes)) = some (some z, 1, bytes))
  (hzs : z.cells.size = 1) (v : Value) (n : Nat) (xs : List Value) (hs : a.eval s = v) (hown : w.ownsRow base e 1 v n xs) (u : Value) (h1 : u.oneCell' = true)
  (hx : a.eval x = .slice (some ⟨w.heap.size, 0, none⟩) 1 1)
  (h63 : n + 1 ≤ maxLen) (hbytes : (n + 1) * bytes ≤ 140737488355328) (hbase : base ≤ w.heap.size)
  (h : ∀ v' w', w'.ownsRow base e 1 v' (n + 1) (xs ++ [u]) → (w.alloc (.cells #[u] e)).grownBy w' v.ownBlock → Below base w w' → wpList P ops Q rest (a.put o.dst v') w') :
  wpList P ops Q (o :: rest) a (w.alloc (.cells #[u] e)) := by
 obtain ⟨i0, hi0, hz0, hz1, hz2⟩ := info_parts hi
 refine wpList_append_own _ hgd s x t ho base e i0 z 1 bytes ht hi0 hz0 hz1 hz2 hzs (by omega) v n xs hs (hown.alloc _) ⟨w.heap.size, 0, none⟩ 1 1 [u] hx rfl ?_ (by simpa using h1) h63 hbytes (by simp; omega) ?_
 ·intro j u' hj
  cases j with
  | zero =>
   simp at hj
   subst hj
   have : (⟨w.heap.size, 0, none⟩ : Addr).add 0 = ⟨w.heap.size, 0, none⟩ := by simp [Addr.add]
   rw [this]
   simp
  | succ j => simp at hj
 ·intro v' w' ho' hg _
  refine h v' w' ho' hg ?_
  refine ((Below.refl base w).alloc hbase _).grown hg (by simp; omega) fun k hk => ?_
  exact (hown.lt k hk).1
end
end Go.Proofs.YtcncclglmgdinaaDoor.Mem
namespace Go.Proofs.YtcncclglmgdinaaDoor.Mem
open Go.RowKit
set_option linter.unusedVariables false
section
variable {w w' : World} {b : Nat} {o : Obj}
theorem blk_set_ne (h : w.heap[b]? = some o) {p : Addr} (hp : b ≠ p.block) (u : Value) : (w.setCell p u).heap[b]? = some o := by
 rw [Below.heap_setCell _ _ _ _ hp]; exact h
theorem blk_old (h : w.heap[b]? = some o) (x : Obj) : (w.alloc x).heap[b]? = some o := by
 rw [Below.heap_alloc _ _ _ (lt_of_block h)]; exact h
theorem blk_new (w : World) (x : Obj) : (w.alloc x).heap[w.heap.size]? = some x := by
 show (w.heap.push x)[w.heap.size]? = some x
 simp
theorem blk_grown {r : Option Nat} (h : w.heap[b]? = some o) (hg : w.grownBy w' r) (hr : some b ≠ r) : w'.heap[b]? = some o := by
 rw [hg.block b (lt_of_block h) hr]; exact h
theorem blk_below {B : Nat} (h : w.heap[b]? = some o) (hb : Below B w w') (hB : b < B) : w'.heap[b]? = some o := (hb.block b hB).trans h
/-- A row of one kind is none of the blocks of another kind. -/
theorem own_apart {base : Nat} {e t : TypeId} {v : Value} {n : Nat} {xs : List Value} {cs : Array Value} (h : w.ownsRow base e 1 v n xs) (hb : w.heap[b]? = some (.cells cs t (0, 0))) (ht : t ≠ e) : some b ≠ v.ownBlock := by
 rcases h.2 with ⟨rfl, _⟩ | ⟨g, cap, cur, rfl, _, hg, _⟩
 ·simp [Value.ownBlock]
 ·intro hh
  simp only [Value.ownBlock, Option.some.injEq] at hh
  subst hh
  rw [hb] at hg
  simp only [Option.some.injEq, Obj.cells.injEq] at hg
  exact ht hg.2.1
theorem own_apart2 {base base' : Nat} {e t : TypeId} {v v' : Value} {n n' : Nat} {xs xs' : List Value} (h : w.ownsRow base e 1 v n xs) (h' : w.ownsRow base' t 1 v' n' xs') (ht : t ≠ e) (k : Nat) (hk : v'.ownBlock = some k) : v.ownBlock ≠ some k := by
 rcases h'.2 with ⟨rfl, _⟩ | ⟨g, cap, cur, rfl, _, hg, _⟩
 ·simp [Value.ownBlock] at hk
 ·simp only [Value.ownBlock, Option.some.injEq] at hk
  subst hk
  exact (own_apart h hg ht).symm
end
end Go.Proofs.YtcncclglmgdinaaDoor.Mem
namespace Go.Proofs.YtcncclglmgdinaaDoor.Mem
open Go.RowKit
set_option linter.unusedVariables false
/-- The slice at A reads as these numbers of kind k, in a block below B. -/
def IntsAt (w : World) (B : Nat) (k : IntKind) (A : Option Addr) (zs : List Int) : Prop :=
 0 < zs.length → ∃ b o, A = some ⟨b, o, none⟩ ∧ b < B ∧ ∀ j, j < zs.length → w.cell? ⟨b, o + j, none⟩ = some (.int k (zs.getD j 0))
section
variable {w w' : World} {B B' : Nat} {k : IntKind} {A : Option Addr} {zs : List Int}
theorem IntsAt.keep (h : IntsAt w B k A zs) (hk : ∀ b o, b < B → w'.cell? ⟨b, o, none⟩ = w.cell? ⟨b, o, none⟩) : IntsAt w' B k A zs := fun hn => by
 obtain ⟨b, o, rfl, hb, hc⟩ := h hn
 exact ⟨b, o, rfl, hb, fun j hj => by rw [hk _ _ hb]; exact hc j hj⟩
theorem IntsAt.below (h : IntsAt w B k A zs) (hb : Below B' w w') (hB : B ≤ B') : IntsAt w' B k A zs :=
 h.keep fun b o hlt => hb.cell (p := ⟨b, o, none⟩) (by show b < B'; omega)
theorem IntsAt.more (h : IntsAt w B k A zs) (hB : B ≤ B') : IntsAt w B' k A zs := fun hn => by
 obtain ⟨b, o, rfl, hb, hc⟩ := h hn
 exact ⟨b, o, rfl, by omega, hc⟩
theorem IntsAt.drewN (h : IntsAt w B k A zs) (n : Nat) : IntsAt (w.drewN n) B k A zs := h
/-- Out of a row of the call's own. -/
theorem IntsAt.own {base e c n : Nat} (h : w.ownsRow base e 1 (.slice A n c) n (zs.map (Value.int k))) : IntsAt w w.heap.size k A zs := fun hn => by
 have hl : n = zs.length := by have := h.1; simp at this; omega
 subst hl
 obtain ⟨g, cap, hv, _, hlt⟩ := h.form hn
 have hA : A = some ⟨g, 0, none⟩ := by injection hv
 subst hA
 refine ⟨g, 0, rfl, hlt, fun j hj => ?_⟩
 have hc := h.cells (g := g) rfl j (.int k (zs.getD j 0)) (by simp [List.getD_eq_getElem?_getD, List.getElem?_eq_getElem hj])
 rwa [Addr.add_lit] at hc
end
/-- Ranges: pairs of characters, ascending, each behind the one ahead of it. -/
def clsF : Int → List Int → Bool
 | _, [] => true
 | _, [_] => false
 | last, a :: b :: l => decide (last < a) && decide (a ≤ b) && decide (b ≤ 1114111) && clsF b l
/-- The number of the range that has a character; -1 if none has it. -/
def posF (c : Int) : Int → List Int → Int
 | k, a :: b :: l => if a ≤ c ∧ c ≤ b then k else posF c (k + 1) l
 | _, _ => -1
theorem clsF_even : ∀ (l : List Int) (last : Int), clsF last l = true → l.length % 2 = 0
 | [], _, _ => rfl
 | [_], _, h => by simp [clsF] at h
 | a :: b :: l, last, h => by
  simp only [clsF, Bool.and_eq_true] at h
  have := clsF_even l b h.2
  simp; omega
theorem clsF_lt : ∀ (l : List Int) (last : Int), clsF last l = true → ∀ i, 2 * i < l.length → last < l.getD (2 * i) 0
 | [], _, _, i, h => by simp at h
 | [_], _, h, _, _ => by simp [clsF] at h
 | a :: b :: l, last, h, i, hi => by
  simp only [clsF, Bool.and_eq_true, decide_eq_true_eq] at h
  cases i with
  | zero => exact h.1.1.1
  | succ i =>
   have := clsF_lt l b h.2 i (by simp at hi; omega)
   rw [show 2 * (i + 1) = 2 * i + 1 + 1 by omega]
   simp only [List.getD_cons_succ]; omega
theorem clsF_le : ∀ (l : List Int) (last : Int), clsF last l = true → ∀ i, 2 * i + 1 < l.length → l.getD (2 * i) 0 ≤ l.getD (2 * i + 1) 0 ∧ l.getD (2 * i + 1) 0 ≤ 1114111
 | [], _, _, i, h => by simp at h
 | [_], _, h, _, _ => by simp [clsF] at h
 | a :: b :: l, last, h, i, hi => by
  simp only [clsF, Bool.and_eq_true, decide_eq_true_eq] at h
  cases i with
  | zero => exact ⟨h.1.1.2, h.1.2⟩
  | succ i =>
   have := clsF_le l b h.2 i (by simp at hi; omega)
   rw [show 2 * (i + 1) = 2 * i + 1 + 1 by omega]
   simpa only [List.getD_cons_succ] using this
theorem clsF_apart : ∀ (l : List Int) (last : Int), clsF last l = true → ∀ i j, i < j → 2 * j + 1 < l.length → l.getD (2 * i + 1) 0 < l.getD (2 * j) 0
 | [], _, _, i, j, _, h => by simp at h
 | [_], _, h, _, _, _, _ => by simp [clsF] at h
 | a :: b :: l, last, h, i, j, hij, hj => by
  simp only [clsF, Bool.and_eq_true, decide_eq_true_eq] at h
  obtain ⟨j, rfl⟩ : ∃ m, j = m + 1 := ⟨j - 1, by omega⟩
  rw [show 2 * (j + 1) = 2 * j + 1 + 1 by omega]
  cases i with
  | zero => exact clsF_lt l b h.2 j (by simp at hj; omega)
  | succ i =>
   have := clsF_apart l b h.2 i j (by omega) (by simp at hj; omega)
   rw [show 2 * (i + 1) = 2 * i + 1 + 1 by omega]
   simpa only [List.getD_cons_succ] using this
theorem posF_none (c : Int) : ∀ (l : List Int) (k : Int), (∀ i, 2 * i + 1 < l.length → ¬ (l.getD (2 * i) 0 ≤ c ∧ c ≤ l.getD (2 * i + 1) 0)) → posF c k l = -1
 | [], _, _ => rfl
 | [_], _, _ => rfl
 | a :: b :: l, k, h => by
  have h0 := h 0 (by simp)
  simp only [Nat.mul_zero, Nat.zero_add, List.getD_cons_zero, List.getD_cons_succ] at h0
  simp only [posF, if_neg h0]
  refine posF_none c l (k + 1) fun i hi => ?_
  have := h (i + 1) (by simp; omega)
  rw [show 2 * (i + 1) = 2 * i + 1 + 1 by omega] at this
  simpa only [List.getD_cons_succ] using this
theorem posF_some (c : Int) : ∀ (l : List Int) (last k : Int) (i : Nat), clsF last l = true → 2 * i + 1 < l.length → l.getD (2 * i) 0 ≤ c → c ≤ l.getD (2 * i + 1) 0 → posF c k l = k + i
 | [], _, _, _, _, h, _, _ => by simp at h
 | [_], _, _, _, h, _, _, _ => by simp [clsF] at h
 | a :: b :: l, last, k, i, hs, hi, h1, h2 => by
  cases i with
  | zero => simp at h1 h2; simp [posF, h1, h2]
  | succ i =>
   have hap := clsF_apart (a :: b :: l) last hs 0 (i + 1) (by omega) hi
   simp only [Nat.mul_zero, Nat.zero_add, List.getD_cons_zero, List.getD_cons_succ] at hap
   have hn : ¬ (a ≤ c ∧ c ≤ b) := by omega
   simp only [clsF, Bool.and_eq_true, decide_eq_true_eq] at hs
   rw [show 2 * (i + 1) = 2 * i + 1 + 1 by omega] at h1 h2
   simp only [List.getD_cons_succ] at h1 h2
   simp only [posF, if_neg hn]
   rw [posF_some c l b (k + 1) i hs.2 (by simp at hi; omega) h1 h2]
   push_cast; omega
end Go.Proofs.YtcncclglmgdinaaDoor.Mem
