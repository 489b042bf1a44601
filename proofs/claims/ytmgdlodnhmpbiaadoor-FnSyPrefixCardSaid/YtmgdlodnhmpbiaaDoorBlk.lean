/- Blocks that stay as they are: behind a store elsewhere, a new block, an append to another row. -/
import Derived.Test.YtmgdlodnhmpbiaaDoorMem
import Derived.OneCell
namespace Go.Proofs.YtmgdlodnhmpbiaaDoor.Mem
open Go.RowKit
set_option linter.unusedVariables false
section
variable {w w' : World} {b : Nat} {o : Obj}
theorem blk_set_ne (h : w.heap[b]? = some o) {p : Addr} (hp : b ≠ p.block) (u : Value) : (w.setCell p u).heap[b]? = some o := by
  rw [Below.heap_setCell _ _ _ _ hp]; exact h
theorem blk_old (h : w.heap[b]? = some o) (x : Obj) : (w.alloc x).heap[b]? = some o := by
  rw [Below.heap_alloc _ _ _ (lt_of_block h)]; exact h
theorem blk_new (w : World) (x : Obj) : (w.alloc x).heap[w.heap.size]? = some x := by
  show (w.heap.push x)[w.heap.size]? = some x
  simp
theorem blk_grown {r : Option Nat} (h : w.heap[b]? = some o) (hg : w.grownBy w' r) (hr : some b ≠ r) : w'.heap[b]? = some o := by
  rw [hg.block b (lt_of_block h) hr]; exact h
theorem blk_below {B : Nat} (h : w.heap[b]? = some o) (hb : Below B w w') (hB : b < B) : w'.heap[b]? = some o := (hb.block b hB).trans h
/-- A row of one kind is none of the blocks of another kind. -/
theorem own_apart {base : Nat} {e t : TypeId} {v : Value} {n : Nat} {xs : List Value} {cs : Array Value} (h : w.ownsRow base e 1 v n xs) (hb : w.heap[b]? = some (.cells cs t (0, 0))) (ht : t ≠ e) : some b ≠ v.ownBlock := by
  rcases h.2 with ⟨rfl, _⟩ | ⟨g, cap, cur, rfl, _, hg, _⟩
  · simp [Value.ownBlock]
  · intro hh
    simp only [Value.ownBlock, Option.some.injEq] at hh
    subst hh
    rw [hb] at hg
    simp only [Option.some.injEq, Obj.cells.injEq] at hg
    exact ht hg.2.1
theorem own_apart2 {base base' : Nat} {e t : TypeId} {v v' : Value} {n n' : Nat} {xs xs' : List Value} (h : w.ownsRow base e 1 v n xs) (h' : w.ownsRow base' t 1 v' n' xs') (ht : t ≠ e) (k : Nat) (hk : v'.ownBlock = some k) : v.ownBlock ≠ some k := by
  rcases h'.2 with ⟨rfl, _⟩ | ⟨g, cap, cur, rfl, _, hg, _⟩
  · simp [Value.ownBlock] at hk
  · simp only [Value.ownBlock, Option.some.injEq] at hk
    subst hk
    exact (own_apart h hg ht).symm
end
end Go.Proofs.YtmgdlodnhmpbiaaDoor.Mem
