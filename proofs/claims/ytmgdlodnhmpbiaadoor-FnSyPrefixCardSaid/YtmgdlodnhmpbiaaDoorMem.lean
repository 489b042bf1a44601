/- Small laws on memory: a row of the call's own to which one element is appended; a slice that reads as a list. -/
import Derived.Test.YtmgdlodnhmpbiaaDoorProg
import Derived.WalkKit
import Derived.Below
import Derived.Laws.OwnMore
import Derived.Laws.Rows
import Derived.Deep.Draws
import Derived.Deep.AppendLies
import Derived.Lib.Hide
namespace Go.Proofs.YtmgdlodnhmpbiaaDoor.Mem
open Go.RowKit
set_option linter.unusedVariables false
theorem below_drewN {B : Nat} {a w : World} (h : Below B a w) (n : Nat) : Below B a (w.drewN n) := ⟨h.os, h.tape, h.output, h.size, h.block⟩
/-- A new row of one cell: a slice literal of one element. -/
theorem own_lit1 (w : World) (e : TypeId) (u : Value) {base : Nat} (hb : base ≤ w.heap.size) : (w.alloc (.cells #[u] e)).ownsRow base e 1 (.slice (some ⟨w.heap.size, 0, none⟩) 1 1) 1 [u] :=
  World.ownsRow_lit w #[u] 1 hb (by simp [maxLen]) (by simp)
section
variable {P : Program} {w : World}
/-- 'append(v, u)', v a row of the call's own whose elements are one cell each: the element lies in a new block of its own. -/
theorem wp_app1 {ops : Array Oper} {rest : List Oper} {o : Oper} {a : Act} {Q : Exit → Act → World → Prop} (hgd : o.guard = none) (s x : Operand) (t : TypeId)
    (ho : o.op = .call { callee := .builtin .append, args := #[s, x], argTypes := #[t, t] })
    (base : Nat) (e : TypeId) (z : Value) (bytes : Nat) (ht : P.underlying t = some (.slice e)) (hi : (P.info? e).map (fun i => (i.zero, i.size, i.bytes)) = some (some z, 1, bytes))
    (hzs : z.cells.size = 1) (v : Value) (n : Nat) (xs : List Value) (hs : a.eval s = v) (hown : w.ownsRow base e 1 v n xs) (u : Value) (h1 : u.oneCell' = true)
    (hx : a.eval x = .slice (some ⟨w.heap.size, 0, none⟩) 1 1)
    (h63 : n + 1 ≤ maxLen) (hbytes : (n + 1) * bytes ≤ 140737488355328) (hbase : base ≤ w.heap.size)
    (h : ∀ v' w', w'.ownsRow base e 1 v' (n + 1) (xs ++ [u]) → (w.alloc (.cells #[u] e)).grownBy w' v.ownBlock → Below base w w' → wpList P ops Q rest (a.put o.dst v') w') :
    wpList P ops Q (o :: rest) a (w.alloc (.cells #[u] e)) := by
  obtain ⟨i0, hi0, hz0, hz1, hz2⟩ := info_parts hi
  refine wpList_append_own _ hgd s x t ho base e i0 z 1 bytes ht hi0 hz0 hz1 hz2 hzs (by omega) v n xs hs (hown.alloc _) ⟨w.heap.size, 0, none⟩ 1 1 [u] hx rfl ?_ (by simpa using h1) h63 hbytes (by simp; omega) ?_
  · intro j u' hj
    cases j with
    | zero =>
      simp at hj
      subst hj
      have : (⟨w.heap.size, 0, none⟩ : Addr).add 0 = ⟨w.heap.size, 0, none⟩ := by simp [Addr.add]
      rw [this]
      simp
    | succ j => simp at hj
  · intro v' w' ho' hg _
    refine h v' w' ho' hg ?_
    refine ((Below.refl base w).alloc hbase _).grown hg (by simp; omega) fun k hk => ?_
    exact (hown.lt k hk).1
end
end Go.Proofs.YtmgdlodnhmpbiaaDoor.Mem
