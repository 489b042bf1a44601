/- Worlds of which one block may have been written and others made: small laws. -/
import Derived.Test.YtholpemmakdglaaProg
import Derived.Below
import Derived.OwnWalk
import Derived.Deep.QuietTactic
import Derived.WalkKit
namespace Go.Proofs.Ytholpemmakdglaa.Gb
open Go.RowKit
set_option linter.unusedVariables false
theorem trans {a b c : World} {r : Option Nat} (h : a.grownBy b r) (k : b.grownBy c r) : a.grownBy c r :=
  ⟨k.os.trans h.os, k.tape.trans h.tape, k.output.trans h.output, Nat.le_trans h.size k.size, fun i hi hr => (k.block i (Nat.lt_of_lt_of_le hi h.size) hr).trans (h.block i hi hr)⟩
theorem drewN (w : World) (n : Nat) (r : Option Nat) : w.grownBy (w.drewN n) r := ⟨rfl, rfl, rfl, Nat.le_refl _, fun _ _ _ => rfl⟩
theorem below {w w' : World} (h : Below w.heap.size w w') (r : Option Nat) : w.grownBy w' r := ⟨h.os, h.tape, h.output, h.size, fun k hk _ => h.block k hk⟩
theorem set (w : World) (b o : Nat) (v : Value) : w.grownBy (w.setCell ⟨b, o, none⟩ v) (some b) :=
  ⟨rfl, rfl, rfl, by simp [World.setCell], fun k hk hr => Below.heap_setCell _ _ _ _ (fun e => hr (by rw [e]))⟩
theorem cell {w w' : World} {r : Option Nat} (hg : w.grownBy w' r) {b o : Nat} {v : Value} (hc : w.cell? ⟨b, o, none⟩ = some v) (hr : some b ≠ r) : w'.cell? ⟨b, o, none⟩ = some v :=
  (World.cell?_of_block (w := w) (hg.block b (World.block_lt_of_cell? w _ hc) hr)).trans hc
theorem frozen {w w' : World} {r : Option Nat} (hg : w.grownBy w' r) {b o : Nat} (hb : b < w.heap.size) (hr : some b ≠ r) : w'.frozen? ⟨b, o, none⟩ = w.frozen? ⟨b, o, none⟩ := World.frozen?_of_block (w := w) (hg.block b hb hr)
theorem cellB {w w' : World} (hg : Below w.heap.size w w') {b o : Nat} {v : Value} (hc : w.cell? ⟨b, o, none⟩ = some v) : w'.cell? ⟨b, o, none⟩ = some v :=
  (World.cell?_of_block (w := w) (hg.block b (World.block_lt_of_cell? w _ hc))).trans hc
theorem frozenB {w w' : World} (hg : Below w.heap.size w w') {b o : Nat} (hb : b < w.heap.size) : w'.frozen? ⟨b, o, none⟩ = w.frozen? ⟨b, o, none⟩ := World.frozen?_of_block (w := w) (hg.block b hb)
theorem lt {w : World} {b o : Nat} {v : Value} (hc : w.cell? ⟨b, o, none⟩ = some v) : b < w.heap.size := World.block_lt_of_cell? w _ hc
theorem toBelow {B : Nat} {a w w' : World} {q : Nat} (h : Below B a w) (hg : w.grownBy w' (some q)) (hB : B ≤ w.heap.size) (hq : B ≤ q) : Below B a w' := h.grown hg hB fun k hk => by injection hk with hk; omega
theorem dn {B : Nat} {w w' : World} (h : Below B w w') (n : Nat) : Below B w (w'.drewN n) := by
  induction n with
  | zero => exact h
  | succ n ih => exact ih.drew
end Go.Proofs.Ytholpemmakdglaa.Gb
