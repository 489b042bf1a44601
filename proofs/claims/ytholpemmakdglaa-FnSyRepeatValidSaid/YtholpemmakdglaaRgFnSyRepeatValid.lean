/- A tree of the package, built by the thin package: which blocks it lies in, and what stays. -/
import Derived.Test.YtholpemmakdglaaTWFnSyRepeatValid
import Derived.Test.YtholpemmakdglaaRegU
import Derived.Test.YtholpemmakdglaaBlk
import Derived.Maps.AppendAt
import Derived.Deep.Upon
namespace Go.Proofs.Ytholpemmakdglaa.PFnSyRepeatValid
open Go.RowKit Go.Proofs.YtholpemmakdglaaW.PrintWords Go.Proofs.YtholpemmakdglaaW.PrintLast Go.Proofs.YtholpemmakdglaaW.PrintMore
set_option linter.unusedVariables false
abbrev ptrs (bs : List Nat) : List Value := bs.map fun b => .pointer (some ⟨b, 0, none⟩)
/-- The cells of a node. -/
abbrev rgCells (op fl : Int) (vS vR : Value) (m0 m1 cp : Int) (nm : ByteArray) : Array Value :=
  #[.int .u8 op, .int .u16 (IntKind.u16.wrap fl), vS, .pointer none, vR, .int .i32 0, .int .i32 0, .int .i64 m0, .int .i64 m1, .int .i64 cp, .string nm]
mutual
def RgT (w : World) (ok : Nat → Prop) : Nat → Tr → Prop
  | b, ⟨op, fl, rs, m0, m1, cp, nm, ts⟩ => ok b ∧ ∃ vS vR bs, w.heap[b]? = some (.cells (rgCells op fl vS vR m0 m1 cp nm) 69 (0, 0)) ∧
      (∀ k, vR.ownBlock = some k → ok k) ∧ w.ownsRow 0 21 1 vR rs.length (rs.map (Value.int .i32)) ∧
      (∀ k, vS.ownBlock = some k → ok k) ∧ w.ownsRow 0 46 1 vS ts.length (ptrs bs) ∧ RgL w ok bs ts
def RgL (w : World) (ok : Nat → Prop) : List Nat → List Tr → Prop
  | bs, [] => bs = []
  | bs, t :: ts => ∃ b bs', bs = b :: bs' ∧ RgT w ok b t ∧ RgL w ok bs' ts
end
theorem own_blk {w : World} {base : Nat} {e : TypeId} {v : Value} {n : Nat} {xs : List Value} (h : w.ownsRow base e 1 v n xs) {k : Nat} (hk : v.ownBlock = some k) : k < w.heap.size := (h.lt k hk).2
mutual
theorem rgT_move {w w1 : World} {ok ok' : Nat → Prop} (hm : ∀ k, ok k → k < w.heap.size → w1.heap[k]? = w.heap[k]? ∧ ok' k) : ∀ (t : Tr) (b : Nat), RgT w ok b t → RgT w1 ok' b t
  | ⟨op, fl, rs, m0, m1, cp, nm, ts⟩, b, h => by
    rw [RgT] at h ⊢
    obtain ⟨hb, vS, vR, bs, h0, hR, oR, hS, oS, hL⟩ := h
    have hbm := hm b hb (lt_of_block h0)
    exact ⟨hbm.2, vS, vR, bs, hbm.1.trans h0, fun k hk => (hm k (hR k hk) (own_blk oR hk)).2, own_move oR fun k hk => (hm k (hR k hk) (own_blk oR hk)).1,
      fun k hk => (hm k (hS k hk) (own_blk oS hk)).2, own_move oS fun k hk => (hm k (hS k hk) (own_blk oS hk)).1, rgL_move hm ts bs hL⟩
theorem rgL_move {w w1 : World} {ok ok' : Nat → Prop} (hm : ∀ k, ok k → k < w.heap.size → w1.heap[k]? = w.heap[k]? ∧ ok' k) : ∀ (ts : List Tr) (bs : List Nat), RgL w ok bs ts → RgL w1 ok' bs ts
  | [], bs, h => by rw [RgL] at h ⊢; exact h
  | t :: ts, bs, h => by
    rw [RgL] at h ⊢
    obtain ⟨b, bs', rfl, h1, h2⟩ := h
    exact ⟨b, bs', rfl, rgT_move hm t b h1, rgL_move hm ts bs' h2⟩
end
theorem rgL_snoc {w : World} {ok : Nat → Prop} {b : Nat} {t : Tr} (ht : RgT w ok b t) : ∀ (ts : List Tr) (bs : List Nat), RgL w ok bs ts → RgL w ok (bs ++ [b]) (ts ++ [t])
  | [], bs, h => by rw [RgL] at h; subst h; rw [List.nil_append, List.nil_append, RgL]; exact ⟨b, [], rfl, ht, by rw [RgL]⟩
  | t' :: ts, bs, h => by
    rw [RgL] at h
    obtain ⟨b', bs', rfl, h1, h2⟩ := h
    rw [List.cons_append, List.cons_append, RgL]
    exact ⟨b', bs' ++ [b], rfl, h1, rgL_snoc ht ts bs' h2⟩
theorem rgL_len {w : World} {ok : Nat → Prop} : ∀ (ts : List Tr) (bs : List Nat), RgL w ok bs ts → bs.length = ts.length
  | [], bs, h => by rw [RgL] at h; subst h; rfl
  | t :: ts, bs, h => by
    rw [RgL] at h
    obtain ⟨b, bs', rfl, h1, h2⟩ := h
    simp [rgL_len ts bs' h2]
theorem rgL_get {w : World} {ok : Nat → Prop} : ∀ (ts : List Tr) (bs : List Nat) (i : Nat) (t : Tr), RgL w ok bs ts → ts[i]? = some t → ∃ b, bs[i]? = some b ∧ RgT w ok b t
  | [], bs, i, t, h, hi => by simp at hi
  | t' :: ts, bs, i, t, h, hi => by
    rw [RgL] at h
    obtain ⟨b, bs', rfl, h1, h2⟩ := h
    cases i with
    | zero => simp at hi; subst hi; exact ⟨b, rfl, h1⟩
    | succ i =>
      obtain ⟨b', hb, hr⟩ := rgL_get ts bs' i t h2 (by simpa using hi)
      exact ⟨b', by simpa using hb, hr⟩
theorem own_slice {w : World} {base : Nat} {e : TypeId} {v : Value} {n : Nat} {xs : List Value} (h : w.ownsRow base e 1 v n xs) : ∃ A c, v = .slice A n c := by
  rcases h.2 with ⟨rfl, rfl⟩ | ⟨g, cap, cur, rfl, _⟩
  · exact ⟨none, 0, rfl⟩
  · exact ⟨_, _, rfl⟩
/-- Every list of a tree takes up few bytes. -/
def Room (n k : Nat) : Prop := n * k ≤ 140737488355328
mutual
def szT : Tr → Prop
  | ⟨_, _, rs, _, _, _, _, ts⟩ => Room rs.length 4 ∧ Room ts.length 8 ∧ szL ts
def szL : List Tr → Prop
  | [] => True
  | t :: ts => szT t ∧ szL ts
end
section
variable {P : Program} {w : World}
/-- 'append(v, u)', v a row of the call's own whose elements are one cell each: where the new row lies is told. -/
theorem wp_app1_op {o : Oper} {a : Act} {Q : Exit → Act → World → Prop} {K : Act → World → Prop} (s x : Operand) (t : TypeId)
    (ho : o.op = .call { callee := .builtin .append, args := #[s, x], argTypes := #[t, t] })
    (base : Nat) (e : TypeId) (z : Value) (bytes : Nat) (ht : P.underlying t = some (.slice e)) (hi : (P.info? e).map (fun i => (i.zero, i.size, i.bytes)) = some (some z, 1, bytes))
    (hzs : z.cells.size = 1) (v : Value) (n : Nat) (xs : List Value) (hs : a.eval s = v) (hown : w.ownsRow base e 1 v n xs) (u : Value) (h1 : u.oneCell' = true)
    (hx : a.eval x = .slice (some ⟨w.heap.size, 0, none⟩) 1 1)
    (h63 : n + 1 ≤ maxLen) (hbytes : (n + 1) * bytes ≤ 140737488355328) (hbase : base ≤ w.heap.size)
    (h : ∀ v' w', w'.ownsRow base e 1 v' (n + 1) (xs ++ [u]) → (w.alloc (.cells #[u] e)).grownBy w' v.ownBlock → (v'.ownBlock = v.ownBlock ∨ v'.ownBlock = some (w.heap.size + 1)) → K (a.put o.dst v') w') :
    Oper.wp P o a (w.alloc (.cells #[u] e)) K Q := by
  obtain ⟨i0, hi0, hz0, hz1, hz2⟩ := info_parts hi
  obtain ⟨v', w', hr, ho', hg, _, hat⟩ := run_append_own_at (P := P) (w.alloc (.cells #[u] e)) base t o.type e i0 z 1 bytes ht hi0 hz0 hz1 hz2 hzs (by omega) v n xs (hown.alloc _) ⟨w.heap.size, 0, none⟩ 1 1 [u] rfl (by
    intro j u' hj
    cases j with
    | zero =>
      simp at hj
      subst hj
      have : (⟨w.heap.size, 0, none⟩ : Addr).add 0 = ⟨w.heap.size, 0, none⟩ := by simp [Addr.add]
      rw [this]
      simp
    | succ j => simp at hj) (by simpa using h1) h63 hbytes (by simp; omega)
  unfold Oper.wp execOp
  simp only [ho, resolve, invoke, builtin, Sem.run_bind, Sem.run_pure, Result.andThen_ok, List.map_toArray, List.map_cons, List.map_nil, hs, hx, hr]
  exact h v' w' ho' hg (by simpa using hat)
/-- 'append([]int32(nil), x...)', x read: a copy in a row of the call's own. -/
theorem wp_copy {ops : Array Oper} {rest : List Oper} {o : Oper} {a : Act} {Q : Exit → Act → World → Prop} (hgd : o.guard = none) (x : Operand) (t : TypeId)
    (ho : o.op = .call { callee := .builtin .append, args := #[.const (.slice none 0 0), x], argTypes := #[t, t] })
    (base : Nat) (e : TypeId) (bytes : Nat) (ht : P.underlying t = some (.slice e)) (hi : (P.info? e).map (fun i => (i.zero, i.size, i.bytes)) = some (some (.int .i32 0), 1, bytes))
    (A : Option Addr) (zs : List Int) (cap : Nat) (hx : a.eval x = .slice A zs.length cap) (hz : (Kd.int .i32).C w A zs.length zs) (hbytes : Room zs.length bytes) (hbase : base ≤ w.heap.size)
    (h : ∀ v' w', w'.ownsRow base e 1 v' zs.length (zs.map (Value.int .i32)) → w.grownBy w' none → wpList P ops Q rest (a.put o.dst v') w') :
    wpList P ops Q (o :: rest) a w := by
  obtain ⟨i0, hi0, hz0, hz1, hz2⟩ := info_parts hi
  have he : a.eval (.const (.slice none 0 0)) = .slice none 0 0 := rfl
  have hrun : ∃ v' w', (Builtin.append_ #[t, t] o.type #[.slice none 0 0, .slice A zs.length cap]).run P w = .ok v' w' ∧ w'.ownsRow base e 1 v' zs.length (zs.map (Value.int .i32)) ∧ w.grownBy w' none := by
    by_cases h0 : zs.length = 0
    · have hzs : zs = [] := List.length_eq_zero_iff.mp h0
      subst hzs
      have hsrc : Src P i0.size t (.slice A 0 cap) 0 [] w := by
        cases A with
        | none => exact Src.ofNil w ht cap
        | some ad => exact Src.ofSlice w ht ad 0 cap [] (by simp) (by simp) (by simp)
      exact ⟨.slice none 0 0, w, run_append_nothing (P := P) w t t o.type e i0 ht hi0 none 0 0 (Nat.le_refl _) _ hsrc, World.ownsRow_nil _ _ _ _, ⟨rfl, rfl, rfl, Nat.le_refl _, fun _ _ _ => rfl⟩⟩
    · obtain ⟨ad, rfl, hc⟩ := hz.2.2 (by omega)
      have hm : zs.length ≤ maxLen := by have := hz.2.1; unfold maxLen; omega
      obtain ⟨v', w', hr, ho', hg, -⟩ := run_append_own (P := P) w base t o.type e i0 (.int .i32 0) 1 bytes ht hi0 hz0 hz1 hz2 rfl (by omega) (.slice none 0 0) 0 [] (World.ownsRow_nil _ _ _ _) ad zs.length cap (zs.map (Value.int .i32)) (by simp) (by
        intro j u hj
        obtain ⟨p, hp, rfl⟩ : ∃ p, zs[j]? = some p ∧ Value.int .i32 p = u := by simpa using hj
        obtain ⟨c, _, hR, hcc⟩ := hc j p hp
        have h1 := hcc 0 (Value.int .i32 p) (by rw [show c = [.int .i32 p] from hR]; rfl)
        rw [show (Kd.int .i32).sz = 1 from rfl, Nat.mul_one, Nat.add_zero] at h1
        exact h1) (by simp [Value.oneCell']) (by simpa using hm) (by unfold Room at hbytes; simpa using hbytes) hbase
      simp only [Nat.zero_add, List.nil_append] at ho'
      exact ⟨v', w', hr, ho', hg⟩
  obtain ⟨v', w', hr, h1, h2⟩ := hrun
  refine wpList_plain hgd fun K hK => ?_
  unfold Oper.wp execOp
  simp only [ho, resolve, invoke, builtin, Sem.run_bind, Sem.run_pure, Result.andThen_ok, List.map_toArray, List.map_cons, List.map_nil, he, hx, hr]
  exact hK _ _ (h v' w' h1 h2)
end
end Go.Proofs.Ytholpemmakdglaa.PFnSyRepeatValid
