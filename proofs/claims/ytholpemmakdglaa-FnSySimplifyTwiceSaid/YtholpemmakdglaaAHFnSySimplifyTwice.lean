/- Simplify at a group, at parts one behind the other and at ways: words. Simplify at a group, at parts one behind the other and at ways. Simplify, whole. -/
import Derived.Test.YtholpemmakdglaaAFFnSySimplifyTwice
import Derived.Test.YtholpemmakdglaaAGFnSySimplifyTwice
namespace Go.Proofs.Ytholpemmakdglaa.PFnSySimplifyTwice
open Go.RowKit Go.Proofs.YtholpemmakdglaaW.PrintWords Go.Proofs.YtholpemmakdglaaW.PrintLast Go.Proofs.YtholpemmakdglaaW.PrintMore
set_option linter.unusedVariables false
set_option linter.unusedSimpArgs false
abbrev pq (s : Nat) : Value := .pointer (some ⟨s, 0, none⟩)
/-- A copy of a node at work: block q, with the parts bs so far. -/
def CpyC (w : World) (okk : Nat → Prop) (op fl m0 m1 cp : Int) (nm : ByteArray) (q : Nat) (v : Value) (bs : List Nat) (ts : List Tr) (wx : World) : Prop :=
  w.heap.size ≤ q ∧ Below w.heap.size w wx ∧ q < wx.heap.size ∧ ∃ u, isPtr u ∧ wx.heap[q]? = some (.cells (ndC op fl v u (.slice none 0 0) m0 m1 cp nm) 69 (0, 0)) ∧ Lies wx w.heap.size q u v (ptrs bs) ∧
    RsL wx (fun k => okk k ∧ k ≠ q ∧ some k ≠ v.ownBlock) bs ts ∧ fnL ts
theorem one_new {w : World} {s : Nat} : ∀ (j : Nat) (x : Value), [pq s][j]? = some x → (w.alloc (.cells #[pq s] 46)).cell? ((⟨w.heap.size, 0, none⟩ : Addr).add j) = some x := by
  intro j x hj
  cases j with
  | zero => simp at hj; subst hj; rw [Addr.add_lit]; simp
  | succ j => simp at hj
theorem fnL_snoc {t : Tr} (h : fnT t) : ∀ {ts : List Tr}, fnL ts → fnL (ts ++ [t])
  | [], _ => by rw [List.nil_append, fnL, fnL]; exact ⟨h, trivial⟩
  | t' :: ts, h' => by rw [fnL] at h'; rw [List.cons_append, fnL]; exact ⟨h'.1, fnL_snoc h h'.2⟩
/-- One part more. -/
theorem CpyC.app {w W w' : World} {okk : Nat → Prop} {op fl m0 m1 cp : Int} {nm : ByteArray} {q s : Nat} {v v' u u' : Value} {bs : List Nat} {ts : List Tr} {x1 : Tr}
    (hC : CpyC w okk op fl m0 m1 cp nm q v bs ts W) (hs : RsT W (fun k => okk k ∧ k ≠ q ∧ some k ≠ v.ownBlock) s x1) (hfx : fnT x1)
    (hk' : w'.heap[q]? = some (.cells ((ndC op fl v u (.slice none 0 0) m0 m1 cp nm).setIfInBounds 3 u') 69 (0, 0))) (hu' : isPtr u') (hL' : Lies w' w.heap.size q u' v' (ptrs bs ++ [pq s]))
    (hs' : (W.alloc (.cells #[pq s] 46)).heap.size ≤ w'.heap.size) (ho' : ∀ k, k < (W.alloc (.cells #[pq s] 46)).heap.size → k ≠ q → some k ≠ v.ownBlock → w'.heap[k]? = (W.alloc (.cells #[pq s] 46)).heap[k]?)
    (hB' : ∀ w0, Below w.heap.size w0 (W.alloc (.cells #[pq s] 46)) → Below w.heap.size w0 w') (hor : v'.ownBlock = v.ownBlock ∨ v'.ownBlock = some (W.alloc (.cells #[pq s] 46)).heap.size) :
    CpyC w okk op fl m0 m1 cp nm q v' (bs ++ [s]) (ts ++ [x1]) (w'.setCell ⟨q, 2, none⟩ v') := by
  obtain ⟨hT, hb, hlt, u0, hu, hk, hL, hR, hf⟩ := hC
  have hmv : ∀ k, (okk k ∧ k ≠ q ∧ some k ≠ v.ownBlock) → k < W.heap.size → (w'.setCell ⟨q, 2, none⟩ v').heap[k]? = W.heap[k]? ∧ (okk k ∧ k ≠ q ∧ some k ≠ v'.ownBlock) := fun k hk2 hlt2 => by
    refine ⟨(far1 w' hk2.2.1 2 v').trans ((ho' k (by simp; omega) hk2.2.1 hk2.2.2).trans (Below.heap_alloc _ _ _ hlt2)), hk2.1, hk2.2.1, ?_⟩
    rcases hor with h | h <;> rw [h]
    · exact hk2.2.2
    · intro e; injection e with e; simp at e; omega
  have e : ptrs bs ++ [pq s] = ptrs (bs ++ [s]) := by rw [ptrs, ptrs, List.map_append]; rfl
  rw [e] at hL'
  refine ⟨hT, (hB' w (hb.alloc hb.size _)).setCell hT _, by simp [World.setCell] at hs' ⊢; omega, u', hu', blk_put hk' 2 v' rfl, hL'.move fun k _ hne => far1 w' hne 2 v', rsL_snoc (rsT_move hmv x1 s hs) _ _ (rsL_move hmv ts bs hR), fnL_snoc hfx hf⟩
/-- .. and done. -/
theorem CpyC.done {w wx : World} {ok : Nat → Prop} {op fl m0 m1 cp : Int} {nm : ByteArray} {q : Nat} {v : Value} {bs : List Nat} {ts : List Tr} (rs : List Int) (ho : op = 13 ∨ op = 18 ∨ op = 19) (hf0 : 0 ≤ fl) (hf1 : fl ≤ 65535)
    (hC : CpyC w (fun k => ok k ∨ w.heap.size ≤ k) op fl m0 m1 cp nm q v bs ts wx) (hl : ts.length ≤ 1000000) : SimP w ok (nmN op fl rs m0 m1 cp nm (nmL ts)) (.returned (pq q)) wx := by
  obtain ⟨hT, hb, hlt, u, ⟨p3, rfl⟩, hk, hL, hR, hf⟩ := hC
  refine ⟨q, ⟨op, fl, [], m0, m1, cp, nm, ts⟩, rfl, hb, ?_, ?_, ?_⟩
  · rw [RsT]
    exact ⟨.inr hT, _, _, _, bs, hk, ⟨none, 0, rfl, by simp, by simp, fun h => by simp at h⟩, hL.crow hk rfl (fun k hk' => .inr (hL.base hT hk')), rsL_move (fun k hk _ => ⟨rfl, hk.1⟩) _ _ hR⟩
  · rw [fnT]
    exact ⟨by omega, by simp [Room], by unfold Room; omega, hf⟩
  · rw [nmT, nmN, nmN]
    simp only [if_neg (show ¬ (op = 3 ∨ op = 4) by omega)]
theorem rsL_take {w : World} {ok : Nat → Prop} : ∀ (i : Nat) (ts : List Tr) (bs : List Nat), RsL w ok bs ts → RsL w ok (bs.take i) (ts.take i)
  | 0, ts, bs, h => by rw [List.take_zero, List.take_zero, RsL]
  | i + 1, [], bs, h => by
    have h0 : bs = [] := by simpa only [RsL] using h
    subst h0
    simpa using h
  | i + 1, t :: ts, bs, h => by
    rw [RsL] at h
    obtain ⟨b, bs', rfl, h1, h2⟩ := h
    rw [List.take_succ_cons, List.take_succ_cons, RsL]
    exact ⟨b, bs'.take i, rfl, h1, rsL_take i ts bs' h2⟩
theorem fnL_take : ∀ (i : Nat) {ts : List Tr}, fnL ts → fnL (ts.take i)
  | 0, ts, h => by rw [List.take_zero, fnL]; trivial
  | i + 1, [], h => by simpa using h
  | i + 1, t :: ts, h => by rw [fnL] at h; rw [List.take_succ_cons, fnL]; exact ⟨h.1, fnL_take i h.2⟩
theorem fnL_get : ∀ {ts : List Tr} {i : Nat} {t : Tr}, fnL ts → ts[i]? = some t → fnT t
  | [], i, t, _, hi => by simp at hi
  | t' :: ts, 0, t, h, hi => by rw [fnL] at h; simp at hi; subst hi; exact h.1
  | t' :: ts, i + 1, t, h, hi => by rw [fnL] at h; exact fnL_get h.2 (by simpa using hi)
theorem snL_get : ∀ {ts : List Tr} {i : Nat} {t : Tr}, snL ts → ts[i]? = some t → snT t
  | [], i, t, _, hi => by simp at hi
  | t' :: ts, 0, t, h, hi => by rw [snL] at h; simp at hi; subst hi; exact h.1
  | t' :: ts, i + 1, t, h, hi => by rw [snL] at h; exact snL_get h.2 (by simpa using hi)
theorem ncL_get : ∀ {ts : List Tr} {i : Nat} {t : Tr}, ts[i]? = some t → ncT t ≤ ncL ts
  | [], i, t, hi => by simp at hi
  | t' :: ts, 0, t, hi => by simp at hi; subst hi; rw [ncL]; omega
  | t' :: ts, i + 1, t, hi => by have := ncL_get (ts := ts) (i := i) (by simpa using hi); rw [ncL]; omega
theorem nmL_snoc (t : Tr) : ∀ ts : List Tr, nmL (ts ++ [t]) = nmL ts ++ [nmT t]
  | [] => by rw [List.nil_append, nmL, nmL]; rfl
  | t' :: ts => by rw [List.cons_append, nmL, nmL, nmL_snoc t ts, List.cons_append]
theorem simL_snoc (t : Tr) : ∀ ts : List Tr, simL (ts ++ [t]) = simL ts ++ [simT t]
  | [] => by rw [List.nil_append, simL, simL]; rfl
  | t' :: ts => by rw [List.cons_append, simL, simL, simL_snoc t ts, List.cons_append]
theorem take_snoc {α : Type} {ts : List α} {i : Nat} {t : α} (h : ts[i]? = some t) : ts.take (i + 1) = ts.take i ++ [t] := by rw [List.take_add_one, h]; rfl
/-- 'append(nre.Sub0[:0], re.Sub[:i]...)': the parts so far. -/
theorem wp_begin_op {w : World} {o : Oper} {ac : Act} {Q : Exit → Act → World → Prop} {K : Act → World → Prop} (s x : Operand)
    (ho : o.op = .call { callee := .builtin .append, args := #[s, x], argTypes := #[65, 65] })
    {T b m c : Nat} {u : Value} {news : List Value} {cs : Array Value} {tb : TypeId} (hT : T ≤ b) (hk : w.heap[b]? = some (.cells cs tb (0, 0))) (h3 : cs[3]? = some u) (hu : isPtr u)
    (hs : ac.eval s = .slice (some ⟨b, 3, none⟩) 0 1) (A : Option Addr) (hx : ac.eval x = .slice A m c) (hl : news.length = m) (hnews : 0 < m → ∃ a, A = some a ∧ ∀ j x, news[j]? = some x → w.cell? (a.add j) = some x) (h1 : ∀ x ∈ news, isPtr x) (hmax : m ≤ 1000000)
    (h : ∀ v' w' u', w'.heap[b]? = some (.cells (cs.setIfInBounds 3 u') tb (0, 0)) → isPtr u' → Lies w' T b u' v' news →
      w.heap.size ≤ w'.heap.size → (∀ k, k < w.heap.size → k ≠ b → w'.heap[k]? = w.heap[k]?) → (∀ w0, Below T w0 w → Below T w0 w') → (v'.ownBlock = some b ∨ v'.ownBlock = some w.heap.size) → K (ac.put o.dst v') w') :
    Oper.wp Try.prog o ac w K Q := by
  by_cases hm : m = 0
  · subst hm
    have hn : news = [] := List.length_eq_zero_iff.1 hl
    subst hn
    have hi : (Try.prog.info? 46).map (fun i => (i.zero, i.size, i.bytes)) = some (some (.pointer none), 1, 8) := by kernel_rfl
    obtain ⟨i0, hi0, hz0, hz1, hz2⟩ := info_parts hi
    have ht := Try.underlying65
    have hsrc : Src Try.prog i0.size 65 (.slice A 0 c) 0 [] w := by
      cases A with
      | none => exact Src.ofNil w ht c
      | some ad => exact Src.ofSlice w ht ad 0 c [] (by simp) (by simp) (by simp)
    have hr := run_append_nothing (P := Try.prog) w 65 65 o.type 46 i0 ht hi0 (some ⟨b, 3, none⟩) 0 1 (by omega) _ hsrc
    have hset : cs.setIfInBounds 3 u = cs := by
      obtain ⟨hlt, he⟩ := Array.getElem?_eq_some_iff.1 h3
      rw [Array.setIfInBounds, dif_pos hlt, ← he, Array.set_getElem_self]
    unfold Oper.wp execOp
    simp only [ho, resolve, invoke, builtin, Sem.run_bind, Sem.run_pure, Result.andThen_ok, List.map_toArray, List.map_cons, List.map_nil, hs, hx, hr]
    exact h _ w u (by rw [hset]; exact hk) hu (.inl ⟨rfl, .inl rfl⟩) (Nat.le_refl _) (fun _ _ _ => rfl) (fun _ h => h) (.inl rfl)
  · obtain ⟨a, rfl, hc⟩ := hnews (by omega)
    exact wp_grow_op s x ho (us := []) (.inl ⟨rfl, .inl rfl⟩) hT hk h3 hu hs a hx hl hc h1 (by omega) (by simp; omega) (fun v' w' u' a1 a2 a3 a4 a5 a6 a7 => h v' w' u' a1 a2 a3 a4 (fun k hk hne => a5 k hk hne (fun e => hne (by injection e))) a6 a7)
/-- A node copied into a new one, its characters left out. -/
abbrev w12 (w : World) (q : Nat) (op fl : Int) (v u vR : Value) (m0 m1 cp : Int) (nm : ByteArray) : World :=
  (((((((((((w.setCell ⟨q, 0, none⟩ (.int .u8 op)).setCell ⟨q, 1, none⟩ (.int .u16 fl)).setCell ⟨q, 2, none⟩ v).setCell ⟨q, 3, none⟩ u).setCell ⟨q, 4, none⟩ vR).setCell ⟨q, 5, none⟩ (.int .i32 0)).setCell ⟨q, 6, none⟩ (.int .i32 0)).setCell ⟨q, 7, none⟩ (.int .i64 m0)).setCell ⟨q, 8, none⟩ (.int .i64 m1)).setCell ⟨q, 9, none⟩ (.int .i64 cp)).setCell ⟨q, 10, none⟩ (.string nm)).setCell ⟨q, 4, none⟩ (.slice none 0 0)
theorem w12_far (w : World) {q k : Nat} (hk : k ≠ q) (op fl : Int) (v u vR : Value) (m0 m1 cp : Int) (nm : ByteArray) : (w12 w q op fl v u vR m0 m1 cp nm).heap[k]? = w.heap[k]? := by
  simp only [w12, far1 _ hk]
theorem w12_below {T : Nat} {a w : World} {q : Nat} (h : Below T a w) (hq : T ≤ q) (op fl : Int) (v u vR : Value) (m0 m1 cp : Int) (nm : ByteArray) : Below T a (w12 w q op fl v u vR m0 m1 cp nm) :=
  (((((((((((h.setCell hq _).setCell hq _).setCell hq _).setCell hq _).setCell hq _).setCell hq _).setCell hq _).setCell hq _).setCell hq _).setCell hq _).setCell hq _).setCell hq _
theorem w12_blk {w : World} {q : Nat} {t : TypeId} {a0 a1 a2 a3 a4 a7 a8 a9 a10 : Value} (h : w.heap[q]? = some (.cells #[a0, a1, a2, a3, a4, .int .i32 0, .int .i32 0, a7, a8, a9, a10] t (0, 0))) (op fl : Int) (v u vR : Value) (m0 m1 cp : Int) (nm : ByteArray) :
    (w12 w q op fl v u vR m0 m1 cp nm).heap[q]? = some (.cells (ndC op fl v u (.slice none 0 0) m0 m1 cp nm) t (0, 0)) := by
  have h0 := blk_put h 0 (.int .u8 op) (cs' := #[.int .u8 op, a1, a2, a3, a4, .int .i32 0, .int .i32 0, a7, a8, a9, a10]) rfl
  have h1 := blk_put h0 1 (.int .u16 fl) (cs' := #[.int .u8 op, .int .u16 fl, a2, a3, a4, .int .i32 0, .int .i32 0, a7, a8, a9, a10]) rfl
  have h2 := blk_put h1 2 v (cs' := #[.int .u8 op, .int .u16 fl, v, a3, a4, .int .i32 0, .int .i32 0, a7, a8, a9, a10]) rfl
  have h3 := blk_put h2 3 u (cs' := #[.int .u8 op, .int .u16 fl, v, u, a4, .int .i32 0, .int .i32 0, a7, a8, a9, a10]) rfl
  have h4 := blk_put h3 4 vR (cs' := #[.int .u8 op, .int .u16 fl, v, u, vR, .int .i32 0, .int .i32 0, a7, a8, a9, a10]) rfl
  have h5 := blk_put h4 5 (.int .i32 0) (cs' := #[.int .u8 op, .int .u16 fl, v, u, vR, .int .i32 0, .int .i32 0, a7, a8, a9, a10]) rfl
  have h6 := blk_put h5 6 (.int .i32 0) (cs' := #[.int .u8 op, .int .u16 fl, v, u, vR, .int .i32 0, .int .i32 0, a7, a8, a9, a10]) rfl
  have h7 := blk_put h6 7 (.int .i64 m0) (cs' := #[.int .u8 op, .int .u16 fl, v, u, vR, .int .i32 0, .int .i32 0, .int .i64 m0, a8, a9, a10]) rfl
  have h8 := blk_put h7 8 (.int .i64 m1) (cs' := #[.int .u8 op, .int .u16 fl, v, u, vR, .int .i32 0, .int .i32 0, .int .i64 m0, .int .i64 m1, a9, a10]) rfl
  have h9 := blk_put h8 9 (.int .i64 cp) (cs' := #[.int .u8 op, .int .u16 fl, v, u, vR, .int .i32 0, .int .i32 0, .int .i64 m0, .int .i64 m1, .int .i64 cp, a10]) rfl
  have h10 := blk_put h9 10 (.string nm) (cs' := #[.int .u8 op, .int .u16 fl, v, u, vR, .int .i32 0, .int .i32 0, .int .i64 m0, .int .i64 m1, .int .i64 cp, .string nm]) rfl
  exact blk_put h10 4 (.slice none 0 0) (cs' := #[.int .u8 op, .int .u16 fl, v, u, .slice none 0 0, .int .i32 0, .int .i32 0, .int .i64 m0, .int .i64 m1, .int .i64 cp, .string nm]) rfl
/-- The copy begins with the parts so far. -/
theorem CpyC.begin {w W w' : World} {okk ok : Nat → Prop} {op fl m0 m1 cp : Int} {nm : ByteArray} {q : Nat} {v v' u u' : Value} {bs : List Nat} {ts : List Tr}
    (hT : w.heap.size ≤ q) (hb : Below w.heap.size w W) (hlt : q < W.heap.size) (hR : RsL w ok bs ts) (hf : fnL ts) (hok : ∀ k, ok k → okk k)
    (hk' : w'.heap[q]? = some (.cells ((ndC op fl v u (.slice none 0 0) m0 m1 cp nm).setIfInBounds 3 u') 69 (0, 0))) (hu' : isPtr u') (hL' : Lies w' w.heap.size q u' v' (ptrs bs))
    (hs' : W.heap.size ≤ w'.heap.size) (ho' : ∀ k, k < W.heap.size → k ≠ q → w'.heap[k]? = W.heap[k]?)
    (hB' : ∀ w0, Below w.heap.size w0 W → Below w.heap.size w0 w') (hor : v'.ownBlock = some q ∨ v'.ownBlock = some W.heap.size) :
    CpyC w okk op fl m0 m1 cp nm q v' bs ts (w'.setCell ⟨q, 2, none⟩ v') := by
  refine ⟨hT, (hB' w hb).setCell hT _, by simp [World.setCell]; omega, u', hu', blk_put hk' 2 v' rfl, hL'.move fun k _ hne => far1 w' hne 2 v', rsL_move (fun k hk2 hlt2 => ⟨?_, hok k hk2, by omega, ?_⟩) ts bs hR, hf⟩
  · have := hb.size
    exact (far1 w' (by omega) 2 v').trans ((ho' k (by omega) (by omega)).trans (hb.block k hlt2))
  · have := hb.size
    rcases hor with h | h <;> rw [h] <;> intro e <;> injection e with e <;> omega
theorem CpyC.below {w wr w1 : World} {okk : Nat → Prop} {op fl m0 m1 cp : Int} {nm : ByteArray} {q : Nat} {v : Value} {bs : List Nat} {ts : List Tr} (h : CpyC w okk op fl m0 m1 cp nm q v bs ts wr) (hb : Below wr.heap.size wr w1) : CpyC w okk op fl m0 m1 cp nm q v bs ts w1 := by
  obtain ⟨h1, h2, h3, u, hu, hk, hL, hR, hf⟩ := h
  exact ⟨h1, h2.trans (hb.mono h2.size), Nat.lt_of_lt_of_le h3 hb.size, u, hu, (hb.block q h3).trans hk, hL.move fun k hk' _ => hb.block k (hL.lt h3 hk'), rsL_move (fun k hk' hlt => ⟨hb.block k hlt, hk'⟩) ts bs hR, hf⟩
end Go.Proofs.Ytholpemmakdglaa.PFnSySimplifyTwice
namespace Go.Proofs.Ytholpemmakdglaa.PFnSySimplifyTwice
open Go.RowKit Go.Proofs.YtholpemmakdglaaW.PrintWords Go.Proofs.YtholpemmakdglaaW.PrintLast Go.Proofs.YtholpemmakdglaaW.PrintMore
set_option linter.unusedVariables false
set_option linter.unusedSimpArgs false
/-- The state of the loop over the parts: nothing has changed so far, or a copy is at work. -/
def CpyS (w : World) (ok : Nat → Prop) (op fl m0 m1 cp : Int) (nm : ByteArray) (b : Nat) (ts : List Tr) (s3 : Value) (wx : World) : Prop :=
  (s3 = pq b ∧ Below w.heap.size w wx ∧ nmL ts = simL ts) ∨ (∃ q v bs us, s3 = pq q ∧ CpyC w (fun k => ok k ∨ w.heap.size ≤ k) op fl m0 m1 cp nm q v bs us wx ∧ nmL us = simL ts)
theorem RsT.blk {w : World} {ok : Nat → Prop} {b : Nat} {t : Tr} (h : RsT w ok b t) : ∃ cs t, w.heap[b]? = some (.cells cs t (0, 0)) := by
  obtain ⟨op, fl, rs, m0, m1, cp, nm, ts⟩ := t
  rw [RsT] at h
  obtain ⟨_, _, _, _, _, hb, _⟩ := h
  exact ⟨_, _, hb⟩
set_option maxRecDepth 100000 in
set_option maxHeartbeats 4000000 in
theorem simp_cat (N : Nat) (hN5 : N ≤ 50000) (IH : Hid (SimI N)) (op fl : Int) (rs : List Int) (m0 m1 cp : Int) (nm : ByteArray) (ts : List Tr) (b : Nat) (ok : Nat → Prop) (w : World) (hN : ncL ts ≤ N) (ho : op = 13 ∨ op = 18 ∨ op = 19)
    (hr : RsT w ok b ⟨op, fl, rs, m0, m1, cp, nm, ts⟩) (hf : fnT ⟨op, fl, rs, m0, m1, cp, nm, ts⟩) (hs : snL ts) :
    Calls Try.prog 32 #[.pointer (some ⟨b, 0, none⟩)] w (SimP w ok (simT ⟨op, fl, rs, m0, m1, cp, nm, ts⟩)) := by
  have he : Hid (simT ⟨op, fl, rs, m0, m1, cp, nm, ts⟩ = nmN op fl rs m0 m1 cp nm (simL ts)) := Lib.hid (by
    rw [simT]
    unfold simN
    rw [if_neg (show ¬ (op = 14 ∨ op = 15 ∨ op = 16) by omega), if_neg (show ¬ op = 17 by omega)])
  have HR0 := Lib.hid hr
  have HF0 := Lib.hid hf
  rw [RsT] at hr
  obtain ⟨_, vS, p3, vR, bs, hbk, hR, hS, hL⟩ := hr
  obtain ⟨AR, nR, cR, rfl⟩ : ∃ A n c, vR = .slice A n c := by obtain ⟨A, c, rfl, _⟩ := hR; exact ⟨_, _, _, rfl⟩
  clear hR
  rw [fnT] at hf
  obtain ⟨⟨_, _, hf0, hf1⟩, _, _, hfl⟩ := hf
  obtain ⟨A, cS, rfl, hSc, hSm, h3⟩ := hS
  have hbl : (ptrs bs).length = ts.length := by rw [List.length_map]; exact rsL_len ts bs hL
  rw [hbl] at hSc h3 hbk
  have hlen := len_nc ts
  have c0 : w.cell? ⟨b, 0, none⟩ = some (.int .u8 op) := (blk_cell hbk 0).trans rfl
  have c2 : w.cell? ⟨b, 2, none⟩ = some (.slice A ts.length cS) := (blk_cell hbk 2).trans rfl
  have hb0 : b < w.heap.size := lt_of_block hbk
  have hfit : ts.length ≤ 9223372036854775807 := by omega
  have hcap : cS ≤ 9223372036854775807 := by unfold maxLen at hSm; omega
  have HBK := Lib.hid hbk
  have H3 := Lib.hid h3
  have HL := Lib.hid hL
  have HFL := Lib.hid hfl
  have HSN := Lib.hid hs
  have HBL := Lib.hid hbl
  have HO := Lib.hid ho
  clear hbk h3 hL hfl hs hbl hSm
  have t13 : (op == 13) = true ∨ ((op == 13) = false ∧ (op == 18) = true) ∨ ((op == 13) = false ∧ (op == 18) = false ∧ (op == 19) = true) := by
    rcases ho with rfl | rfl | rfl
    · exact .inl rfl
    · exact .inr (.inl ⟨rfl, rfl⟩)
    · exact .inr (.inr ⟨rfl, rfl, rfl⟩)
  clear ho
  rcases t13 with t | ⟨t, t'⟩ | ⟨t, t', t''⟩
  all_goals
    go_enter Try.func32, Try.ntmps32
    go_wp2_with fail
    go_loopg [3, 32] (ts.length + 1) (fun g s3 s32 wx => ∃ i : Nat, s32 = .int .i64 i ∧ i ≤ ts.length ∧ CpyS w ok op fl m0 m1 cp nm b (ts.take i) s3 wx ∧ ts.length - i < g)
    case atStart => exact ⟨0, rfl, by omega, .inl ⟨rfl, Below.refl _ _, by rw [List.take_zero, nmL, simL]⟩, by omega⟩
    case round =>
      obtain ⟨i, rfl, hi, hcs, hg⟩ := hrel
      obtain ⟨g', rfl⟩ : ∃ g', gk = g' + 1 := ⟨gk - 1, by omega⟩
      clear c0 c2 
      by_cases hlt : i < ts.length
      · obtain ⟨x, hxi⟩ : ∃ x, ts[i]? = some x := ⟨_, List.getElem?_eq_getElem hlt⟩
        obtain ⟨c, hc, hx⟩ := rsL_get ts bs i x HL.out hxi
        obtain ⟨gg, oo, rfl, _, hcell⟩ := H3.out (by omega)
        have c3 := hcell i (pq c) (by rw [List.getElem?_map, hc]; rfl)
        have hfx := fnL_get HFL.out hxi
        have hsx := snL_get HSN.out hxi
        have hnx := ncL_get hxi
        have HXI := Lib.hid hxi
        have HCI := Lib.hid hc
        have hbw : Below w.heap.size w wr := by
          rcases hcs with ⟨_, h, _⟩ | ⟨_, _, _, _, _, h, _⟩
          · exact h
          · exact h.2.1
        have q0 := Gb.cellB hbw c3
        have HX := Lib.hid hx
        have CI := Lib.hid (IH.out x c (fun k => ok k ∧ k < w.heap.size) wr (by omega) (rsT_move (fun k hk hlt => ⟨hbw.block k hlt, hk, hlt⟩) x c hx) hfx hsx)
        have HBW := Lib.hid hbw
        have HCS := Lib.hid hcs
        have HCELL := Lib.hid hcell
        clear hxi hc hx hcell c3 hfx hsx hnx hbw hcs
        go_upto_region 12 with (go_at_call 32; refine CI.out.mono ?_; rintro e w1 ⟨s, x1, rfl, hb1, hx1, hfx1, hnm1⟩)
        have HB1 := Lib.hid hb1
        have HX1 := Lib.hid hx1
        have HFX := Lib.hid hfx1
        have HNM := Lib.hid hnm1
        clear hb1 hx1 hfx1 hnm1 CI q0
        rcases HCS.out with ⟨rfl, hbw, hnm⟩ | ⟨q, v, bs', us, rfl, hC, hnm⟩
        · have HX0 := Lib.hid (rsT_move (w1 := w1) (ok' := fun _ => True) (fun k hk hlt => ⟨(HB1.out.block k (Nat.lt_of_lt_of_le hlt hbw.size)).trans (hbw.block k hlt), trivial⟩) x c HX.out)
          by_cases hsc : s = c
          · subst hsc
            obtain rfl := rsT_inj x1 x s HX1.out HX0.out
            have hq1 := eql_same w1 b
            have hq2 := neq_same w1 s
            have hq3 := neq_same w1 b
            have HC1 : Hid (CpyS w ok op fl m0 m1 cp nm b (ts.take (i + 1)) (pq b) w1) := Lib.hid (.inl ⟨rfl, hbw.trans (HB1.out.mono hbw.size), by rw [take_snoc HXI.out, nmL_snoc, simL_snoc, hnm, HNM.out]⟩)
            clear hnm hbw
            go_wp2_with fail
            go_roundg g'
            case rel => exact ⟨i + 1, by go_num, by omega, HC1.out, by omega⟩
            case measure => omega
          · obtain ⟨_, _, hbs⟩ := HX1.out.blk
            obtain ⟨_, _, hbc⟩ := HX0.out.blk
            have hq1 := eql_same w1 b
            have hq2 := neq_other w1 hbs hbc hsc
            have hbk1 := (HB1.out.block b (Nat.lt_of_lt_of_le hb0 hbw.size)).trans ((hbw.block b hb0).trans HBK.out)
            have y0 : w1.cell? ⟨b, 0, none⟩ = some (.int .u8 op) := (blk_cell hbk1 0).trans rfl
            have y1 : w1.cell? ⟨b, 1, none⟩ = some (.int .u16 fl) := (blk_cell hbk1 1).trans rfl
            have y2 : w1.cell? ⟨b, 2, none⟩ = some (.slice (some ⟨gg, oo, none⟩) ts.length cS) := (blk_cell hbk1 2).trans rfl
            have y3 : w1.cell? ⟨b, 3, none⟩ = some (.pointer p3) := (blk_cell hbk1 3).trans rfl
            have y4 : w1.cell? ⟨b, 4, none⟩ = some (.slice AR nR cR) := (blk_cell hbk1 4).trans rfl
            have y5 : w1.cell? ⟨b, 5, none⟩ = some (.int .i32 0) := (blk_cell hbk1 5).trans rfl
            have y6 : w1.cell? ⟨b, 6, none⟩ = some (.int .i32 0) := (blk_cell hbk1 6).trans rfl
            have y7 : w1.cell? ⟨b, 7, none⟩ = some (.int .i64 m0) := (blk_cell hbk1 7).trans rfl
            have y8 : w1.cell? ⟨b, 8, none⟩ = some (.int .i64 m1) := (blk_cell hbk1 8).trans rfl
            have y9 : w1.cell? ⟨b, 9, none⟩ = some (.int .i64 cp) := (blk_cell hbk1 9).trans rfl
            have y10 : w1.cell? ⟨b, 10, none⟩ = some (.string nm) := (blk_cell hbk1 10).trans rfl
            have hbw1 : b < w1.heap.size := lt_of_block hbk1
            have HBK1 := Lib.hid hbk1
            have HNM0 := Lib.hid hnm
            have HBW1 := Lib.hid (hbw.trans (HB1.out.mono hbw.size))
            clear hbs hbc hbk1 hnm hbw
            have BA : Below w1.heap.size w1 (w1.alloc (.cells #[.int .u8 0, .int .u16 0, .slice none 0 0, .pointer none, .slice none 0 0, .int .i32 0, .int .i32 0, .int .i64 0, .int .i64 0, .int .i64 0, .string ⟨#[]⟩] 69)) := (Below.refl _ _).alloc (Nat.le_refl _) _
            have kq := Mem.blk_new w1 (.cells #[.int .u8 0, .int .u16 0, .slice none 0 0, .pointer none, .slice none 0 0, .int .i32 0, .int .i32 0, .int .i64 0, .int .i64 0, .int .i64 0, .string ⟨#[]⟩] 69)
            have hlq : w1.heap.size < (w1.alloc (.cells #[.int .u8 0, .int .u16 0, .slice none 0 0, .pointer none, .slice none 0 0, .int .i32 0, .int .i32 0, .int .i64 0, .int .i64 0, .int .i64 0, .string ⟨#[]⟩] 69)).heap.size := by simp
            go_upto_region 14 with fail
            generalize hq : w1.heap.size = q at *
            generalize w1.alloc (.cells #[.int .u8 0, .int .u16 0, .slice none 0 0, .pointer none, .slice none 0 0, .int .i32 0, .int .i32 0, .int .i64 0, .int .i64 0, .int .i64 0, .string ⟨#[]⟩] 69) = W2 at *
            replace y0 : W2.cell? ⟨b, 0, none⟩ = some (Value.int .u8 op) := (BA.cell (p := ⟨b, 0, none⟩) hbw1).trans y0
            replace y1 : W2.cell? ⟨b, 1, none⟩ = some (Value.int .u16 fl) := (BA.cell (p := ⟨b, 1, none⟩) hbw1).trans y1
            replace y2 : W2.cell? ⟨b, 2, none⟩ = some (Value.slice (some ⟨gg, oo, none⟩) ts.length cS) := (BA.cell (p := ⟨b, 2, none⟩) hbw1).trans y2
            replace y3 : W2.cell? ⟨b, 3, none⟩ = some (Value.pointer p3) := (BA.cell (p := ⟨b, 3, none⟩) hbw1).trans y3
            replace y4 : W2.cell? ⟨b, 4, none⟩ = some (Value.slice AR nR cR) := (BA.cell (p := ⟨b, 4, none⟩) hbw1).trans y4
            replace y5 : W2.cell? ⟨b, 5, none⟩ = some (Value.int .i32 0) := (BA.cell (p := ⟨b, 5, none⟩) hbw1).trans y5
            replace y6 : W2.cell? ⟨b, 6, none⟩ = some (Value.int .i32 0) := (BA.cell (p := ⟨b, 6, none⟩) hbw1).trans y6
            replace y7 : W2.cell? ⟨b, 7, none⟩ = some (Value.int .i64 m0) := (BA.cell (p := ⟨b, 7, none⟩) hbw1).trans y7
            replace y8 : W2.cell? ⟨b, 8, none⟩ = some (Value.int .i64 m1) := (BA.cell (p := ⟨b, 8, none⟩) hbw1).trans y8
            replace y9 : W2.cell? ⟨b, 9, none⟩ = some (Value.int .i64 cp) := (BA.cell (p := ⟨b, 9, none⟩) hbw1).trans y9
            replace y10 : W2.cell? ⟨b, 10, none⟩ = some (Value.string nm) := (BA.cell (p := ⟨b, 10, none⟩) hbw1).trans y10
            have z0 : W2.cell? ⟨q, 0, none⟩ = some (Value.int .u8 0) := (blk_cell kq 0).trans rfl
            have f0 := blk_frozen kq 0
            have z1 : W2.cell? ⟨q, 1, none⟩ = some (Value.int .u16 0) := (blk_cell kq 1).trans rfl
            have f1 := blk_frozen kq 1
            have z2 : W2.cell? ⟨q, 2, none⟩ = some (Value.slice none 0 0) := (blk_cell kq 2).trans rfl
            have f2 := blk_frozen kq 2
            have z3 : W2.cell? ⟨q, 3, none⟩ = some (Value.pointer none) := (blk_cell kq 3).trans rfl
            have f3 := blk_frozen kq 3
            have z4 : W2.cell? ⟨q, 4, none⟩ = some (Value.slice none 0 0) := (blk_cell kq 4).trans rfl
            have f4 := blk_frozen kq 4
            have z5 : W2.cell? ⟨q, 5, none⟩ = some (Value.int .i32 0) := (blk_cell kq 5).trans rfl
            have f5 := blk_frozen kq 5
            have z6 : W2.cell? ⟨q, 6, none⟩ = some (Value.int .i32 0) := (blk_cell kq 6).trans rfl
            have f6 := blk_frozen kq 6
            have z7 : W2.cell? ⟨q, 7, none⟩ = some (Value.int .i64 0) := (blk_cell kq 7).trans rfl
            have f7 := blk_frozen kq 7
            have z8 : W2.cell? ⟨q, 8, none⟩ = some (Value.int .i64 0) := (blk_cell kq 8).trans rfl
            have f8 := blk_frozen kq 8
            have z9 : W2.cell? ⟨q, 9, none⟩ = some (Value.int .i64 0) := (blk_cell kq 9).trans rfl
            have f9 := blk_frozen kq 9
            have z10 : W2.cell? ⟨q, 10, none⟩ = some (Value.string ⟨#[]⟩) := (blk_cell kq 10).trans rfl
            have f10 := blk_frozen kq 10
            have hne : q ≠ b := by omega
            have KQ := Lib.hid kq
            have HBA := Lib.hid BA
            clear kq BA
            go_upto_region 16 with fail
            have HB3 := Lib.hid (w12_below (HBW1.out.trans (HBA.out.mono (by have := HBW1.out.size; omega))) (q := q) (by have := HBW1.out.size; omega) op fl (.slice (some ⟨gg, oo, none⟩) ts.length cS) (.pointer p3) (.slice AR nR cR) m0 m1 cp nm)
            have HK3 := Lib.hid (w12_blk KQ.out op fl (.slice (some ⟨gg, oo, none⟩) ts.length cS) (.pointer p3) (.slice AR nR cR) m0 m1 cp nm)
            have HF3 := Lib.hid (fun k (hk : k ≠ q) => w12_far W2 hk op fl (.slice (some ⟨gg, oo, none⟩) ts.length cS) (.pointer p3) (.slice AR nR cR) m0 m1 cp nm)
            clear y0 y1 y2 y3 y4 y5 y6 y7 y8 y9 y10 z0 z1 z2 z3 z4 z5 z6 z7 z8 z9 z10 f0 f1 f2 f3 f4 f5 f6 f7 f8 f9 f10
            change Code.wp _ _ _ _ (w12 W2 q op fl (.slice (some ⟨gg, oo, none⟩) ts.length cS) (.pointer p3) (.slice AR nR cR) m0 m1 cp nm)
            generalize (w12 W2 q op fl (.slice (some ⟨gg, oo, none⟩) ts.length cS) (.pointer p3) (.slice AR nR cR) m0 m1 cp nm) = W3 at *
            have hl3 : q < W3.heap.size := lt_of_block HK3.out
            have y2 : W3.cell? ⟨b, 2, none⟩ = some (.slice (some ⟨gg, oo, none⟩) ts.length cS) := (blk_cell ((HB3.out.block b hb0).trans HBK.out) 2).trans rfl
            have hi0 : (0 : Int) ≤ (i : Int) := by omega
            have hic : (i : Int) ≤ (cS : Int) := by omega
            refine Mem.wp_region_midk 11 1 (fun w' => w'.cell? ⟨b, 2, none⟩ = some (.slice (some ⟨gg, oo, none⟩) ts.length cS)) (by kernel_rfl) (by kernel_rfl) y2 ?_
            simp only [List.take_succ_cons, List.take_zero, List.drop_succ_cons, List.drop_zero]
            iterate 11
              refine Mem.wpHeld_step (v := ?_) (by rfl) ?_ ?_
              rotate_left
              · intro w hSw; (try dsimp only at hSw); go_simp; try with_reducible rfl
              try simp only [Act.put, List.setIfInBounds_toArray, List.set_cons_zero, List.set_cons_succ]
            refine Mem.wpHeld_nil ?_
            simp only [Mem.midK]
            have BD : Below W3.heap.size W3 { W3 with drawn := W3.drawn + 1 } := (Below.refl _ _).drew
            refine wpOp_step rfl ?_
            intro K' hK
            rw [if_pos (by rfl)]
            refine wp_begin_op (.tmp 60) (.tmp 66) rfl (T := w.heap.size) (b := q) (m := i) (c := cS) (news := ptrs (bs.take i)) (by have := HBW1.out.size; omega) ((BD.block q hl3).trans HK3.out) rfl ⟨_, rfl⟩ rfl (some ⟨gg, oo, none⟩) (by simp [Act.eval]) (by rw [List.length_map, List.length_take, ← (List.length_map (f := fun b : Nat => Value.pointer (some ⟨b, 0, none⟩))), HBL.out]; omega) (fun _ => ⟨_, rfl, fun j xx hj => ?_⟩) (fun xx hxx => by obtain ⟨y, _, rfl⟩ := List.mem_map.1 hxx; exact ⟨_, rfl⟩) (by omega) ?_
            · have hj' : j < i ∧ (ptrs bs)[j]? = some xx := by
                have h1 : (ptrs (bs.take i))[j]? = some xx := hj
                rw [ptrs, List.map_take, List.getElem?_take] at h1
                by_cases h2 : j < i
                · rw [if_pos h2] at h1; exact ⟨h2, h1⟩
                · rw [if_neg h2] at h1; cases h1
              rw [Addr.add_lit]
              exact Gb.cellB BD (Gb.cellB HB3.out (HCELL.out j xx hj'.2))
            intro v' w' u' hk' hu' hL' hs' ho' hB' hor
            have hlt5 : (ptrs (bs.take i)).length = i := by
              have := HBL.out
              rw [List.length_map] at this
              rw [List.length_map, List.length_take]; omega
            obtain ⟨A', c', hv'⟩ := hL'.form
            rw [hlt5] at hv'
            subst hv'
            have z2' : w'.cell? ⟨q, 2, none⟩ = some (.slice (some ⟨gg, oo, none⟩) ts.length cS) := (blk_cell hk' 2).trans rfl
            have fz := blk_frozen hk' 2
            have HBT := Lib.hid (HB3.out.trans (BD.mono HB3.out.size))
            have y2' : w'.cell? ⟨b, 2, none⟩ = some (.slice (some ⟨gg, oo, none⟩) ts.length cS) := (blk_cell (((hB' w HBT.out).block b hb0).trans HBK.out) 2).trans rfl
            have hT1 := HBW1.out.size
            have hTr := HBW.out.size
            have hC5 : CpyC w (fun k => ok k ∨ w.heap.size ≤ k) op fl m0 m1 cp nm q (.slice A' i c') (bs.take i) (ts.take i) (w'.setCell ⟨q, 2, none⟩ (.slice A' i c')) := CpyC.begin (ok := ok) (by omega) HBT.out hl3 (rsL_take i ts bs HL.out) (fnL_take i HFL.out) (fun k hk => .inl hk) hk' hu' hL' hs' ho' hB' (hor.imp (fun h => h) (fun h => h))
            have HX5 : Hid (RsT (w'.setCell ⟨q, 2, none⟩ (.slice A' i c')) (fun k => (ok k ∨ w.heap.size ≤ k) ∧ k ≠ q ∧ some k ≠ (Value.slice A' i c').ownBlock) s x1) := Lib.hid (rsT_move (fun k hk hlt2 => ⟨(far1 w' (by omega) 2 _).trans ((ho' k (by show k < W3.heap.size; omega) (by omega)).trans ((BD.block k (by omega)).trans ((HF3.out k (by omega)).trans (HBA.out.block k (by omega))))), (by rcases hk with h | h; exact .inl h.1; exact .inr (by omega)), by omega, (by rcases hor with h | h <;> rw [h] <;> intro e <;> injection e with e; omega; (have e2 : k = W3.heap.size := e; omega))⟩) x1 s HX1.out)
            have HNMU : Hid (nmL (ts.take i) = simL (ts.take i)) := HNM0
            refine hK _ _ ⟨y2', ?_⟩
            clear hK K' hk' hu' hL' hs' ho' hB' hor y2 y2' hi0 hic BD HCELL
            have HNN := Lib.hid hlt5
            clear hlt5
            go_wp2_with fail
            refine NoPanic.normal ?_
            generalize w'.setCell ⟨q, 2, none⟩ (.slice A' i c') = W5 at *
            clear z2' fz
            have HC5 := Lib.hid hC5
            obtain ⟨hT5, hb5, hl5, u5, hu5, hk5, hL5, hR5, hf5⟩ := hC5
            have hbk5 := (hb5.block b hb0).trans HBK.out
            have hq3 := neq_other W5 hk5 hbk5 (show q ≠ b by omega)
            have z5 : W5.cell? ⟨q, 2, none⟩ = some (.slice A' i c') := (blk_cell hk5 2).trans rfl
            have HL5 := Lib.hid hL5; have HK5 := Lib.hid hk5; have HU5 := Lib.hid hu5
            clear hb5 hu5 hk5 hL5 hR5 hf5 hbk5
            go_wp2_with (at_builtin; refine wp_grow rfl (.tmp 77) (.tmp 79) rfl (T := w.heap.size) (b := q) (m := 1) (us := ptrs (bs.take i)) (news := [pq s]) (HL5.out.move (w1 := W5.alloc (.cells #[pq s] 46)) fun k hk _ => Below.heap_alloc _ _ _ (HL5.out.lt hl5 hk)) (by omega) (Mem.blk_old HK5.out _) rfl HU5.out rfl ⟨W5.heap.size, 0, none⟩ rfl rfl one_new (by simp [isPtr]) (by omega) (by rw [HNN.out]; omega) ?_; intro v' w' u' hk' hu' hL' hs' ho' hB' hor; obtain ⟨A8, c8, hv'⟩ := hL'.form; rw [List.length_append, HNN.out] at hv'; subst hv'; have z2' : w'.cell? ⟨q, 2, none⟩ = some (.slice A' i c') := (blk_cell hk' 2).trans rfl; have fz := blk_frozen hk' 2; have HS6 : Hid (CpyS w ok op fl m0 m1 cp nm b (ts.take (i + 1)) (pq q) (w'.setCell ⟨q, 2, none⟩ (.slice A8 (i + 1) c8))) := Lib.hid (.inr ⟨q, _, _, _, rfl, CpyC.app HC5.out HX5.out HFX.out hk' hu' hL' hs' ho' hB' hor, by rw [take_snoc HXI.out, nmL_snoc, simL_snoc, HNM.out, HNMU.out]⟩); clear hk' hu' hL' hs' ho' hB' hor)
            go_roundg g'
            case rel => exact ⟨i + 1, by go_num, by omega, HS6.out, by omega⟩
            case measure => omega
        · have hC5 := hC.below HB1.out
          have hwr := hC.2.2.1
          have hT5' := hC.1
          obtain ⟨u0, _, _, hL0, hR0, _⟩ := hC.2.2.2
          have hbl := rsL_len us bs' hR0
          have hul : us.length = i := by
            have h1 := congrArg List.length hnm
            rw [nmL_len, simL_len, List.length_take] at h1
            omega
          obtain ⟨A5, c5, hv5⟩ := hL0.form
          have hnn : (ptrs bs').length = i := by rw [List.length_map]; omega
          rw [hnn] at hv5
          subst hv5
          have HNN := Lib.hid hnn
          have HNMU := Lib.hid hnm
          have hTr := HBW.out.size
          have HX5 : Hid (RsT w1 (fun k => (ok k ∨ w.heap.size ≤ k) ∧ k ≠ q ∧ some k ≠ (Value.slice A5 i c5).ownBlock) s x1) := Lib.hid (rsT_move (fun k hk hlt2 => ⟨rfl, (by rcases hk with h | h; exact .inl h.1; exact .inr (by omega)), (by rcases hk with h | h <;> omega), fun e => by
            rcases hk with h | h
            · have := hL0.base hT5' e.symm; omega
            · have := hL0.lt hwr e.symm; omega⟩) x1 s HX1.out)
          have hq1 := eql_other w1 (hC5.2.2.2.choose_spec.2.1) ((hC5.2.1.block b hb0).trans HBK.out) (show q ≠ b by omega)
          clear hC hL0 hR0 hbl hul hnn hnm HCELL
          have HC5 := Lib.hid hC5
          obtain ⟨hT5, hb5, hl5, u5, hu5, hk5, hL5, hR5, hf5⟩ := hC5
          have hbk5 := (hb5.block b hb0).trans HBK.out
          have hq3 := neq_other w1 hk5 hbk5 (show q ≠ b by omega)
          have z5 : w1.cell? ⟨q, 2, none⟩ = some (.slice A5 i c5) := (blk_cell hk5 2).trans rfl
          have HL5 := Lib.hid hL5; have HK5 := Lib.hid hk5; have HU5 := Lib.hid hu5
          clear hb5 hu5 hk5 hL5 hR5 hf5 hbk5
          go_wp2_with (at_builtin; refine wp_grow rfl (.tmp 77) (.tmp 79) rfl (T := w.heap.size) (b := q) (m := 1) (us := ptrs bs') (news := [pq s]) (HL5.out.move (w1 := w1.alloc (.cells #[pq s] 46)) fun k hk _ => Below.heap_alloc _ _ _ (HL5.out.lt hl5 hk)) (by omega) (Mem.blk_old HK5.out _) rfl HU5.out rfl ⟨w1.heap.size, 0, none⟩ rfl rfl one_new (by simp [isPtr]) (by omega) (by rw [HNN.out]; omega) ?_; intro v' w' u' hk' hu' hL' hs' ho' hB' hor; obtain ⟨A8, c8, hv'⟩ := hL'.form; rw [List.length_append, HNN.out] at hv'; subst hv'; have z2' : w'.cell? ⟨q, 2, none⟩ = some (.slice A5 i c5) := (blk_cell hk' 2).trans rfl; have fz := blk_frozen hk' 2; have HS6 : Hid (CpyS w ok op fl m0 m1 cp nm b (ts.take (i + 1)) (pq q) (w'.setCell ⟨q, 2, none⟩ (.slice A8 (i + 1) c8))) := Lib.hid (.inr ⟨q, _, _, _, rfl, CpyC.app HC5.out HX5.out HFX.out hk' hu' hL' hs' ho' hB' hor, by rw [take_snoc HXI.out, nmL_snoc, simL_snoc, HNM.out, HNMU.out]⟩); clear hk' hu' hL' hs' ho' hB' hor)
          go_roundg g'
          case rel => exact ⟨i + 1, by go_num, by omega, HS6.out, by omega⟩
          case measure => omega
      · obtain rfl : i = ts.length := by omega
        rcases hcs with ⟨rfl, hbw, hnm⟩ | ⟨q, v, bs', us, rfl, hC, hnm⟩
        · rw [List.take_length] at hnm
          have HE : Hid (SimP w ok (nmN op fl rs m0 m1 cp nm (simL ts)) (.returned (pq b)) wr) := Lib.hid ⟨b, ⟨op, fl, rs, m0, m1, cp, nm, ts⟩, rfl, hbw, rsT_move (fun k hk hlt => ⟨hbw.block k hlt, .inl hk⟩) _ b HR0.out, HF0.out, by rw [nmT, hnm]⟩
          clear hbw hnm
          go_wp2_with fail
          go_ret
          rw [he.out]
          exact HE.out
        · rw [List.take_length] at hnm
          have hul : us.length = ts.length := by
            have h1 := congrArg List.length hnm
            rw [nmL_len, simL_len] at h1
            exact h1
          have hE := CpyC.done rs HO.out hf0 hf1 hC (by omega)
          rw [hnm] at hE
          have HE := Lib.hid hE
          clear hC hnm hE hul
          go_wp2_with fail
          go_ret
          rw [he.out]
          exact HE.out
end Go.Proofs.Ytholpemmakdglaa.PFnSySimplifyTwice
namespace Go.Proofs.Ytholpemmakdglaa.PFnSySimplifyTwice
open Go.RowKit Go.Proofs.YtholpemmakdglaaW.PrintWords Go.Proofs.YtholpemmakdglaaW.PrintLast Go.Proofs.YtholpemmakdglaaW.PrintMore
set_option linter.unusedVariables false
set_option linter.unusedSimpArgs false
theorem simplify_c : ∀ N, N ≤ 50000 → SimI N := by
  intro N
  induction N with
  | zero => intro _ t b ok w hN; have := ncT_pos t; omega
  | succ N ih =>
    intro hN5 t b ok w hN hr hf hs
    have IH := Lib.hid (ih (by omega))
    obtain ⟨op, fl, rs, m0, m1, cp, nm, ts⟩ := t
    rw [ncT] at hN
    have hs' := hs
    rw [snT] at hs'
    obtain ⟨f1, f2, f3, f4, f5⟩ := snd_facts hs'.1
    by_cases h12 : op ≤ 12
    · have hl := List.length_eq_zero_iff.1 (f3 h12)
      subst hl
      exact simp_leaf op fl rs m0 m1 cp nm b ok w h12 hr hf
    by_cases hc : op = 13 ∨ op = 18 ∨ op = 19
    · exact simp_cat N (by omega) IH op fl rs m0 m1 cp nm ts b ok w (by omega) hc hr hf hs'.2
    have hl := f4 (by omega) (by omega)
    match ts, hl with
    | [x], _ =>
      rw [ncL, ncL] at hN
      have hsx := hs'.2
      rw [snL] at hsx
      by_cases hl : op = 14 ∨ op = 15 ∨ op = 16
      · exact simp_loop N IH op fl rs m0 m1 cp nm x b ok w (by omega) hl hr hf hsx.1
      obtain rfl : op = 17 := by omega
      obtain ⟨g1, g2, g3, g4, g5⟩ := f5 rfl
      by_cases c1 : m1 = -1
      · subst c1
        by_cases c2 : m0 = 0 ∨ m0 = 1
        · exact simp_few N IH fl rs m0 cp nm x b ok w (by omega) c2 hr hf hsx.1
        · exact simp_plus N IH fl rs m0 cp nm x b ok w (by omega) (by omega) g2 hr hf hsx.1
      by_cases c3 : m0 = 0
      · subst c3
        by_cases c4 : m1 = 0
        · subst c4
          exact simp_zero N IH fl rs cp nm x b ok w (by omega) hr hf hsx.1
        · exact simp_opts N IH fl rs m1 cp nm x b ok w (by omega) (by omega) g4 hr hf hsx.1
      by_cases c5 : m0 = m1
      · subst c5
        by_cases c6 : m0 = 1
        · subst c6
          exact simp_one N IH fl rs cp nm x b ok w (by omega) hr hf hsx.1
        · exact simp_copies N IH fl rs m0 cp nm x b ok w (by omega) (by omega) g2 hr hf hsx.1
      · exact simp_range N IH fl rs m0 m1 cp nm x b ok w (by omega) (by omega) (by omega) g4 hr hf hsx.1
end Go.Proofs.Ytholpemmakdglaa.PFnSySimplifyTwice
