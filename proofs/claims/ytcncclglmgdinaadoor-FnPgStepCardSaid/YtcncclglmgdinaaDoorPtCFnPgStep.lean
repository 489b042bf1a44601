/- The threads' machine in memory: a queue, the pool, threads. The threads' machine: a thread out of the pool, or a new one. The threads' machine: the walk of 'alloc'. The threads' machine: what 'add' has done from one state to another. The threads' machine: an instruction that waits is put into the queue with a thread. -/
import Derived.Test.YtcncclglmgdinaaDoorPtAFnPgStep
import Derived.Test.YtcncclglmgdinaaDoorPsA2FnPgStep
import Derived.ScopeJumps
namespace Go.Proofs.YtcncclglmgdinaaDoor.Ps
open Go.RowKit Mem Go.Proofs.YtcncclglmgdinaaDoor.PFnPgStep Go.Proofs.YtcncclglmgdinaaDoorW.PrintWords Go.Proofs.YtcncclglmgdinaaDoorW.PrintLast Go.Proofs.YtcncclglmgdinaaDoorW.PrintMore
set_option linter.unusedVariables false
/-- A queue's two blocks: the places of the instructions, and the entries. -/
structure QOk (w : World) (n s d : Nat) (l : List Nat) (ths : List Value) : Prop where
 sp : ∃ S : Array Value, w.heap[s]? = some (.cells S 75 (0, 0)) ∧ S.size = n ∧ (∀ i, i < n → ∃ x : Nat, S[i]? = some (.int .u32 x) ∧ x < 4294967296) ∧ ∀ j, j < l.length → S[l.getD j 0]? = some (.int .u32 (j : Nat))
 de : ∃ E : Array Value, w.heap[d]? = some (.cells E 135 (0, 0)) ∧ E.size = n * 2 ∧ ∀ j, j < l.length → E[j * 2]? = some (.int .u32 (l.getD j 0 : Nat)) ∧ E[j * 2 + 1]? = some (ths.getD j (.pointer none))
 lt : ths.length = l.length
 le : l.length ≤ n
 pc : ∀ x ∈ l, x < n
section
variable {w w' : World} {n s d : Nat} {l : List Nat} {ths : List Value}
theorem QOk.keep (h : QOk w n s d l ths) (hs : w'.heap[s]? = w.heap[s]?) (hd : w'.heap[d]? = w.heap[d]?) : QOk w' n s d l ths := by
 obtain ⟨⟨S, h1, h2⟩, ⟨E, h3, h4⟩, h5, h6, h7⟩ := h
 exact ⟨⟨S, hs.trans h1, h2⟩, ⟨E, hd.trans h3, h4⟩, h5, h6, h7⟩
theorem QOk.ne (h : QOk w n s d l ths) : s ≠ d := fun e => by
 obtain ⟨⟨S, h1, _⟩, ⟨E, h3, _⟩, _⟩ := h
 rw [e, h3] at h1
 simp only [Option.some.injEq, Obj.cells.injEq] at h1
 exact absurd h1.2.1 (by decide)
theorem getD_mem {l : List Nat} {j : Nat} (h : j < l.length) : l.getD j 0 ∈ l := by
 rw [List.getD_eq_getElem?_getD, List.getElem?_eq_getElem h]
 exact List.getElem_mem h
theorem QOk.test (h : QOk w n s d l ths) {pc : Nat} (hp : pc < n) : ∃ x : Nat, x < 4294967296 ∧ w.cell? ⟨s, pc, none⟩ = some (.int .u32 x) ∧ w.frozen? ⟨s, pc, none⟩ = false ∧ (x < l.length → w.cell? ⟨d, x * 2, none⟩ = some (.int .u32 (l.getD x 0 : Nat))) ∧ (pc ∈ l ↔ x < l.length ∧ l.getD x 0 = pc) := by
 obtain ⟨⟨S, h1, h2, h2a, h2b⟩, ⟨E, h3, h4, h4a⟩, h5, h6, h7⟩ := h
 obtain ⟨x, hx, hx2⟩ := h2a pc hp
 refine ⟨x, hx2, by rw [cell_of_row w s pc _ _ _ h1]; exact hx, by simp [World.frozen?, h1], fun hl => by rw [cell_of_row w d _ _ _ _ h3]; exact (h4a x hl).1, fun hm => ?_, fun hh => hh.2 ▸ getD_mem hh.1⟩
 obtain ⟨j, hj, e⟩ := List.getElem_of_mem hm
 have := h2b j hj
 rw [List.getD_eq_getElem?_getD, List.getElem?_eq_getElem hj, Option.getD_some, e, hx] at this
 have hxj : x = j := by
  simp only [Option.some.injEq, Value.int.injEq, true_and] at this
  omega
 subst hxj
 exact ⟨hj, by rw [List.getD_eq_getElem?_getD, List.getElem?_eq_getElem hj]; exact e⟩
theorem QOk.dcell (h : QOk w n s d l ths) {j : Nat} (hj : j < n) (i : Nat) (hi : i < 2) : (∃ v, w.cell? ⟨d, j * 2 + i, none⟩ = some v) ∧ w.frozen? ⟨d, j * 2 + i, none⟩ = false := by
 obtain ⟨_, ⟨E, h3, h4, _⟩, _⟩ := h
 exact ⟨⟨E[j * 2 + i]'(by omega), by rw [cell_of_row w d _ _ _ _ h3]; exact Array.getElem?_eq_getElem (by omega)⟩, by simp [World.frozen?, h3]⟩
theorem getD_app {α : Type} {l : List α} {x a : α} {j : Nat} (hj : j < (l ++ [x]).length) : (l ++ [x]).getD j a = if j < l.length then l.getD j a else x := by
 simp only [List.getD_eq_getElem?_getD]
 split
 ·rename_i h; rw [List.getElem?_append_left h]
 ·rename_i h
  have : j = l.length := by simp at hj; omega
  subst this
  simp
theorem QOk.push (h : QOk w n s d l ths) (hn : n ≤ 4294967295) {pc : Nat} (hp : pc < n) (hm : pc ∉ l) (hl : l.length < n) :
  QOk (((w.setCell ⟨d, l.length * 2 + 1, none⟩ (.pointer none)).setCell ⟨d, l.length * 2, none⟩ (.int .u32 pc)).setCell ⟨s, pc, none⟩ (.int .u32 (l.length : Nat))) n s d (l ++ [pc]) (ths ++ [.pointer none]) := by
 have hne := h.ne
 obtain ⟨⟨S, h1, h2, h2a, h2b⟩, ⟨E, h3, h4, h4a⟩, h5, h6, h7⟩ := h
 have d1 := heap_setCell_same w d (l.length * 2 + 1) E _ (.pointer none) h3
 have d2 := heap_setCell_same _ d (l.length * 2) _ _ (.int .u32 pc) d1
 have d3 := Mem.blk_set_ne d2 (p := ⟨s, pc, none⟩) (fun e => hne e.symm) (.int .u32 (l.length : Nat))
 have s1 := Mem.blk_set_ne h1 (p := ⟨d, l.length * 2 + 1, none⟩) hne (.pointer none)
 have s2 := Mem.blk_set_ne s1 (p := ⟨d, l.length * 2, none⟩) hne (.int .u32 pc)
 have s3 := heap_setCell_same _ s pc _ _ (.int .u32 (l.length : Nat)) s2
 have hln : n ≤ n := Nat.le_refl _
 refine ⟨⟨_, s3, by simpa using h2, fun i hi => ?_, fun j hj => ?_⟩, ⟨_, d3, by simpa using h4, fun j hj => ?_⟩, by simp [h5], by simp; omega, fun x hx => ?_⟩
 ·rw [Array.getElem?_setIfInBounds]
  split
  ·exact ⟨l.length, by rw [if_pos (by omega)], by omega⟩
  ·exact h2a i hi
 ·rw [getD_app hj]
  split
  ·rename_i hlt
   rw [Array.getElem?_setIfInBounds, if_neg (fun e : pc = l.getD j 0 => hm (by rw [e]; exact getD_mem hlt))]
   exact h2b j hlt
  ·have : j = l.length := by simp at hj; omega
   rw [Array.getElem?_setIfInBounds, if_pos rfl, if_pos (by omega), this]
 ·have hj' : j ≤ l.length := by simp at hj; omega
  rw [getD_app hj, getD_app (l := ths) (by simp at hj ⊢; omega)]
  by_cases hlt : j < l.length
  ·rw [if_pos hlt, if_pos (by omega)]
   obtain ⟨a1, a2⟩ := h4a j hlt
   constructor
   ·rw [Array.getElem?_setIfInBounds, if_neg (by omega), Array.getElem?_setIfInBounds, if_neg (by omega)]; exact a1
   ·rw [Array.getElem?_setIfInBounds, if_neg (by omega), Array.getElem?_setIfInBounds, if_neg (by omega)]; exact a2
  ·have : j = l.length := by omega
   subst this
   rw [if_neg (by omega), if_neg (by omega)]
   constructor
   ·rw [Array.getElem?_setIfInBounds, if_pos rfl, if_pos (by simp; omega)]
   ·rw [Array.getElem?_setIfInBounds, if_neg (by omega), Array.getElem?_setIfInBounds, if_pos rfl, if_pos (by omega)]
 ·rcases List.mem_append.1 hx with hx | hx
  ·exact h7 x hx
  ·simp at hx; omega
theorem QOk.put (h : QOk w n s d l ths) {k : Nat} (hk : k < l.length) (v : Value) : QOk (w.setCell ⟨d, k * 2 + 1, none⟩ v) n s d l (ths.set k v) := by
 have hne := h.ne
 obtain ⟨⟨S, h1, h2⟩, ⟨E, h3, h4, h4a⟩, h5, h6, h7⟩ := h
 refine ⟨⟨S, Mem.blk_set_ne h1 (p := ⟨d, k * 2 + 1, none⟩) hne v, h2⟩, ⟨_, heap_setCell_same w d (k * 2 + 1) E _ v h3, by simpa using h4, fun j hj => ?_⟩, by simp [h5], h6, h7⟩
 obtain ⟨a1, a2⟩ := h4a j hj
 constructor
 ·rw [Array.getElem?_setIfInBounds, if_neg (by omega)]; exact a1
 ·by_cases e : j = k
  ·subst e
   rw [Array.getElem?_setIfInBounds, if_pos rfl, if_pos (by omega)]
   simp [List.getD_eq_getElem?_getD, h5, hk]
  ·rw [Array.getElem?_setIfInBounds, if_neg (by omega), a2]
   simp only [List.getD_eq_getElem?_getD]
   rw [List.getElem?_set_ne (fun e' => e e'.symm)]
end
/-- A thread; it has no room for captures. -/
def TH (w : World) (b : Nat) (iv : Option Addr) : Prop := ∃ A c, w.heap[b]? = some (.cells #[.pointer iv, .slice A 0 c] 138 (0, 0))
def ptrs (P : List Nat) : List Value := P.map fun b => Value.pointer (some ⟨b, 0, none⟩)
theorem own_pop {w : World} {B n : Nat} {e : TypeId} {g cap : Nat} {xs : List Value} {x : Value} (h : w.ownsRow B e 1 (.slice (some ⟨g, 0, none⟩) (n + 1) cap) (n + 1) (xs ++ [x])) (hn : xs.length = n) :
  w.ownsRow B e 1 (.slice (some ⟨g, 0, none⟩) n cap) n xs := by
 obtain ⟨h1, h2⟩ := h
 refine ⟨by omega, Or.inr ?_⟩
 rcases h2 with ⟨h2, _⟩ | ⟨g', c', cur, hv, hg, hh, hl, hm, hs, ht⟩
 ·cases h2
 ·simp only [Value.slice.injEq, Option.some.injEq, Addr.mk.injEq, and_true, true_and] at hv
  obtain ⟨rfl, rfl⟩ := hv
  refine ⟨g, cap, cur, rfl, hg, hh, by omega, hm, hs, ?_⟩
  have := congrArg (List.take n) ht
  rw [List.take_take, show min n ((n + 1) * 1) = n * 1 by omega, List.take_left' hn] at this
  exact this
/-- The machine in the block bM, one of its queues (its cells from qo on) and its pool. -/
structure MS (w0 w : World) (B bM bP qo n s d cm : Nat) (cs : Array Value) (pv : Value) (l : List Nat) (ths : List Value) (P : List Nat) : Prop where
 blk : w.heap[bM]? = some (.cells cs 94 (0, 0))
 sz : cs.size = 14
 f1 : cs[1]? = some (.pointer (some ⟨bP, 0, none⟩))
 fs : cs[qo]? = some (.slice (some ⟨s, 0, none⟩) n n)
 fd : cs[qo + 1]? = some (.slice (some ⟨d, 0, none⟩) l.length n)
 fp : cs[6]? = some pv
 fc : ∃ Ac, cs[8]? = some (.slice Ac 0 cm)
 q : QOk w n s d l ths
 pool : w.ownsRow B 126 1 pv P.length (ptrs P)
 th : ∀ b ∈ P, ∃ iv, TH w b iv
 bel : Below B w0 w
 gM : B ≤ bM
 gs : B ≤ s
 gd : B ≤ d
 gp : ∀ b ∈ P, B ≤ b
 qo : qo = 2 ∨ qo = 4
/-- Blocks that are none of the queue's, and no thread at hand, stay as they are. -/
def FrA (s d : Nat) (AV : List Nat) (w w' : World) : Prop := ∀ (b : Nat) (cs : Array Value) (t : TypeId), w.heap[b]? = some (.cells cs t (0, 0)) → t ≠ 94 → b ≠ s → b ≠ d → t ≠ 126 → b ∉ AV → w'.heap[b]? = some (.cells cs t (0, 0))
theorem FrA.refl (s d : Nat) (AV : List Nat) (w : World) : FrA s d AV w w := fun _ _ _ h _ _ _ _ _ => h
theorem FrA.trans {s d : Nat} {AV AV' : List Nat} {a b c : World} (h : FrA s d AV a b) (k : FrA s d AV' b c) (hs : ∀ x ∈ AV', x ∈ AV ∨ a.heap.size ≤ x) : FrA s d AV a c := fun x cs t hx h1 h2 h3 h4 h5 =>
 k x cs t (h x cs t hx h1 h2 h3 h4 h5) h1 h2 h3 h4 (fun hm => by
  rcases hs x hm with h6 | h6
  ·exact h5 h6
  ·have := lt_of_block hx; omega)
theorem FrA.below {s d : Nat} {AV : List Nat} {w w' : World} (hb : Below w.heap.size w w') : FrA s d AV w w' := fun b cs t h _ _ _ _ _ => by rw [hb.block b (lt_of_block h)]; exact h
theorem FrA.set {s d : Nat} {AV : List Nat} {w : World} {p : Addr} {cs : Array Value} {t : TypeId} (hp : w.heap[p.block]? = some (.cells cs t (0, 0))) (ht : t = 94 ∨ t = 126 ∨ p.block = s ∨ p.block = d ∨ p.block ∈ AV) (u : Value) : FrA s d AV w (w.setCell p u) := fun b cs' t' h h1 h2 h3 h4 h5 => by
 refine Mem.blk_set_ne h (fun e => ?_) u
 subst e
 rw [hp] at h
 simp only [Option.some.injEq, Obj.cells.injEq] at h
 rcases ht with ht | ht | ht | ht | ht
 ·exact h1 (h.2.1 ▸ ht)
 ·exact h4 (h.2.1 ▸ ht)
 ·exact h2 ht
 ·exact h3 ht
 ·exact h5 ht
end Go.Proofs.YtcncclglmgdinaaDoor.Ps
namespace Go.Proofs.YtcncclglmgdinaaDoor.Ps
open Go.RowKit Mem Go.Proofs.YtcncclglmgdinaaDoor.PFnPgStep Go.Proofs.YtcncclglmgdinaaDoorW.PrintWords Go.Proofs.YtcncclglmgdinaaDoorW.PrintLast Go.Proofs.YtcncclglmgdinaaDoorW.PrintMore
set_option linter.unusedVariables false
theorem cell_at {w : World} {b : Nat} {cs : Array Value} {t : TypeId} (h : w.heap[b]? = some (.cells cs t (0, 0))) {i : Nat} {v : Value} (hv : cs[i]? = some v) : w.cell? ⟨b, i, none⟩ = some v := by
 rw [cell_of_row w b i _ _ _ h]; exact hv
theorem fz_at {w : World} {b : Nat} {cs : Array Value} {t : TypeId} (h : w.heap[b]? = some (.cells cs t (0, 0))) (i : Nat) : w.frozen? ⟨b, i, none⟩ = false := by
 simp [World.frozen?, h]
theorem ne_ty {w : World} {b b' : Nat} {cs cs' : Array Value} {t t' : TypeId} (h : w.heap[b]? = some (.cells cs t (0, 0))) (h' : w.heap[b']? = some (.cells cs' t' (0, 0))) (ht : t ≠ t') : b ≠ b' := fun e => by
 subst e
 rw [h] at h'
 simp only [Option.some.injEq, Obj.cells.injEq] at h'
 exact ht h'.2.1
theorem ptrs_app (P : List Nat) (b : Nat) : ptrs (P ++ [b]) = ptrs P ++ [.pointer (some ⟨b, 0, none⟩)] := by simp [ptrs]
theorem ptrs_len (P : List Nat) : (ptrs P).length = P.length := by simp [ptrs]
section
variable {w0 w : World} {B bM bP qo n s d cm : Nat} {cs : Array Value} {pv : Value} {l : List Nat} {ths : List Value} {P : List Nat}
theorem MS.sne (h : MS w0 w B bM bP qo n s d cm cs pv l ths P) : s ≠ bM ∧ d ≠ bM := by
 obtain ⟨⟨S, h1, _⟩, ⟨E, h3, _⟩, _⟩ := h.q
 exact ⟨ne_ty h1 h.blk (by decide), ne_ty h3 h.blk (by decide)⟩
/-- The pool's own cell is written: one thread less. -/
theorem MS.pop {tb g cap : Nat} (h : MS w0 w B bM bP qo n s d cm cs (.slice (some ⟨g, 0, none⟩) (P.length + 1) cap) l ths (P ++ [tb])) :
  w.cell? ⟨g, P.length, none⟩ = some (.pointer (some ⟨tb, 0, none⟩)) ∧ MS w0 (w.setCell ⟨bM, 6, none⟩ (.slice (some ⟨g, 0, none⟩) P.length cap)) B bM bP qo n s d cm (cs.setIfInBounds 6 (.slice (some ⟨g, 0, none⟩) P.length cap)) (.slice (some ⟨g, 0, none⟩) P.length cap) l ths P ∧ FrA s d (P ++ [tb]) w (w.setCell ⟨bM, 6, none⟩ (.slice (some ⟨g, 0, none⟩) P.length cap)) := by
 have hp := h.pool
 rw [ptrs_app, List.length_append, List.length_singleton] at hp
 have hpop := own_pop hp (ptrs_len P)
 have hsz := h.sz
 have hqo := h.qo
 refine ⟨?_, ⟨heap_setCell_same w bM 6 _ _ _ h.blk, by simpa using hsz, ?_, ?_, ?_, ?_, ?_, h.q.keep ?_ ?_, ?_, fun b hb => ?_, h.bel.setCell h.gM _, h.gM, h.gs, h.gd, fun b hb => h.gp b (by simp [hb]), h.qo⟩, FrA.set (p := ⟨bM, 6, none⟩) h.blk (Or.inl rfl) _⟩
 ·have := hp.cells (g := g) rfl P.length (.pointer (some ⟨tb, 0, none⟩)) (by rw [List.getElem?_append_right (by rw [ptrs_len]; omega), ptrs_len, Nat.sub_self]; rfl)
  rwa [Addr.add_lit, Nat.zero_add] at this
 ·rw [Array.getElem?_setIfInBounds, if_neg (by omega)]; exact h.f1
 ·rw [Array.getElem?_setIfInBounds, if_neg (by omega)]; exact h.fs
 ·rw [Array.getElem?_setIfInBounds, if_neg (by omega)]; exact h.fd
 ·rw [Array.getElem?_setIfInBounds, if_pos rfl, if_pos (by omega)]
 ·rw [Array.getElem?_setIfInBounds, if_neg (by omega)]; exact h.fc
 ·obtain ⟨S, h1, _⟩ := h.q.sp
  rw [Mem.blk_set_ne h1 (p := ⟨bM, 6, none⟩) h.sne.1 _, h1]
 ·obtain ⟨E, h1, _⟩ := h.q.de
  rw [Mem.blk_set_ne h1 (p := ⟨bM, 6, none⟩) h.sne.2 _, h1]
 ·exact ownsRow_setCell_other hpop (fun e => Mem.own_apart hpop h.blk (by decide) e.symm) _
 ·obtain ⟨iv, A, c, ht⟩ := h.th b (by simp [hb])
  exact ⟨iv, A, c, Mem.blk_set_ne ht (p := ⟨bM, 6, none⟩) (ne_ty ht h.blk (by decide)) _⟩
/-- Below the machine's blocks all stays; a thread that is none of the pool's is written. -/
theorem MS.thr (h : MS w0 w B bM bP qo n s d cm cs pv l ths P) {tb : Nat} {iv : Option Addr} (ht : TH w tb iv) (hm : tb ∉ P) (hB : B ≤ tb) (iv' : Option Addr) :
  MS w0 (w.setCell ⟨tb, 0, none⟩ (.pointer iv')) B bM bP qo n s d cm cs pv l ths P ∧ TH (w.setCell ⟨tb, 0, none⟩ (.pointer iv')) tb iv' := by
 obtain ⟨A, c, ht⟩ := ht
 refine ⟨⟨Mem.blk_set_ne h.blk (p := ⟨tb, 0, none⟩) (ne_ty h.blk ht (by decide)) _, h.sz, h.f1, h.fs, h.fd, h.fp, h.fc, h.q.keep ?_ ?_, ?_, fun b hb => ?_, h.bel.setCell hB _, h.gM, h.gs, h.gd, h.gp, h.qo⟩, ⟨A, c, ?_⟩⟩
 ·obtain ⟨S, h1, _⟩ := h.q.sp
  rw [Mem.blk_set_ne h1 (p := ⟨tb, 0, none⟩) (ne_ty h1 ht (by decide)) _, h1]
 ·obtain ⟨E, h1, _⟩ := h.q.de
  rw [Mem.blk_set_ne h1 (p := ⟨tb, 0, none⟩) (ne_ty h1 ht (by decide)) _, h1]
 ·exact ownsRow_setCell_other h.pool (fun e => Mem.own_apart h.pool ht (by decide) e.symm) _
 ·obtain ⟨iv2, A2, c2, ht2⟩ := h.th b hb
  exact ⟨iv2, A2, c2, Mem.blk_set_ne ht2 (p := ⟨tb, 0, none⟩) (fun e => hm (by have e : b = tb := e; rw [← e]; exact hb)) _⟩
 ·have := heap_setCell_same w tb 0 _ _ (.pointer iv') ht
  exact this
theorem MS.thw (h : MS w0 w B bM bP qo n s d cm cs pv l ths P) {tb : Nat} {ct : Array Value} (ht : w.heap[tb]? = some (.cells ct 138 (0, 0))) (hm : tb ∉ P) (hB : B ≤ tb) (i : Nat) (v : Value) :
  MS w0 (w.setCell ⟨tb, i, none⟩ v) B bM bP qo n s d cm cs pv l ths P := by
 refine ⟨Mem.blk_set_ne h.blk (p := ⟨tb, i, none⟩) (ne_ty h.blk ht (by decide)) _, h.sz, h.f1, h.fs, h.fd, h.fp, h.fc, h.q.keep ?_ ?_, ?_, fun b hb => ?_, h.bel.setCell hB _, h.gM, h.gs, h.gd, h.gp, h.qo⟩
 ·obtain ⟨S, h1, _⟩ := h.q.sp
  rw [Mem.blk_set_ne h1 (p := ⟨tb, i, none⟩) (ne_ty h1 ht (by decide)) _, h1]
 ·obtain ⟨E, h1, _⟩ := h.q.de
  rw [Mem.blk_set_ne h1 (p := ⟨tb, i, none⟩) (ne_ty h1 ht (by decide)) _, h1]
 ·exact ownsRow_setCell_other h.pool (fun e => Mem.own_apart h.pool ht (by decide) e.symm) _
 ·obtain ⟨iv2, A2, c2, ht2⟩ := h.th b hb
  exact ⟨iv2, A2, c2, Mem.blk_set_ne ht2 (p := ⟨tb, i, none⟩) (fun e => hm (by have e : b = tb := e; rw [← e]; exact hb)) _⟩
/-- More memory changes nothing of the machine. -/
theorem MS.below {w' : World} (h : MS w0 w B bM bP qo n s d cm cs pv l ths P) (hb : Below w.heap.size w w') : MS w0 w' B bM bP qo n s d cm cs pv l ths P := by
 have hB : B ≤ w.heap.size := Nat.le_trans h.gM (Nat.le_of_lt (lt_of_block h.blk))
 refine ⟨by rw [hb.block _ (lt_of_block h.blk)]; exact h.blk, h.sz, h.f1, h.fs, h.fd, h.fp, h.fc, h.q.keep ?_ ?_, own_keep h.pool fun b hb' => hb.block b (World.ownsRow.lt h.pool b hb').2, fun b hb' => ?_, h.bel.trans (hb.mono hB), h.gM, h.gs, h.gd, h.gp, h.qo⟩
 ·obtain ⟨S, h1, _⟩ := h.q.sp
  exact hb.block _ (lt_of_block h1)
 ·obtain ⟨E, h1, _⟩ := h.q.de
  exact hb.block _ (lt_of_block h1)
 ·obtain ⟨iv, A, c, ht⟩ := h.th b hb'
  exact ⟨iv, A, c, by rw [hb.block _ (lt_of_block ht)]; exact ht⟩
end
end Go.Proofs.YtcncclglmgdinaaDoor.Ps
namespace Go.Proofs.YtcncclglmgdinaaDoor.Ps
open Go.RowKit Mem Go.Proofs.YtcncclglmgdinaaDoor.PFnPgStep Go.Proofs.YtcncclglmgdinaaDoorW.PrintWords Go.Proofs.YtcncclglmgdinaaDoorW.PrintLast Go.Proofs.YtcncclglmgdinaaDoorW.PrintMore
set_option linter.unusedVariables false
theorem mk_ints (n c : Nat) (hn : n ≤ c) (hc : c ≤ 1000000) : ∃ C : Array Value, C.size = c ∧ ∀ w : World, (Instr.makeSlice 25 (.int .i64 n) (.int .i64 c)).run Tryd.prog w = .ok (.slice (some ⟨w.heap.size, 0, none⟩) n c) (w.alloc (.cells C 3)) := by
 have hi : (Tryd.prog.info? 3).map (fun i => (i.zero, i.size, i.bytes)) = some (some (.int .i64 0), 1, 8) := by kernel_rfl
 obtain ⟨i0, hi0, hz0, hz1, hz2⟩ := info_parts hi
 refine ⟨madeCells (Value.int .i64 0).cells (c * 1), by simp [madeCells], fun w => ?_⟩
 have h := run_make w 25 3 i0 _ Tryd.underlying25 hi0 hz0 .i64 .i64 n c (by omega) (by omega) (by rw [hz2]; omega) (by omega)
 rw [hz1] at h
 simpa using h
section
variable {w0 : World} {B bM bP qo n s d cm : Nat} {l : List Nat} {ths : List Value}
set_option maxRecDepth 100000 in
set_option maxHeartbeats 4000000 in
theorem alloc_c (hcm : cm ≤ 1000000) (iv : Addr) (w : World) (cs : Array Value) (pv : Value) (P : List Nat) (h : MS w0 w B bM bP qo n s d cm cs pv l ths P) (hN : P.Nodup) (hP : P.length ≤ 1000000) :
  Calls Tryd.prog 76 #[.pointer (some ⟨bM, 0, none⟩), .pointer (some iv)] w fun e w' => ∃ tb cs' pv' P', e = .returned (.pointer (some ⟨tb, 0, none⟩)) ∧ MS w0 w' B bM bP qo n s d cm cs' pv' l ths P' ∧ TH w' tb (some iv) ∧
   B ≤ tb ∧ (∀ x ∈ P', x ∈ P) ∧ (tb ∈ P ∨ w.heap.size ≤ tb) ∧ (P' ++ [tb]).Nodup ∧ FrA s d P w w' ∧ (∀ i, i ≠ 6 → cs'[i]? = cs[i]?) ∧ P'.length ≤ P.length ∧ w.heap.size ≤ w'.heap.size := by
 rcases List.eq_nil_or_concat P with hnil | ⟨P', tb, hcc⟩
 ·subst hnil
  obtain ⟨Ap, cp, hpv⟩ := own_slice h.pool
  subst hpv
  have k6 := cell_at h.blk h.fp
  obtain ⟨Ac, hcc⟩ := h.fc
  have k8 := cell_at h.blk hcc
  obtain ⟨C, hC, hmk0⟩ := mk_ints 0 cm (by omega) hcm
  have hmk : ∀ w : World, Sem.run Tryd.prog (Instr.makeSlice 25 (.int .i64 0) (.int .i64 cm)) w = .ok (.slice (some ⟨w.heap.size, 0, none⟩) 0 cm) (w.alloc (.cells C 3)) := hmk0
  clear hmk0
  have hB : B ≤ w.heap.size := Nat.le_trans h.gM (Nat.le_of_lt (lt_of_block h.blk))
  have H := Lib.hid h
  clear h hcc
  go_enter Tryd.func76, Tryd.ntmps76
  go_upto_region 7 with fail
  have hb1 : Below w.heap.size w (w.alloc (.cells #[.pointer none, .slice none 0 0] 138)) := (Below.refl _ _).alloc (Nat.le_refl _) _
  have HM1 := Lib.hid (H.out.below hb1)
  have hT := Mem.blk_new w (.cells #[.pointer none, .slice none 0 0] 138)
  have HB1 := Lib.hid hb1
  clear k6 k8 hb1
  generalize w.alloc (.cells #[.pointer none, .slice none 0 0] 138) = w1 at *
  obtain ⟨Ac, hcc⟩ := HM1.out.fc
  have k8 := cell_at HM1.out.blk hcc
  have t1 : w1.cell? ⟨w.heap.size, 1, none⟩ = some (.slice none 0 0) := cell_at hT rfl
  have z1 := fz_at hT 1
  have HT1 := Lib.hid hT
  have hz1 : ∀ o : Obj, (w1.alloc o).drew.frozen? ⟨w.heap.size, 1, none⟩ = false := fun o => fz_at (Mem.blk_old HT1.out o) 1
  clear hT hcc
  refine Mem.wp_region_mid 11 (fun w' => w'.cell? ⟨bM, 8, none⟩ = some (.slice Ac 0 cm)) (by kernel_rfl) (by kernel_rfl) k8 ?_
  simp only [List.take_succ_cons, List.take_zero, List.drop_succ_cons, List.drop_zero]
  iterate 11
   refine Mem.wpHeld_step (v := ?_) (by rfl) ?_ ?_
   rotate_left
   ·intro w hSw; (try dsimp only at hSw); go_simp; try with_reducible rfl
   try simp only [Act.put, List.setIfInBounds_toArray, List.set_cons_zero, List.set_cons_succ]
  have hbW : Below w1.heap.size w1 (w1.drew.alloc (.cells C 3)) := ((Below.refl _ _).drew).alloc (Nat.le_refl _) _
  refine Mem.wpHeld_nil ⟨_, .slice (some ⟨w1.heap.size, 0, none⟩) 0 cm, w1.drew.alloc (.cells C 3), rfl, by rfl, ?_, low hbW k8, ?_⟩
  ·go_simp
  have HM2 := Lib.hid (HM1.out.below hbW)
  have hT2 := (hbW.block _ (lt_of_block HT1.out)).trans HT1.out
  have HB2 := Lib.hid (HB1.out.trans (hbW.mono HB1.out.size))
  clear k8 t1 z1 hz1 hbW hmk
  generalize w1.drew.alloc (.cells C 3) = w2 at *
  generalize w1.heap.size = G at *
  have t1 : w2.cell? ⟨w.heap.size, 1, none⟩ = some (.slice none 0 0) := cell_at hT2 rfl
  have z1 := fz_at hT2 1
  have HT2 := Lib.hid hT2
  clear hT2
  go_upto_region 8 with fail
  refine NoPanic.normal ?_
  have hHB : B ≤ w.heap.size := hB
  have hM3 := HM2.out.thw HT2.out (by simp) hHB 1 (.slice (some ⟨G, 0, none⟩) 0 cm)
  have hT3 : (w2.setCell ⟨w.heap.size, 1, none⟩ (.slice (some ⟨G, 0, none⟩) 0 cm)).heap[w.heap.size]? = some (.cells #[.pointer none, .slice (some ⟨G, 0, none⟩) 0 cm] 138 (0, 0)) := heap_setCell_same w2 w.heap.size 1 _ _ _ HT2.out
  have hB3 : Below w.heap.size w (w2.setCell ⟨w.heap.size, 1, none⟩ (.slice (some ⟨G, 0, none⟩) 0 cm)) := HB2.out.setCell (Nat.le_refl _) _
  clear t1 z1 HT2 HB2 HM2 HB1 HM1 HT1
  generalize w2.setCell ⟨w.heap.size, 1, none⟩ (.slice (some ⟨G, 0, none⟩) 0 cm) = w3 at *
  obtain ⟨hM4, hT4⟩ := hM3.thr (iv := none) ⟨_, _, hT3⟩ (by simp) hHB (some iv)
  have t0 : w3.cell? ⟨w.heap.size, 0, none⟩ = some (.pointer none) := cell_at hT3 rfl
  have z0 := fz_at hT3 0
  have HM4 := Lib.hid hM4; have HT4 := Lib.hid hT4; have HB4 := Lib.hid (hB3.setCell (p := ⟨w.heap.size, 0, none⟩) (Nat.le_refl _) (.pointer (some iv)))
  clear hM4 hT4 hM3 hT3 hB3
  go_wp2_with fail
  go_ret
  exact ⟨w.heap.size, _, _, [], rfl, HM4.out, HT4.out, hHB, fun x hx => by simp at hx, Or.inr (Nat.le_refl _), by simp, FrA.below HB4.out, fun i _ => rfl, by simp, HB4.out.size⟩
 ·have hcc' : P = P' ++ [tb] := by rw [hcc]; simp
  subst hcc'
  obtain ⟨g, cp, hpv, _, _⟩ := h.pool.form (by simp)
  have hpl : (P' ++ [tb]).length = P'.length + 1 := by simp
  rw [hpl] at hpv
  subst hpv
  have hcap : P'.length + 1 ≤ cp := by
   rcases h.pool.2 with ⟨h2, _⟩ | ⟨g', c', cur, hv, _, _, hl, _⟩
   ·cases h2
   ·simp only [Value.slice.injEq] at hv
    omega
  obtain ⟨kg, hM2, hF2⟩ := h.pop
  have k6 := cell_at h.blk h.fp
  have z6 := fz_at h.blk 6
  have hTB := h.th tb (by simp)
  obtain ⟨iv0, hth0⟩ := hTB
  have hgt := h.gp tb (by simp)
  have HT0 : Hid (TH (w.setCell ⟨bM, 6, none⟩ (.slice (some ⟨g, 0, none⟩) P'.length cp)) tb iv0) := Lib.hid (by
   obtain ⟨A, c, ht⟩ := hth0
   exact ⟨A, c, Mem.blk_set_ne ht (p := ⟨bM, 6, none⟩) (ne_ty ht h.blk (by decide)) _⟩)
  have hpos : decide ((0 : Int) < ((P'.length + 1 : Nat) : Int)) = true := decide_eq_true (by omega)
  have H := Lib.hid h; have HM2 := Lib.hid hM2; have HF2 := Lib.hid hF2
  clear h hM2 hF2 hth0
  go_enter Tryd.func76, Tryd.ntmps76
  go_upto_region 8 with fail
  have hsz2 : (w.setCell ⟨bM, 6, none⟩ (.slice (some ⟨g, 0, none⟩) P'.length cp)).heap.size = w.heap.size := by simp
  generalize w.setCell ⟨bM, 6, none⟩ (.slice (some ⟨g, 0, none⟩) P'.length cp) = w2 at *
  obtain ⟨A0, c0, ht0⟩ := HT0.out
  have kt : w2.cell? ⟨tb, 0, none⟩ = some (.pointer iv0) := cell_at ht0 rfl
  have zt := fz_at ht0 0
  have hn2 : tb ∉ P' := by
   rw [List.nodup_append] at hN
   exact fun hm => hN.2.2 tb hm tb (by simp) rfl
  obtain ⟨hM3, hT3⟩ := HM2.out.thr ⟨A0, c0, ht0⟩ hn2 hgt (some iv)
  have hF3 : FrA s d (P' ++ [tb]) w2 (w2.setCell ⟨tb, 0, none⟩ (.pointer (some iv))) := FrA.set (p := ⟨tb, 0, none⟩) ht0 (Or.inr (Or.inr (Or.inr (Or.inr (by simp))))) _
  have HM3 := Lib.hid hM3; have HT3 := Lib.hid hT3; have HF3 := Lib.hid hF3
  clear hM3 hT3 hF3 k6 z6 kg ht0
  go_wp2_with fail
  go_ret
  exact ⟨tb, _, _, P', rfl, HM3.out, HT3.out, hgt, fun x hx => by simp [hx], Or.inl (by simp), hN, HF2.out.trans HF3.out (fun x hx => Or.inl hx), fun i hi => by rw [Array.getElem?_setIfInBounds, if_neg (fun e => hi e.symm)], by simp, by simp [hsz2]⟩
end
end Go.Proofs.YtcncclglmgdinaaDoor.Ps
namespace Go
/-- As wp_scope_jumps, with a number that each pass lowers. -/
theorem wp_scope_jumps_n {P : Program} {a : Act} {w : World} {Q : Exit → Act → World → Prop} {c rest : Code} (l : Nat) (J : Nat → Act → World → Prop) (hf : findLabel c l = some rest)
  (first : c.wp P (Exit.jump l (fun a w => ∃ n, J n a w) Q) a w)
  (pass : ∀ n a w, J n a w → rest.wp P (Exit.jump l (fun a' w' => ∃ m, m < n ∧ J m a' w') Q) a w) : (Code.scope c).wp P Q a w := by
 intro b k cs
 have hg : gotoIn l (.inScope c :: k) = some (.code rest :: .inScope c :: k) := by simp [gotoIn, hf]
 have key : ∀ n a w, J n a w → ∃ e a' w', Q e a' w' ∧ Arrives P (lone (b.at a (.code rest :: .inScope c :: k)) cs w) b k cs e a' w' := by
  intro n
  induction n using Nat.strongRecOn with
  | _ n ih =>
   intro a w hJ
   obtain ⟨e, a₁, w₁, hq, harr⟩ := pass n a w hJ b (.inScope c :: k) cs
   cases e with
   | normal => exact ⟨.normal, a₁, w₁, hq, Steps.trans harr (.one step_inScope)⟩
   | exit id => exact ⟨.exit id, a₁, w₁, hq, fun k' hk => harr k' (by simp [exitTo, hk])⟩
   | goto l' =>
    obtain ⟨rfl, m, hlt, hJ'⟩ := hq
    obtain ⟨e₂, a₂, w₂, hq₂, harr₂⟩ := ih m hlt a₁ w₁ hJ'
    exact ⟨e₂, a₂, w₂, hq₂, .of_steps (harr _ hg) harr₂⟩
   | ret => exact ⟨_, a₁, w₁, hq, harr⟩
   | panic ch => exact ⟨_, a₁, w₁, hq, harr⟩
   | outgrown => exact ⟨_, a₁, w₁, hq, harr⟩
 obtain ⟨e, a₁, w₁, hq, harr⟩ := first b (.inScope c :: k) cs
 cases e with
 | normal => exact ⟨.normal, a₁, w₁, hq, .head step_scope (Steps.trans harr (.one step_inScope))⟩
 | exit id => exact ⟨.exit id, a₁, w₁, hq, fun k' hk => .head step_scope (harr k' (by simp [exitTo, hk]))⟩
 | goto l' =>
  obtain ⟨rfl, n, hJ'⟩ := hq
  obtain ⟨e₂, a₂, w₂, hq₂, harr₂⟩ := key n a₁ w₁ hJ'
  exact ⟨e₂, a₂, w₂, hq₂, .of_steps (.head step_scope (harr _ hg)) harr₂⟩
 | ret => exact ⟨_, a₁, w₁, hq, .of_steps (.one step_scope) harr⟩
 | panic ch => exact ⟨_, a₁, w₁, hq, .of_steps (.one step_scope) harr⟩
 | outgrown => exact ⟨_, a₁, w₁, hq, .of_steps (.one step_scope) harr⟩
theorem wp_scope_label_n {P : Program} {a : Act} {w : World} {Q : Exit → Act → World → Prop} {x : Code} (l : Nat) (J : Nat → Act → World → Prop) (hf : findLabel ((Code.label l).seq x) l = some (Code.skip.seq x)) (n : Nat) (h0 : J n a w)
  (pass : ∀ n a w, J n a w → x.wp P (Exit.jump l (fun a' w' => ∃ m, m < n ∧ J m a' w') Q) a w) : (Code.scope ((Code.label l).seq x)).wp P Q a w := by
 refine wp_scope_jumps_n l J hf (wp_seq (wp_label ?_)) (fun n a w h => wp_seq (wp_skip (pass n a w h)))
 refine wp_mono (pass n a w h0) fun e a' w' h => ?_
 cases e with
 | goto l' =>
  obtain ⟨h1, m, _, h2⟩ := h
  exact ⟨h1, m, h2⟩
 | normal => exact h
 | exit id => exact h
 | ret => exact h
 | panic ch => exact h
 | outgrown => exact h
end Go
namespace Go.Proofs.YtcncclglmgdinaaDoor.Ps
open Go.RowKit Mem Go.Proofs.YtcncclglmgdinaaDoor.PFnPgStep Go.Proofs.YtcncclglmgdinaaDoorW.PrintWords Go.Proofs.YtcncclglmgdinaaDoorW.PrintLast Go.Proofs.YtcncclglmgdinaaDoorW.PrintMore
set_option linter.unusedVariables false
/-- The threads at hand: those of the pool and the one that is handed on. -/
def AV (P : List Nat) (t : Option Nat) : List Nat := P ++ t.toList
def thb (ths : List Value) : List Nat := ths.filterMap fun v => match v with | .pointer (some a) => some a.block | _ => none
def tptr (t : Option Nat) : Value := .pointer (t.map fun b => ⟨b, 0, none⟩)
theorem thb_app (a b : List Value) : thb (a ++ b) = thb a ++ thb b := List.filterMap_append
/-- An entry of a queue: a thread for an instruction that waits, none for another. -/
def EntOk (L : List In) (B g : Nat) (w : World) (pc : Nat) (v : Value) : Prop :=
 if waitB (inAt L pc) = true then ∃ b, v = .pointer (some ⟨b, 0, none⟩) ∧ TH w b (some ⟨g, pc * 4, none⟩) ∧ B ≤ b else v = .pointer none
structure Fix where
 (L : List In) (w0 : World) (B bM bP qo n s d cm g : Nat)
/-- From one state of the machine to another one: what was listed between. -/
structure Acc (F : Fix) (w : World) (cs : Array Value) (l : List Nat) (ths : List Value) (P0 : List Nat) (t0 : Option Nat) (w' : World) (cs' : Array Value) (pv' : Value) (l' : List Nat) (ths2 : List Value) (P : List Nat) (t : Option Nat) : Prop where
 ms : MS F.w0 w' F.B F.bM F.bP F.qo F.n F.s F.d F.cm cs' pv' l' (ths ++ ths2) P
 ent : ∀ j, l.length ≤ j → j < l'.length → EntOk F.L F.B F.g w' (l'.getD j 0) ((ths ++ ths2).getD j (.pointer none))
 nd : (AV P t ++ thb ths2).Nodup
 sub : ∀ x ∈ AV P t ++ thb ths2, x ∈ AV P0 t0 ∨ w.heap.size ≤ x
 fr : FrA F.s F.d (AV P0 t0) w w'
 csr : ∀ i, i ≠ 6 → i ≠ F.qo + 1 → cs'[i]? = cs[i]?
 tth : ∀ b, t = some b → (∃ iv, TH w' b iv) ∧ F.B ≤ b
 le : P.length ≤ P0.length
 pre : l <+: l'
 tl : ths.length = l.length
 sz : w.heap.size ≤ w'.heap.size
section
variable {F : Fix} {w w1 w2 : World} {cs cs1 cs2 : Array Value} {pv pv1 pv2 : Value} {l l1 l2 : List Nat} {ths ths1 ths2 : List Value} {P0 P1 P2 : List Nat} {t0 t1 t2 : Option Nat}
theorem Acc.start (h : MS F.w0 w F.B F.bM F.bP F.qo F.n F.s F.d F.cm cs pv l ths P0) (hN : (AV P0 t0).Nodup) (ht : ∀ b, t0 = some b → (∃ iv, TH w b iv) ∧ F.B ≤ b) : Acc F w cs l ths P0 t0 w cs pv l [] P0 t0 :=
 ⟨by simpa using h, fun j h1 h2 => by omega, by simpa [thb] using hN, fun x hx => Or.inl (by simpa [thb] using hx), FrA.refl _ _ _ _, fun _ _ _ => rfl, ht, Nat.le_refl _, List.prefix_rfl, h.q.lt, Nat.le_refl _⟩
theorem EntOk.keep {L : List In} {B g : Nat} {pc : Nat} {v : Value} (h : EntOk L B g w pc v) (hk : ∀ b cs, v = .pointer (some ⟨b, 0, none⟩) → w.heap[b]? = some (.cells cs 138 (0, 0)) → w1.heap[b]? = some (.cells cs 138 (0, 0))) : EntOk L B g w1 pc v := by
 unfold EntOk at *
 split at h
 ·rename_i hw
  rw [if_pos hw]
  obtain ⟨b, hv, ⟨A, c, ht⟩, hB⟩ := h
  exact ⟨b, hv, ⟨A, c, hk b _ hv ht⟩, hB⟩
 ·rename_i hw
  rw [if_neg hw]; exact h
theorem mem_thb {ths : List Value} {b : Nat} (h : Value.pointer (some ⟨b, 0, none⟩) ∈ ths) : b ∈ thb ths := by
 unfold thb
 rw [List.mem_filterMap]
 exact ⟨_, h, rfl⟩
theorem Acc.trans (h : Acc F w cs l ths P0 t0 w1 cs1 pv1 l1 ths1 P1 t1) (k : Acc F w1 cs1 l1 (ths ++ ths1) P1 t1 w2 cs2 pv2 l2 ths2 P2 t2) : Acc F w cs l ths P0 t0 w2 cs2 pv2 l2 (ths1 ++ ths2) P2 t2 := by
 have hpre : ∀ j, j < l1.length → l2.getD j 0 = l1.getD j 0 := fun j hj => by
  obtain ⟨m, rfl⟩ := k.pre
  rw [List.getD_eq_getElem?_getD, List.getElem?_append_left hj, ← List.getD_eq_getElem?_getD]
 have hll := h.pre.length_le
 have hsz : ∀ x ∈ thb ths1, x < w1.heap.size := fun x hx => by
  unfold thb at hx
  rw [List.mem_filterMap] at hx
  obtain ⟨v, hv, he⟩ := hx
  obtain ⟨j, hj, e⟩ := List.getElem_of_mem hv
  have hlen := h.ms.q.lt
  have htl := h.tl
  rw [List.length_append] at hlen
  have hen := h.ent (l.length + j) (by omega) (by omega)
  have hgd : (ths ++ ths1).getD (l.length + j) (.pointer none) = v := by
   rw [List.getD_eq_getElem?_getD, List.getElem?_append_right (by omega), show l.length + j - ths.length = j by omega, List.getElem?_eq_getElem hj, e]
   rfl
  rw [hgd] at hen
  unfold EntOk at hen
  split at hen
  ·obtain ⟨b, hb, ⟨A, c, ht⟩, _⟩ := hen
   subst hb
   simp only [Option.some.injEq] at he
   subst he
   exact lt_of_block ht
  ·subst hen; simp at he
 refine ⟨by rw [← List.append_assoc]; exact k.ms, fun j h1 h2 => ?_, ?_, fun x hx => ?_, h.fr.trans k.fr (fun x hx => h.sub x (List.mem_append_left _ hx)), fun i a b => (k.csr i a b).trans (h.csr i a b), k.tth, Nat.le_trans k.le h.le, h.pre.trans k.pre, h.tl, Nat.le_trans h.sz k.sz⟩
 ·rw [← List.append_assoc]
  by_cases hj : j < l1.length
  ·have hlen := h.ms.q.lt
   have e1 : (ths ++ ths1 ++ ths2).getD j (.pointer none) = (ths ++ ths1).getD j (.pointer none) := by
    rw [List.getD_eq_getElem?_getD, List.getElem?_append_left (by omega), ← List.getD_eq_getElem?_getD]
   rw [e1, hpre j hj]
   refine (h.ent j h1 hj).keep fun b cs hv ht => ?_
   have hm : Value.pointer (some ⟨b, 0, none⟩) ∈ ths1 := by
    have htl := h.tl
    rw [List.getD_eq_getElem?_getD, List.getElem?_append_right (by omega)] at hv
    have hj2 : j - ths.length < ths1.length := by rw [List.length_append] at hlen; omega
    rw [List.getElem?_eq_getElem hj2] at hv
    simp only [Option.getD_some] at hv
    rw [← hv]
    exact List.getElem_mem hj2
   have hb := mem_thb hm
   obtain ⟨S, hs, _⟩ := h.ms.q.sp
   obtain ⟨E, he, _⟩ := h.ms.q.de
   refine k.fr b cs _ ht (by decide) (ne_ty ht hs (by decide)) (ne_ty ht he (by decide)) (by decide) (fun hav => ?_)
   have := (List.nodup_append.1 h.nd).2.2 b hav b hb
   exact this rfl
  ·exact k.ent j (by omega) h2
 ·rw [thb_app, List.nodup_append]
  have k1 := List.nodup_append.1 k.nd
  have h1 := List.nodup_append.1 h.nd
  refine ⟨k1.1, ?_, ?_⟩
  ·rw [List.nodup_append]
   refine ⟨h1.2.1, k1.2.1, fun a ha b hb e => ?_⟩
   subst e
   rcases k.sub a (List.mem_append_right _ hb) with h2 | h2
   ·exact h1.2.2 a h2 a ha rfl
   ·have := hsz a ha; omega
  ·intro a ha b hb e
   subst e
   rcases List.mem_append.1 hb with hb | hb
   ·rcases k.sub a (List.mem_append_left _ ha) with h2 | h2
    ·exact h1.2.2 a h2 a hb rfl
    ·have := hsz a hb; omega
   ·exact k1.2.2 a ha a hb rfl
 ·rw [thb_app] at hx
  have via : ∀ x, x ∈ AV P2 t2 ++ thb ths2 → x ∈ AV P0 t0 ∨ w.heap.size ≤ x := fun x hx => by
   rcases k.sub x hx with h2 | h2
   ·exact h.sub x (List.mem_append_left _ h2)
   ·exact Or.inr (Nat.le_trans h.sz h2)
  rcases List.mem_append.1 hx with hx | hx
  ·exact via x (List.mem_append_left _ hx)
  ·rcases List.mem_append.1 hx with hx | hx
   ·exact h.sub x (List.mem_append_right _ hx)
   ·exact via x (List.mem_append_right _ hx)
theorem FrA.mono {s d : Nat} {AV AV' : List Nat} {a b : World} (h : FrA s d AV a b) (hs : ∀ x ∈ AV, x ∈ AV') : FrA s d AV' a b := fun x cs t hx h1 h2 h3 h4 h5 => h x cs t hx h1 h2 h3 h4 (fun hm => h5 (hs x hm))
/-- The world after an instruction has been put into the queue. -/
def pushW (F : Fix) (w : World) (l : List Nat) (pc : Nat) : World :=
 (((w.setCell ⟨F.bM, F.qo + 1, none⟩ (.slice (some ⟨F.d, 0, none⟩) (l.length + 1) F.n)).setCell ⟨F.d, l.length * 2 + 1, none⟩ (.pointer none)).setCell ⟨F.d, l.length * 2, none⟩ (.int .u32 pc)).setCell ⟨F.s, pc, none⟩ (.int .u32 (l.length : Nat))
theorem push_ms (h : MS F.w0 w F.B F.bM F.bP F.qo F.n F.s F.d F.cm cs pv l ths P0) (hn : F.n ≤ 4294967295) {pc : Nat} (hp : pc < F.n) (hm : pc ∉ l) (hl : l.length < F.n) :
  MS F.w0 (pushW F w l pc) F.B F.bM F.bP F.qo F.n F.s F.d F.cm (cs.setIfInBounds (F.qo + 1) (.slice (some ⟨F.d, 0, none⟩) (l.length + 1) F.n)) pv (l ++ [pc]) (ths ++ [.pointer none]) P0 ∧
   (∀ AV', FrA F.s F.d AV' w (pushW F w l pc)) ∧ (pushW F w l pc).heap.size = w.heap.size := by
 have hne := h.sne
 have hqo := h.qo
 have hsz := h.sz
 have hqn := h.q.ne
 obtain ⟨S, s0, _⟩ := h.q.sp
 obtain ⟨E, d0, _⟩ := h.q.de
 -- the header
 have q1 : QOk (w.setCell ⟨F.bM, F.qo + 1, none⟩ (.slice (some ⟨F.d, 0, none⟩) (l.length + 1) F.n)) F.n F.s F.d l ths := h.q.keep (by rw [Mem.blk_set_ne s0 (p := ⟨F.bM, F.qo + 1, none⟩) hne.1 _, s0]) (by rw [Mem.blk_set_ne d0 (p := ⟨F.bM, F.qo + 1, none⟩) hne.2 _, d0])
 have q2 := q1.push hn hp hm hl
 have m1 := heap_setCell_same w F.bM (F.qo + 1) _ _ (.slice (some ⟨F.d, 0, none⟩) (l.length + 1) F.n) h.blk
 have m2 := Mem.blk_set_ne m1 (p := ⟨F.d, l.length * 2 + 1, none⟩) (fun e => hne.2 (by have e : F.bM = F.d := e; exact e.symm)) (.pointer none)
 have m3 := Mem.blk_set_ne m2 (p := ⟨F.d, l.length * 2, none⟩) (fun e => hne.2 (by have e : F.bM = F.d := e; exact e.symm)) (.int .u32 pc)
 have m4 := Mem.blk_set_ne m3 (p := ⟨F.s, pc, none⟩) (fun e => hne.1 (by have e : F.bM = F.s := e; exact e.symm)) (.int .u32 (l.length : Nat))
 have keep : ∀ (b : Nat) (ob : Obj), w.heap[b]? = some ob → b ≠ F.bM → b ≠ F.d → b ≠ F.s → (pushW F w l pc).heap[b]? = some ob := fun b ob hb e1 e2 e3 =>
  Mem.blk_set_ne (Mem.blk_set_ne (Mem.blk_set_ne (Mem.blk_set_ne hb (p := ⟨F.bM, F.qo + 1, none⟩) e1 _) (p := ⟨F.d, l.length * 2 + 1, none⟩) e2 _) (p := ⟨F.d, l.length * 2, none⟩) e2 _) (p := ⟨F.s, pc, none⟩) e3 _
 have hB1 := (((h.bel.setCell (p := ⟨F.bM, F.qo + 1, none⟩) h.gM (.slice (some ⟨F.d, 0, none⟩) (l.length + 1) F.n)).setCell (p := ⟨F.d, l.length * 2 + 1, none⟩) h.gd (.pointer none)).setCell (p := ⟨F.d, l.length * 2, none⟩) h.gd (.int .u32 pc)).setCell (p := ⟨F.s, pc, none⟩) h.gs (.int .u32 (l.length : Nat))
 refine ⟨⟨m4, by simpa using hsz, ?_, ?_, ?_, ?_, ?_, q2, ?_, fun b hb => ?_, hB1, h.gM, h.gs, h.gd, h.gp, h.qo⟩, fun AV' b cs' t hb h1 h2 h3 h4 h5 => keep b _ hb (ne_ty hb h.blk h1) h3 h2, by simp [pushW]⟩
 ·rw [Array.getElem?_setIfInBounds, if_neg (by omega)]; exact h.f1
 ·rw [Array.getElem?_setIfInBounds, if_neg (by omega)]; exact h.fs
 ·rw [Array.getElem?_setIfInBounds, if_pos rfl, if_pos (by omega)]; simp
 ·rw [Array.getElem?_setIfInBounds, if_neg (by omega)]; exact h.fp
 ·rw [Array.getElem?_setIfInBounds, if_neg (by omega)]; exact h.fc
 ·refine own_keep h.pool fun b hb => ?_
  rcases h.pool.2 with ⟨hv, _⟩ | ⟨g', c', cur, hv, _, hh, _⟩
  ·rw [hv] at hb; simp [Value.ownBlock] at hb
  ·rw [hv] at hb
   simp only [Value.ownBlock, Option.some.injEq] at hb
   subst hb
   rw [hh]
   exact keep _ _ hh (ne_ty hh h.blk (by decide)) (ne_ty hh d0 (by decide)) (ne_ty hh s0 (by decide))
 ·obtain ⟨iv, A, c, ht⟩ := h.th b hb
  exact ⟨iv, A, c, keep _ _ ht (ne_ty ht h.blk (by decide)) (ne_ty ht d0 (by decide)) (ne_ty ht s0 (by decide))⟩
/-- An instruction that does not wait is put into the queue. -/
theorem Acc.push (h : MS F.w0 w F.B F.bM F.bP F.qo F.n F.s F.d F.cm cs pv l ths P0) (hN : (AV P0 t0).Nodup) (ht : ∀ b, t0 = some b → (∃ iv, TH w b iv) ∧ F.B ≤ b) (hn : F.n ≤ 4294967295) {pc : Nat} (hp : pc < F.n) (hm : pc ∉ l) (hl : l.length < F.n) (hw : waitB (inAt F.L pc) = false) :
  Acc F w cs l ths P0 t0 (pushW F w l pc) (cs.setIfInBounds (F.qo + 1) (.slice (some ⟨F.d, 0, none⟩) (l.length + 1) F.n)) pv (l ++ [pc]) [.pointer none] P0 t0 := by
 obtain ⟨h1, h2, h3⟩ := push_ms h hn hp hm hl
 have hlt := h.q.lt
 have hthb : thb [Value.pointer none] = [] := rfl
 refine ⟨h1, fun j a b => ?_, by rw [hthb]; simpa using hN, fun x hx => Or.inl (by rw [hthb] at hx; simpa using hx), h2 _, fun i a b => by rw [Array.getElem?_setIfInBounds, if_neg (fun e => b e.symm)], fun b hb => ?_, Nat.le_refl _, List.prefix_append _ _, hlt, by omega⟩
 ·have hj : j = l.length := by simp at b; omega
  subst hj
  unfold EntOk
  have e1 : (l ++ [pc]).getD l.length 0 = pc := by simp [List.getD_eq_getElem?_getD]
  have e2 : (ths ++ [Value.pointer none]).getD l.length (.pointer none) = .pointer none := by rw [← hlt]; simp [List.getD_eq_getElem?_getD]
  rw [e1, e2, if_neg (by rw [hw]; decide)]
 ·obtain ⟨⟨iv, A, c, hb1⟩, hb2⟩ := ht b hb
  obtain ⟨S, s0, _⟩ := h.q.sp
  obtain ⟨E, d0, _⟩ := h.q.de
  exact ⟨⟨iv, A, c, h2 [] b _ _ hb1 (by decide) (ne_ty hb1 s0 (by decide)) (ne_ty hb1 d0 (by decide)) (by decide) (by simp)⟩, hb2⟩
end
end Go.Proofs.YtcncclglmgdinaaDoor.Ps
namespace Go.Proofs.YtcncclglmgdinaaDoor.Ps
open Go.RowKit Mem Go.Proofs.YtcncclglmgdinaaDoor.PFnPgStep Go.Proofs.YtcncclglmgdinaaDoorW.PrintWords Go.Proofs.YtcncclglmgdinaaDoorW.PrintLast Go.Proofs.YtcncclglmgdinaaDoorW.PrintMore
set_option linter.unusedVariables false
section
variable {F : Fix} {w w1 w2 : World} {cs cs2 : Array Value} {pv pv2 : Value} {l : List Nat} {ths : List Value} {P0 P2 : List Nat} {t0 : Option Nat} {pc tb : Nat}
theorem put_ms (h : MS F.w0 w2 F.B F.bM F.bP F.qo F.n F.s F.d F.cm cs2 pv2 (l ++ [pc]) (ths ++ [.pointer none]) P2) (hlt : ths.length = l.length) :
  MS F.w0 (w2.setCell ⟨F.d, l.length * 2 + 1, none⟩ (.pointer (some ⟨tb, 0, none⟩))) F.B F.bM F.bP F.qo F.n F.s F.d F.cm cs2 pv2 (l ++ [pc]) (ths ++ [.pointer (some ⟨tb, 0, none⟩)]) P2 := by
 have hne := h.sne
 obtain ⟨S, s0, _⟩ := h.q.sp
 obtain ⟨E, d0, _⟩ := h.q.de
 have hq := h.q.put (k := l.length) (by simp) (.pointer (some ⟨tb, 0, none⟩))
 have hset : (ths ++ [Value.pointer none]).set l.length (.pointer (some ⟨tb, 0, none⟩)) = ths ++ [.pointer (some ⟨tb, 0, none⟩)] := by
  rw [← hlt, List.set_append_right _ _ (Nat.le_refl _), Nat.sub_self]; rfl
 rw [hset] at hq
 refine ⟨Mem.blk_set_ne h.blk (p := ⟨F.d, l.length * 2 + 1, none⟩) (fun e => hne.2 (by have e : F.bM = F.d := e; exact e.symm)) _, h.sz, h.f1, h.fs, h.fd, h.fp, h.fc, hq, ?_, fun b hb => ?_, h.bel.setCell h.gd _, h.gM, h.gs, h.gd, h.gp, h.qo⟩
 ·exact ownsRow_setCell_other h.pool (fun e => Mem.own_apart h.pool d0 (by decide) e.symm) _
 ·obtain ⟨iv, A, c, ht⟩ := h.th b hb
  exact ⟨iv, A, c, Mem.blk_set_ne ht (p := ⟨F.d, l.length * 2 + 1, none⟩) (ne_ty ht d0 (by decide)) _⟩
theorem Acc.wait (h : MS F.w0 w2 F.B F.bM F.bP F.qo F.n F.s F.d F.cm cs2 pv2 (l ++ [pc]) (ths ++ [.pointer none]) P2) (hlt : ths.length = l.length) (hT : TH w2 tb (some ⟨F.g, pc * 4, none⟩)) (hB : F.B ≤ tb) (hN : (P2 ++ [tb]).Nodup)
  (hsP : ∀ x ∈ P2, x ∈ AV P0 t0 ∨ w.heap.size ≤ x) (hst : tb ∈ AV P0 t0 ∨ w.heap.size ≤ tb) (hfr : FrA F.s F.d (AV P0 t0) w w2) (hcs : ∀ i, i ≠ 6 → i ≠ F.qo + 1 → cs2[i]? = cs[i]?) (hle : P2.length ≤ P0.length) (hsz : w.heap.size ≤ w2.heap.size) (hw : waitB (inAt F.L pc) = true) :
  Acc F w cs l ths P0 t0 (w2.setCell ⟨F.d, l.length * 2 + 1, none⟩ (.pointer (some ⟨tb, 0, none⟩))) cs2 pv2 (l ++ [pc]) [.pointer (some ⟨tb, 0, none⟩)] P2 none := by
 obtain ⟨E, d0, _⟩ := h.q.de
 have hthb : thb [Value.pointer (some ⟨tb, 0, none⟩)] = [tb] := rfl
 have hav : AV P2 none = P2 := by simp [AV]
 refine ⟨put_ms h hlt, fun j a b => ?_, by rw [hthb, hav]; exact hN, fun x hx => ?_, hfr.trans (FrA.set (p := ⟨F.d, l.length * 2 + 1, none⟩) d0 (Or.inr (Or.inr (Or.inr (Or.inl rfl)))) _) (fun x hx => Or.inl hx), hcs, fun b hb => by simp at hb, hle, List.prefix_append _ _, hlt, by simpa using hsz⟩
 ·have hj : j = l.length := by simp at b; omega
  subst hj
  unfold EntOk
  have e1 : (l ++ [pc]).getD l.length 0 = pc := by simp [List.getD_eq_getElem?_getD]
  have e2 : (ths ++ [Value.pointer (some ⟨tb, 0, none⟩)]).getD l.length (.pointer none) = .pointer (some ⟨tb, 0, none⟩) := by rw [← hlt]; simp [List.getD_eq_getElem?_getD]
  rw [e1, e2, if_pos hw]
  obtain ⟨A, c, ht⟩ := hT
  exact ⟨tb, rfl, ⟨A, c, Mem.blk_set_ne ht (p := ⟨F.d, l.length * 2 + 1, none⟩) (ne_ty ht d0 (by decide)) _⟩, hB⟩
 ·rw [hthb, hav] at hx
  rcases List.mem_append.1 hx with hx | hx
  ·exact hsP x hx
  ·simp at hx; subst hx; exact hst
end
theorem addF_pre {L : List In} {c : Int} : ∀ (k : Nat) (l : List Nat) (pc : Nat) (l' : List Nat), addF k L c l pc = some l' → l <+: l'
 | 0, l, pc, l', h => by simp [addF] at h
 | k + 1, l, pc, l', h => by
  simp only [addF] at h
  have p1 : l <+: l ++ [pc] := List.prefix_append _ _
  split at h
  ·obtain rfl := Option.some.inj h; exact List.prefix_rfl
  ·split at h
   ·obtain ⟨l1, e1, e2⟩ := Option.bind_eq_some_iff.1 h
    exact (p1.trans (addF_pre k _ _ l1 e1)).trans (addF_pre k _ _ l' e2)
   ·split at h
    ·exact p1.trans (addF_pre k _ _ l' h)
    ·split at h
     ·exact p1.trans (addF_pre k _ _ l' h)
     ·obtain rfl := Option.some.inj h; exact p1
end Go.Proofs.YtcncclglmgdinaaDoor.Ps
