/- What an instruction takes: the package's answer and the reference's are one; what the threads' step makes of a list of instructions. The threads' machine: the state of a step, and what each of its moves makes of it. -/
import Derived.Test.YtcncclglmgdinaaDoorMatchPos
import Derived.Test.YtcncclglmgdinaaDoorPtEFnPgStep
namespace Go.Proofs.YtcncclglmgdinaaDoor.Ps
open Go.RowKit Mem Go.Proofs.YtcncclglmgdinaaDoor.Fold Go.Proofs.YtcncclglmgdinaaDoor.PFnPgStep Go.Proofs.YtcncclglmgdinaaDoorW.PrintWords Go.Proofs.YtcncclglmgdinaaDoorW.PrintLast Go.Proofs.YtcncclglmgdinaaDoorW.PrintMore
set_option linter.unusedVariables false
set_option linter.unusedSimpArgs false
theorem mcls : ∀ (l : List Int) (a : Int), Mem.clsF a l = clsF a l
 | [], _ => rfl
 | [_], _ => rfl
 | a :: b :: l, _ => by simp only [Mem.clsF, clsF, mcls l b]
theorem rdN (l : List Int) (i : Nat) : rd l (i : Int) = l.getD i 0 := rfl
theorem posF_ge (c : Int) : ∀ (l : List Int) (k : Int), 0 ≤ k → -1 ≤ posF c k l
 | [], _, _ => by simp [posF]
 | [_], _, _ => by simp [posF]
 | a :: b :: l, k, hk => by
  simp only [posF]
  by_cases hx : a ≤ c ∧ c ≤ b
  ·rw [if_pos hx]; omega
  ·rw [if_neg hx]; exact posF_ge c l (k + 1) (by omega)
theorem class_v (l : List Int) (c : Int) (hl : l.length ≤ 2147483647) : ∀ (k i : Nat) (r : Bool), spec_reInClass.l0 k l c (i : Int) = some r → i ≤ l.length + 1 → ∀ q : Int, 0 ≤ q → r = (posF c q (l.drop i) != -1)
 | 0, i, r, h, _, q, _ => by simp [spec_reInClass.l0] at h
 | k + 1, i, r, h, hi, q, hq => by
  have hw1 : wrap64 ((i : Int) + 1) = ((i + 1 : Nat) : Int) := by unfold wrap64; omega
  have hw2 : wrap64 ((i : Int) + 2) = ((i + 2 : Nat) : Int) := by unfold wrap64; omega
  simp only [spec_reInClass.l0, hw1, hw2, rdN] at h
  by_cases h1 : i + 1 < l.length
  ·have nx := fun r hr => class_v l c hl k (i + 2) r hr (by omega) (q + 1) (by omega)
   rw [if_pos (by omega), if_pos (by omega), if_pos (by omega)] at h
   have hd : l.drop i = l.getD i 0 :: l.getD (i + 1) 0 :: l.drop (i + 2) := by
    rw [List.drop_eq_getElem_cons (by omega), List.drop_eq_getElem_cons h1]
    simp only [List.getD_eq_getElem?_getD, List.getElem?_eq_getElem h1, List.getElem?_eq_getElem (show i < l.length by omega), Option.getD_some]
   rw [hd]
   simp only [posF]
   by_cases a1 : l.getD i 0 ≤ c
   ·rw [if_pos a1, if_pos (by omega)] at h
    by_cases a2 : c ≤ l.getD (i + 1) 0
    ·rw [if_pos a2] at h
     obtain rfl := Option.some.inj h
     rw [if_pos ⟨a1, a2⟩]
     simp; omega
    ·rw [if_neg a2] at h
     rw [if_neg (fun h => a2 h.2)]
     exact nx r h
   ·rw [if_neg a1] at h
    rw [if_neg (fun h => a1 h.1)]
    exact nx r h
  ·rw [if_neg (by omega)] at h
   obtain rfl := Option.some.inj h
   have : posF c q (l.drop i) = -1 := by
    have hlen : (l.drop i).length ≤ 1 := by simp; omega
    match l.drop i, hlen with
    | [], _ => rfl
    | [_], _ => rfl
   rw [this]; rfl
theorem class_pos (l : List Int) (c : Int) (hl : l.length ≤ 2147483647) : classF l c = (posF c 0 l != -1) := by
 have h := class_f l c hl
 exact class_v l c hl (l.length + 2) 0 _ h (by omega) 0 (by omega)
/-- An instruction of ranges, or of one character whose case is folded. -/
theorem takes7 {L : List In} {ncap c : Int} {I : In} (h7 : I.f0 = 7) (h : instB L ncap I = true) (hl : I.f3.length ≤ 2147483647) : IntKind.u32.wrap I.f2 = I.f2 ∧ Runes I.f3 I.f2 ∧ (posI I.f3 I.f2 c != -1) = takesF I c := by
 obtain ⟨op, f1, f2, rs⟩ := I
 simp only at h7 hl ⊢
 subst h7
 simp only [instB, instR] at h
 simp only [show ¬ ((7 : Int) = 4 ∨ (7 : Int) = 5) by decide, show ¬ (7 : Int) = 0 by decide, show ¬ (7 : Int) = 2 by decide, show ¬ (7 : Int) = 3 by decide, show ¬ (7 : Int) = 6 by decide, show ¬ (7 : Int) = 9 by decide, show ¬ (7 : Int) = 10 by decide, show ¬ (7 : Int) = 8 by decide, if_false, if_true, Bool.and_eq_true, Bool.or_eq_true, decide_eq_true_eq] at h
 have ht : takesF ⟨7, f1, f2, rs⟩ c = if rs.length = 1 then (c == rs.getD 0 0 || (f2 == 1 && inOrb (rs.getD 0 0) c)) else classF rs c := by simp [takesF]
 rw [ht]
 rcases h.2 with ⟨⟨rfl, h1⟩, hr⟩ | ⟨rfl, hr⟩
 ·match rs, h1 with
  | [r], _ =>
   simp only [runesF, List.length_singleton, if_true, rd0, List.getD_cons_zero, Bool.and_eq_true, decide_eq_true_eq] at hr
   obtain ⟨p, hp⟩ := per_any r hr.1 hr.2
   refine ⟨rfl, Or.inl ⟨r, p, rfl, hp, Or.inr rfl⟩, ?_⟩
   have e : inOrb r c = Mem.inOrb r c := rfl
   simp only [posI, List.length_singleton, if_true, List.getD_cons_zero, e]
   by_cases hc : c = r
   ·simp [hc]
   ·cases ho : Mem.inOrb r c <;> simp [hc]
 ·have hev := clsF_odd _ _ hr
  rw [← mcls] at hr
  refine ⟨rfl, Or.inr hr, ?_⟩
  rw [if_neg (by omega), class_pos rs c hl, posI_cls _ _ _ hr]
/-- Where the instructions that take a character go on, in order; without longest a match ends the list. -/
def nxF (L : List In) (c : Int) (lg : Bool) : List Nat → List Nat
 | [] => []
 | pc :: r => if (inAt L pc).f0 = 4 then (if lg = true then nxF L c lg r else []) else if (waitB (inAt L pc) && takesF (inAt L pc) c) = true then (inAt L pc).f1.toNat :: nxF L c lg r else nxF L c lg r
/-- Whether one of them is a match. -/
def mdF (L : List In) (l : List Nat) : Bool := l.any fun pc => decide ((inAt L pc).f0 = 4)
theorem nx_wait {L : List In} {c : Int} {lg : Bool} {pc : Nat} {r : List Nat} (h : waitB (inAt L pc) = false) (h4 : (inAt L pc).f0 ≠ 4) : nxF L c lg (pc :: r) = nxF L c lg r := by
 simp only [nxF]
 rw [if_neg h4, h, Bool.false_and, if_neg (by decide)]
theorem md_cons {L : List In} {pc : Nat} {r : List Nat} : mdF L (pc :: r) = (decide ((inAt L pc).f0 = 4) || mdF L r) := rfl
theorem wait4 {I : In} (h : I.f0 = 4) : waitB I = true := wait_yes (by omega)
theorem nx_lt {L : List In} {c : Int} {lg : Bool} (hO : OutOk L) : ∀ (l : List Nat), (∀ x ∈ l, x < L.length) → ∀ y ∈ nxF L c lg l, y < L.length
 | [], _, y, hy => by simp [nxF] at hy
 | pc :: r, h, y, hy => by
  have ih := nx_lt (c := c) (lg := lg) hO r (fun x hx => h x (by simp [hx]))
  simp only [nxF] at hy
  split at hy
  ·split at hy
   ·exact ih y hy
   ·simp at hy
  ·rename_i h4
   split at hy
   ·rename_i hw
    rcases List.mem_cons.1 hy with rfl | hy
    ·refine (out_nat hO (h pc (by simp)) ⟨h4, fun h5 => ?_⟩).1
     rw [wait_no (by omega)] at hw
     simp at hw
    ·exact ih y hy
   ·exact ih y hy
/-- What a waiting instruction of a sound program may be. -/
theorem ops_wait {L : List In} {ncap : Int} {I : In} (h : instB L ncap I = true) (hw : waitB I = true) : I.f0 = 4 ∨ I.f0 = 7 ∨ I.f0 = 8 ∨ I.f0 = 9 ∨ I.f0 = 10 := by
 refine Decidable.byContradiction fun hn => ?_
 have n5 : ¬ I.f0 = 5 := fun e => by rw [wait_no (by omega)] at hw; simp at hw
 have n0 : ¬ I.f0 = 0 := fun e => by rw [wait_no (by omega)] at hw; simp at hw
 have n2 : ¬ I.f0 = 2 := fun e => by rw [wait_no (by omega)] at hw; simp at hw
 have n6 : ¬ I.f0 = 6 := fun e => by rw [wait_no (by omega)] at hw; simp at hw
 have n3 : ¬ I.f0 = 3 := fun e => by rw [wait_no (by omega)] at hw; simp at hw
 unfold instB at h
 rw [if_neg (by omega)] at h
 simp only [instR, Bool.and_eq_true] at h
 rw [if_neg n0, if_neg n2, if_neg n3, if_neg n6, if_neg (by omega), if_neg (by omega), if_neg (by omega), if_neg (by omega)] at h
 simp at h
end Go.Proofs.YtcncclglmgdinaaDoor.Ps
namespace Go.Proofs.YtcncclglmgdinaaDoor.Ps
open Go.RowKit Mem Go.Proofs.YtcncclglmgdinaaDoor.PFnPgStep Go.Proofs.YtcncclglmgdinaaDoorW.PrintWords Go.Proofs.YtcncclglmgdinaaDoorW.PrintLast Go.Proofs.YtcncclglmgdinaaDoorW.PrintMore
set_option linter.unusedVariables false
/-- Blocks that are no machine and no pool's row stay. -/
def Kp (w w' : World) : Prop := ∀ (b : Nat) (cs : Array Value) (t : TypeId), w.heap[b]? = some (.cells cs t (0, 0)) → t ≠ 94 → t ≠ 126 → w'.heap[b]? = some (.cells cs t (0, 0))
theorem MS.pooled {w0 w w2 : World} {B bM bP qo n s d cm : Nat} {cs : Array Value} {pv v2 : Value} {l : List Nat} {ths : List Value} {P : List Nat} {tb : Nat} {o : Obj} (h : MS w0 w B bM bP qo n s d cm cs pv l ths P) (ht : ∃ iv, TH w tb iv) (hB : B ≤ tb)
  (ho : w2.ownsRow B 126 1 v2 (P.length + 1) (ptrs P ++ [.pointer (some ⟨tb, 0, none⟩)])) (hg : (w.alloc o).grownBy w2 pv.ownBlock) (hb : Below B w w2) :
  MS w0 (w2.setCell ⟨bM, 6, none⟩ v2) B bM bP qo n s d cm (cs.setIfInBounds 6 v2) v2 l ths (P ++ [tb]) ∧ Kp w (w2.setCell ⟨bM, 6, none⟩ v2) ∧ w.heap.size ≤ (w2.setCell ⟨bM, 6, none⟩ v2).heap.size := by
 have hpo := World.ownsRow.alloc h.pool o
 have kp2 : ∀ (b : Nat) (c : Array Value) (t : TypeId), w.heap[b]? = some (.cells c t (0, 0)) → t ≠ 126 → w2.heap[b]? = some (.cells c t (0, 0)) := fun b c t hc h4 =>
  Mem.blk_grown (Mem.blk_old hc o) hg (Mem.own_apart hpo (Mem.blk_old hc o) h4)
 have hM := kp2 bM cs _ h.blk (by decide)
 have kp : Kp w (w2.setCell ⟨bM, 6, none⟩ v2) := fun b c t hc h1 h4 => Mem.blk_set_ne (kp2 b c t hc h4) (p := ⟨bM, 6, none⟩) (fun e => h1 (by
  have e : b = bM := e
  subst e
  rw [h.blk] at hc
  simp only [Option.some.injEq, Obj.cells.injEq] at hc
  exact hc.2.1.symm)) v2
 have hsz := h.sz
 have hqo := h.qo
 obtain ⟨S, hS⟩ := h.q.sp
 obtain ⟨E, hE⟩ := h.q.de
 refine ⟨⟨heap_setCell_same w2 bM 6 _ _ _ hM, by simpa using hsz, ?_, ?_, ?_, ?_, ?_, h.q.keep ((kp _ _ _ hS.1 (by decide) (by decide)).trans hS.1.symm) ((kp _ _ _ hE.1 (by decide) (by decide)).trans hE.1.symm), ?_, fun b hb' => ?_, (h.bel.trans hb).setCell h.gM _, h.gM, h.gs, h.gd, fun b hb' => ?_, h.qo⟩, kp, ?_⟩
 ·rw [Array.getElem?_setIfInBounds, if_neg (by omega)]; exact h.f1
 ·rw [Array.getElem?_setIfInBounds, if_neg (by omega)]; exact h.fs
 ·rw [Array.getElem?_setIfInBounds, if_neg (by omega)]; exact h.fd
 ·rw [Array.getElem?_setIfInBounds, if_pos rfl, if_pos (by omega)]
 ·rw [Array.getElem?_setIfInBounds, if_neg (by omega)]; exact h.fc
 ·rw [ptrs_app, List.length_append, List.length_singleton]
  exact ownsRow_setCell_other ho (fun e => Mem.own_apart ho hM (by decide) e.symm) _
 ·rcases List.mem_append.1 hb' with hb' | hb'
  ·obtain ⟨iv, A, c, hc⟩ := h.th b hb'
   exact ⟨iv, A, c, kp _ _ _ hc (by decide) (by decide)⟩
  ·simp at hb'
   subst hb'
   obtain ⟨iv, A, c, hc⟩ := ht
   exact ⟨iv, A, c, kp _ _ _ hc (by decide) (by decide)⟩
 ·rcases List.mem_append.1 hb' with hb' | hb'
  ·exact h.gp b hb'
  ·simp at hb'; subst hb'; exact hB
 ·have h1 := hg.size
  have h2 : (w.alloc o).heap.size = w.heap.size + 1 := by simp
  have h3 : (w2.setCell ⟨bM, 6, none⟩ v2).heap.size = w2.heap.size := by simp
  omega
theorem MS.blk_pooled {w0 w w2 : World} {B bM bP qo n s d cm : Nat} {cs : Array Value} {pv : Value} {l : List Nat} {ths : List Value} {P : List Nat} {o : Obj} (h : MS w0 w B bM bP qo n s d cm cs pv l ths P) (hg : (w.alloc o).grownBy w2 pv.ownBlock) : w2.heap[bM]? = some (.cells cs 94 (0, 0)) :=
 Mem.blk_grown (Mem.blk_old h.blk o) hg (Mem.own_apart (World.ownsRow.alloc h.pool o) (Mem.blk_old h.blk o) (by decide))
/-- The state of a step: the next queue, the threads that are left of the queue that runs (from the number j on, of D), the thread in hand. -/
structure SI (F : Fix) (d0 : Nat) (E : Array Value) (la : List Nat) (tha : List Value) (w : World) (cs : Array Value) (pv : Value) (l1 : List Nat) (ths1 : List Value) (P : List Nat) (u : Option Nat) (j D : Nat) (md : Bool) : Prop where
 ms : MS F.w0 w F.B F.bM F.bP F.qo F.n F.s F.d F.cm cs pv l1 ths1 P
 q4 : F.qo = 4
 ent : ∀ k, k < l1.length → EntOk F.L F.B F.g w (l1.getD k 0) (ths1.getD k (.pointer none))
 rq : w.heap[d0]? = some (.cells E 135 (0, 0))
 nd0 : d0 ≠ F.d
 eq : ∀ k, k < la.length → E[k * 2]? = some (.int .u32 (la.getD k 0 : Nat)) ∧ E[k * 2 + 1]? = some (tha.getD k (.pointer none))
 th : ∀ k, j ≤ k → k < D → EntOk F.L F.B F.g w (la.getD k 0) (tha.getD k (.pointer none))
 nd : (AV P u ++ (thb ((tha.take D).drop j) ++ thb ths1)).Nodup
 tu : ∀ b, u = some b → (∃ iv, TH w b iv) ∧ F.B ≤ b
 le : (AV P u).length + (D - j) ≤ 2000
 c3 : cs[3]? = some (.slice (some ⟨d0, 0, none⟩) D F.n)
 c7 : cs[7]? = some (.bool md)
 lt : tha.length = la.length
 dl : D ≤ la.length
section
variable {F : Fix} {d0 : Nat} {E : Array Value} {la : List Nat} {tha : List Value} {w w' : World} {cs : Array Value} {pv : Value} {l1 : List Nat} {ths1 : List Value} {P : List Nat} {u : Option Nat} {j D : Nat} {md : Bool}
theorem EntOk.same {L : List In} {B g : Nat} {pc : Nat} {v : Value} (h : EntOk L B g w pc v) (hk : ∀ (b : Nat) (cs : Array Value), w.heap[b]? = some (.cells cs 138 (0, 0)) → w'.heap[b]? = some (.cells cs 138 (0, 0))) : EntOk L B g w' pc v :=
 h.keep fun b cs _ hc => hk b cs hc
theorem SI.below (h : SI F d0 E la tha w cs pv l1 ths1 P u j D md) (hb : Below w.heap.size w w') : SI F d0 E la tha w' cs pv l1 ths1 P u j D md := by
 have k : ∀ (b : Nat) (cs : Array Value), w.heap[b]? = some (.cells cs 138 (0, 0)) → w'.heap[b]? = some (.cells cs 138 (0, 0)) := fun b cs hc => by rw [hb.block b (lt_of_block hc)]; exact hc
 refine ⟨h.ms.below hb, h.q4, fun i hi => (h.ent i hi).same k, by rw [hb.block _ (lt_of_block h.rq)]; exact h.rq, h.nd0, h.eq, fun i a b => (h.th i a b).same k, h.nd, fun b hb' => ?_, h.le, h.c3, h.c7, h.lt, h.dl⟩
 obtain ⟨⟨iv, A, c, ht⟩, hB⟩ := h.tu b hb'
 exact ⟨⟨iv, A, c, k b _ ht⟩, hB⟩
theorem drop_take_cons {tha : List Value} {j D : Nat} (hj : j < D) (hD : D ≤ tha.length) : (tha.take D).drop j = tha.getD j (.pointer none) :: (tha.take D).drop (j + 1) := by
 have hl : j < (tha.take D).length := by simp; omega
 rw [List.drop_eq_getElem_cons hl, List.getElem_take]
 simp [List.getD_eq_getElem?_getD, List.getElem?_eq_getElem (show j < tha.length by omega)]
/-- An instruction that does not wait is passed over. -/
theorem SI.skip (h : SI F d0 E la tha w cs pv l1 ths1 P none j D md) (hj : j < D) (hw : waitB (inAt F.L (la.getD j 0)) = false) : tha.getD j (.pointer none) = .pointer none ∧ SI F d0 E la tha w cs pv l1 ths1 P none (j + 1) D md := by
 have hv : tha.getD j (.pointer none) = .pointer none := by
  have := h.th j (Nat.le_refl _) hj
  unfold EntOk at this
  rw [if_neg (by rw [hw]; decide)] at this
  exact this
 have hnd := h.nd
 rw [drop_take_cons hj (by rw [h.lt]; exact h.dl), hv] at hnd
 exact ⟨hv, h.ms, h.q4, h.ent, h.rq, h.nd0, h.eq, fun k a b => h.th k (by omega) b, hnd, h.tu, by have := h.le; omega, h.c3, h.c7, h.lt, h.dl⟩
/-- The thread of one that waits is taken. -/
theorem SI.take (h : SI F d0 E la tha w cs pv l1 ths1 P none j D md) (hj : j < D) (hw : waitB (inAt F.L (la.getD j 0)) = true) : ∃ b, tha.getD j (.pointer none) = .pointer (some ⟨b, 0, none⟩) ∧ TH w b (some ⟨F.g, la.getD j 0 * 4, none⟩) ∧ SI F d0 E la tha w cs pv l1 ths1 P (some b) (j + 1) D md := by
 have hE := h.th j (Nat.le_refl _) hj
 unfold EntOk at hE
 rw [if_pos hw] at hE
 obtain ⟨b, hv, ht, hB⟩ := hE
 have hnd := h.nd
 rw [drop_take_cons hj (by rw [h.lt]; exact h.dl), hv] at hnd
 have e1 : thb (Value.pointer (some ⟨b, 0, none⟩) :: (tha.take D).drop (j + 1)) = b :: thb ((tha.take D).drop (j + 1)) := rfl
 rw [e1] at hnd
 refine ⟨b, hv, ht, h.ms, h.q4, h.ent, h.rq, h.nd0, h.eq, fun k a b => h.th k (by omega) b, ?_, fun c hc => ?_, ?_, h.c3, h.c7, h.lt, h.dl⟩
 ·simpa [AV] using hnd
 ·obtain rfl := Option.some.inj hc
  exact ⟨⟨_, ht⟩, hB⟩
 ·have := h.le
  simp [AV] at this ⊢; omega
/-- What a push onto the pool leaves. -/
theorem SI.kept (h : SI F d0 E la tha w cs pv l1 ths1 P u j D md) {tb : Nat} {v2 : Value} {P' : List Nat} {u' : Option Nat} {j' : Nat} (hms : MS F.w0 w' F.B F.bM F.bP F.qo F.n F.s F.d F.cm (cs.setIfInBounds 6 v2) v2 l1 ths1 P') (kp : Kp w w')
  (hj : j ≤ j') (hu : ∀ b, u' = some b → u = some b) (hnd : (AV P' u' ++ (thb ((tha.take D).drop j') ++ thb ths1)).Nodup) (hle : (AV P' u').length + (D - j') ≤ 2000) : SI F d0 E la tha w' (cs.setIfInBounds 6 v2) v2 l1 ths1 P' u' j' D md := by
 have k : ∀ (b : Nat) (cs : Array Value), w.heap[b]? = some (.cells cs 138 (0, 0)) → w'.heap[b]? = some (.cells cs 138 (0, 0)) := fun b cs hc => kp b cs _ hc (by decide) (by decide)
 refine ⟨hms, h.q4, fun i hi => (h.ent i hi).same k, kp _ _ _ h.rq (by decide) (by decide), h.nd0, h.eq, fun i a b => (h.th i (by omega) b).same k, hnd, fun b hb' => ?_, hle, ?_, ?_, h.lt, h.dl⟩
 ·obtain ⟨⟨iv, A, c, ht⟩, hB⟩ := h.tu b (hu b hb')
  exact ⟨⟨iv, A, c, k b _ ht⟩, hB⟩
 ·rw [Array.getElem?_setIfInBounds, if_neg (by omega)]; exact h.c3
 ·rw [Array.getElem?_setIfInBounds, if_neg (by omega)]; exact h.c7
/-- The thread in hand is put into the pool. -/
theorem SI.push {tb : Nat} (h : SI F d0 E la tha w cs pv l1 ths1 P (some tb) j D md) {w2 : World} {v2 : Value} {o : Obj} (ho : w2.ownsRow F.B 126 1 v2 (P.length + 1) (ptrs P ++ [.pointer (some ⟨tb, 0, none⟩)])) (hg : (w.alloc o).grownBy w2 pv.ownBlock) (hb : Below F.B w w2) :
  SI F d0 E la tha (w2.setCell ⟨F.bM, 6, none⟩ v2) (cs.setIfInBounds 6 v2) v2 l1 ths1 (P ++ [tb]) none j D md := by
 obtain ⟨ht, hB⟩ := h.tu tb rfl
 obtain ⟨h1, h2, _⟩ := h.ms.pooled ht hB ho hg hb
 refine h.kept (tb := tb) h1 h2 (Nat.le_refl _) (fun b hb => by simp at hb) ?_ ?_
 ·have := h.nd
  simpa [AV] using this
 ·have := h.le
  simpa [AV] using this
/-- A thread that is left is put into the pool. -/
theorem SI.qpush (h : SI F d0 E la tha w cs pv l1 ths1 P u j D md) (hj : j < D) {tb : Nat} (hv : tha.getD j (.pointer none) = .pointer (some ⟨tb, 0, none⟩)) (hw : waitB (inAt F.L (la.getD j 0)) = true) {w2 : World} {v2 : Value} {o : Obj} (ho : w2.ownsRow F.B 126 1 v2 (P.length + 1) (ptrs P ++ [.pointer (some ⟨tb, 0, none⟩)])) (hg : (w.alloc o).grownBy w2 pv.ownBlock) (hb : Below F.B w w2) :
  SI F d0 E la tha (w2.setCell ⟨F.bM, 6, none⟩ v2) (cs.setIfInBounds 6 v2) v2 l1 ths1 (P ++ [tb]) u (j + 1) D md := by
 have hE := h.th j (Nat.le_refl _) hj
 unfold EntOk at hE
 rw [if_pos hw, hv] at hE
 obtain ⟨b, hv', ht, hB⟩ := hE
 simp only [Value.pointer.injEq, Option.some.injEq, Addr.mk.injEq, and_true] at hv'
 subst hv'
 obtain ⟨h1, h2, _⟩ := h.ms.pooled ⟨_, ht⟩ hB ho hg hb
 refine h.kept (tb := tb) h1 h2 (by omega) (fun b hb => hb) ?_ ?_
 ·have hnd := h.nd
  rw [drop_take_cons hj (by rw [h.lt]; exact h.dl), hv] at hnd
  have e1 : thb (Value.pointer (some ⟨tb, 0, none⟩) :: (tha.take D).drop (j + 1)) = tb :: thb ((tha.take D).drop (j + 1)) := rfl
  rw [e1] at hnd
  have hp : (AV P u ++ (tb :: thb ((tha.take D).drop (j + 1)) ++ thb ths1)).Perm (AV (P ++ [tb]) u ++ (thb ((tha.take D).drop (j + 1)) ++ thb ths1)) := by
   simp only [AV, List.append_assoc, List.cons_append, List.nil_append]
   refine List.Perm.append_left P ?_
   exact List.perm_middle
  exact hp.nodup_iff.1 hnd
 ·have := h.le
  simp [AV] at this ⊢; omega
theorem SI.qskip (h : SI F d0 E la tha w cs pv l1 ths1 P u j D md) (hj : j < D) (hw : waitB (inAt F.L (la.getD j 0)) = false) : tha.getD j (.pointer none) = .pointer none ∧ SI F d0 E la tha w cs pv l1 ths1 P u (j + 1) D md := by
 have hv : tha.getD j (.pointer none) = .pointer none := by
  have := h.th j (Nat.le_refl _) hj
  unfold EntOk at this
  rw [if_neg (by rw [hw]; decide)] at this
  exact this
 have hnd := h.nd
 rw [drop_take_cons hj (by rw [h.lt]; exact h.dl), hv] at hnd
 exact ⟨hv, h.ms, h.q4, h.ent, h.rq, h.nd0, h.eq, fun k a b => h.th k (by omega) b, hnd, h.tu, by have := h.le; omega, h.c3, h.c7, h.lt, h.dl⟩
/-- A cell of the machine that is none of the queue's and not the pool's is written. -/
theorem MS.cset {w0 w : World} {B bM bP qo n s d cm : Nat} {cs : Array Value} {pv : Value} {l : List Nat} {ths : List Value} (h : MS w0 w B bM bP qo n s d cm cs pv l ths P) (hq : qo = 4) {i : Nat} (hi : i = 3 ∨ i = 7) (v : Value) :
  MS w0 (w.setCell ⟨bM, i, none⟩ v) B bM bP qo n s d cm (cs.setIfInBounds i v) pv l ths P ∧ Kp w (w.setCell ⟨bM, i, none⟩ v) ∧ (w.setCell ⟨bM, i, none⟩ v).heap.size = w.heap.size := by
 have kp : ∀ (b : Nat) (c : Array Value) (t : TypeId), w.heap[b]? = some (.cells c t (0, 0)) → t ≠ 94 → (w.setCell ⟨bM, i, none⟩ v).heap[b]? = some (.cells c t (0, 0)) := fun b c t hc h1 => Mem.blk_set_ne hc (p := ⟨bM, i, none⟩) (fun e => h1 (by
  have e : b = bM := e
  subst e
  rw [h.blk] at hc
  simp only [Option.some.injEq, Obj.cells.injEq] at hc
  exact hc.2.1.symm)) v
 have hsz := h.sz
 obtain ⟨S, hS⟩ := h.q.sp
 obtain ⟨E, hE⟩ := h.q.de
 refine ⟨⟨heap_setCell_same w bM i _ _ _ h.blk, by simpa using hsz, ?_, ?_, ?_, ?_, ?_, h.q.keep ((kp _ _ _ hS.1 (by decide)).trans hS.1.symm) ((kp _ _ _ hE.1 (by decide)).trans hE.1.symm), ?_, fun b hb' => ?_, h.bel.setCell h.gM _, h.gM, h.gs, h.gd, h.gp, h.qo⟩, fun b c t hc h1 _ => kp b c t hc h1, by simp⟩
 ·rw [Array.getElem?_setIfInBounds, if_neg (by omega)]; exact h.f1
 ·rw [Array.getElem?_setIfInBounds, if_neg (by omega)]; exact h.fs
 ·rw [Array.getElem?_setIfInBounds, if_neg (by omega)]; exact h.fd
 ·rw [Array.getElem?_setIfInBounds, if_neg (by omega)]; exact h.fp
 ·rw [Array.getElem?_setIfInBounds, if_neg (by omega)]; exact h.fc
 ·exact ownsRow_setCell_other h.pool (fun e => Mem.own_apart h.pool h.blk (by decide) e.symm) _
 ·obtain ⟨iv, A, c, hc⟩ := h.th b hb'
  exact ⟨iv, A, c, kp _ _ _ hc (by decide)⟩
theorem SI.mset (h : SI F d0 E la tha w cs pv l1 ths1 P u j D md) : SI F d0 E la tha (w.setCell ⟨F.bM, 7, none⟩ (.bool true)) (cs.setIfInBounds 7 (.bool true)) pv l1 ths1 P u j D true := by
 obtain ⟨h1, kp, _⟩ := h.ms.cset h.q4 (Or.inr rfl) (.bool true)
 have k : ∀ (b : Nat) (cs : Array Value), w.heap[b]? = some (.cells cs 138 (0, 0)) → (w.setCell ⟨F.bM, 7, none⟩ (.bool true)).heap[b]? = some (.cells cs 138 (0, 0)) := fun b cs hc => kp b cs _ hc (by decide) (by decide)
 have hsz := h.ms.sz
 refine ⟨h1, h.q4, fun i hi => (h.ent i hi).same k, kp _ _ _ h.rq (by decide) (by decide), h.nd0, h.eq, fun i a b => (h.th i a b).same k, h.nd, fun b hb' => ?_, h.le, ?_, ?_, h.lt, h.dl⟩
 ·obtain ⟨⟨iv, A, c, ht⟩, hB⟩ := h.tu b hb'
  exact ⟨⟨iv, A, c, k b _ ht⟩, hB⟩
 ·rw [Array.getElem?_setIfInBounds, if_neg (by omega)]; exact h.c3
 ·rw [Array.getElem?_setIfInBounds, if_pos rfl, if_pos (by omega)]
theorem SI.dset (h : SI F d0 E la tha w cs pv l1 ths1 P u j D md) : SI F d0 E la tha (w.setCell ⟨F.bM, 3, none⟩ (.slice (some ⟨d0, 0, none⟩) 0 F.n)) (cs.setIfInBounds 3 (.slice (some ⟨d0, 0, none⟩) 0 F.n)) pv l1 ths1 P u j 0 md := by
 obtain ⟨h1, kp, _⟩ := h.ms.cset h.q4 (Or.inl rfl) (.slice (some ⟨d0, 0, none⟩) 0 F.n)
 have k : ∀ (b : Nat) (cs : Array Value), w.heap[b]? = some (.cells cs 138 (0, 0)) → (w.setCell ⟨F.bM, 3, none⟩ (.slice (some ⟨d0, 0, none⟩) 0 F.n)).heap[b]? = some (.cells cs 138 (0, 0)) := fun b cs hc => kp b cs _ hc (by decide) (by decide)
 have hsz := h.ms.sz
 refine ⟨h1, h.q4, fun i hi => (h.ent i hi).same k, kp _ _ _ h.rq (by decide) (by decide), h.nd0, h.eq, fun i a b => by omega, ?_, fun b hb' => ?_, by have := h.le; omega, ?_, ?_, h.lt, Nat.zero_le _⟩
 ·have hn := h.nd
  rw [List.take_zero, List.drop_nil]
  have h1 := List.nodup_append.1 hn
  have h2 := List.nodup_append.1 h1.2.1
  show (AV P u ++ (thb [] ++ thb ths1)).Nodup
  rw [show thb [] = [] from rfl, List.nil_append, List.nodup_append]
  exact ⟨h1.1, h2.2.1, fun a ha b hb => h1.2.2 a ha b (List.mem_append_right _ hb)⟩
 ·obtain ⟨⟨iv, A, c, ht⟩, hB⟩ := h.tu b hb'
  exact ⟨⟨iv, A, c, k b _ ht⟩, hB⟩
 ·rw [Array.getElem?_setIfInBounds, if_pos rfl, if_pos (by omega)]
 ·rw [Array.getElem?_setIfInBounds, if_neg (by omega)]; exact h.c7
theorem thb_lt {L : List In} {B g : Nat} {l : List Nat} {ths : List Value} {lo hi : Nat} (h : ∀ k, lo ≤ k → k < hi → EntOk L B g w (l.getD k 0) (ths.getD k (.pointer none))) {b : Nat} (hb : b ∈ thb ((ths.take hi).drop lo)) : b < w.heap.size := by
 unfold thb at hb
 rw [List.mem_filterMap] at hb
 obtain ⟨v, hv, he⟩ := hb
 obtain ⟨k, hk, e⟩ := List.getElem_of_mem hv
 have hk2 : lo + k < (ths.take hi).length := by rw [List.length_drop] at hk; omega
 have hk3 : lo + k < ths.length ∧ lo + k < hi := by rw [List.length_take] at hk2; omega
 have hE := h (lo + k) (by omega) hk3.2
 rw [List.getElem_drop, List.getElem_take] at e
 rw [show ths.getD (lo + k) (.pointer none) = v by rw [← e]; simp [List.getD_eq_getElem?_getD, List.getElem?_eq_getElem hk3.1]] at hE
 unfold EntOk at hE
 split at hE
 ·obtain ⟨c, hc, ⟨A, cc, ht⟩, _⟩ := hE
  subst hc
  simp only [Option.some.injEq] at he
  subst he
  exact lt_of_block ht
 ·subst hE
  simp at he
/-- What the machine's 'add' makes of the state. -/
theorem SI.add {tb : Nat} (h : SI F d0 E la tha w cs pv l1 ths1 P (some tb) j D md) {cs' : Array Value} {pv' : Value} {l2 : List Nat} {ths2 : List Value} {P' : List Nat} {t' : Option Nat} (a : Acc F w cs l1 ths1 P (some tb) w' cs' pv' l2 ths2 P' t') :
  SI F d0 E la tha w' cs' pv' l2 (ths1 ++ ths2) P' t' j D md := by
 have hq := h.q4
 have n1 := List.nodup_append.1 h.nd
 have n2 := List.nodup_append.1 n1.2.1
 have hall : (ths1.take l1.length).drop 0 = ths1 := by rw [List.drop_zero, List.take_of_length_le (by rw [h.ms.q.lt]; exact Nat.le_refl _)]
 have lt1 : ∀ b ∈ thb ths1, b < w.heap.size := fun b hb => thb_lt (l := l1) (ths := ths1) (lo := 0) (hi := l1.length) (fun k _ hk => h.ent k hk) (by rw [hall]; exact hb)
 have lt2 : ∀ b ∈ thb ((tha.take D).drop j), b < w.heap.size := fun b hb => thb_lt h.th hb
 obtain ⟨S, hS⟩ := h.ms.q.sp
 obtain ⟨E1, hE1⟩ := h.ms.q.de
 have ks : ∀ (b : Nat) (cs : Array Value), b ∈ thb ((tha.take D).drop j) ++ thb ths1 → w.heap[b]? = some (.cells cs 138 (0, 0)) → w'.heap[b]? = some (.cells cs 138 (0, 0)) := fun b cs hm hc =>
  a.fr b cs _ hc (by decide) (ne_ty hc hS.1 (by decide)) (ne_ty hc hE1.1 (by decide)) (by decide) (fun hav => n1.2.2 b hav b hm rfl)
 have hll := a.pre.length_le
 have hlen := a.ms.q.lt
 rw [List.length_append] at hlen
 have htl := a.tl
 refine ⟨a.ms, hq, fun k hk => ?_, ?_, h.nd0, h.eq, fun k hk1 hk2 => ?_, ?_, a.tth, ?_, ?_, ?_, h.lt, h.dl⟩
 ·by_cases hk1 : k < l1.length
  ·have e1 : (ths1 ++ ths2).getD k (.pointer none) = ths1.getD k (.pointer none) := by
    rw [List.getD_eq_getElem?_getD, List.getElem?_append_left (by omega), ← List.getD_eq_getElem?_getD]
   have e2 : l2.getD k 0 = l1.getD k 0 := by
    obtain ⟨m, rfl⟩ := a.pre
    rw [List.getD_eq_getElem?_getD, List.getElem?_append_left hk1, ← List.getD_eq_getElem?_getD]
   rw [e1, e2]
   refine (h.ent k hk1).keep fun b cs hv hc => ks b cs (List.mem_append_right _ (mem_thb ?_)) hc
   rw [← hv, List.getD_eq_getElem?_getD, List.getElem?_eq_getElem (by omega)]
   exact List.getElem_mem _
  ·exact a.ent k (by omega) hk
 ·exact a.fr _ _ _ h.rq (by decide) (ne_ty h.rq hS.1 (by decide)) h.nd0 (by decide) (fun hav => by
   rcases List.mem_append.1 hav with hp | hp
   ·obtain ⟨iv, A, c, ht⟩ := h.ms.th _ hp
    exact ne_ty h.rq ht (by decide) rfl
   ·have e2 : d0 = tb := List.mem_singleton.1 hp
    obtain ⟨⟨iv, A, c, ht⟩, _⟩ := h.tu d0 (by rw [e2])
    exact ne_ty h.rq ht (by decide) rfl)
 ·refine (h.th k hk1 hk2).keep fun b cs hv hc => ks b cs (List.mem_append_left _ (mem_thb ?_)) hc
  have hd := h.dl
  have hl := h.lt
  rw [← hv]
  have hk3 : k - j < ((tha.take D).drop j).length := by simp; omega
  have : ((tha.take D).drop j)[k - j] = tha.getD k (.pointer none) := by
   rw [List.getElem_drop, List.getElem_take]
   simp [List.getD_eq_getElem?_getD, List.getElem?_eq_getElem (show k < tha.length by omega), show j + (k - j) = k by omega]
  rw [← this]
  exact List.getElem_mem _
 ·have a1 := List.nodup_append.1 a.nd
  rw [thb_app]
  have dis : ∀ x ∈ AV P' t' ++ thb ths2, ∀ y ∈ thb ((tha.take D).drop j) ++ thb ths1, x ≠ y := fun x hx y hy e => by
   subst e
   rcases a.sub x hx with hs | hs
   ·exact n1.2.2 x hs x hy rfl
   ·rcases List.mem_append.1 hy with hy | hy
    ·have := lt2 x hy; omega
    ·have := lt1 x hy; omega
  have hp : (AV P' t' ++ (thb ((tha.take D).drop j) ++ (thb ths1 ++ thb ths2))).Perm ((AV P' t' ++ thb ths2) ++ (thb ((tha.take D).drop j) ++ thb ths1)) := by
   simp only [List.append_assoc]
   refine List.Perm.append_left _ ?_
   rw [← List.append_assoc]
   exact List.perm_append_comm
  rw [hp.nodup_iff, List.nodup_append]
  exact ⟨a.nd, n1.2.1, dis⟩
 ·have h1 := h.le
  have h2 := a.le
  have h3 : t'.toList.length ≤ 1 := by cases t' <;> simp
  simp only [AV, List.length_append, Option.toList_some, List.length_singleton] at h1 ⊢
  omega
 ·rw [a.csr 3 (by omega) (by omega)]; exact h.c3
 ·rw [a.csr 7 (by omega) (by omega)]; exact h.c7
end
end Go.Proofs.YtcncclglmgdinaaDoor.Ps
