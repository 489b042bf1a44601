/- The reference's queue of instructions: what 'add' makes of it. The reference's queue: the walk of 'add'. The instructions that some instructions reach: the walk of 'ProgReach'. -/
import Derived.Test.YtcncclglmgdinaaDoorPFnPgStepx
import Derived.Test.YtcncclglmgdinaaDoorMemA
import Derived.Deep.DeepCutAuto
import Derived.Deep.CutBlock
import Derived.Laws.MakeOwn
import Derived.Deep.RegionHeld3
import Derived.StillTail
import Derived.OrdersHeld
namespace Go.Proofs.YtcncclglmgdinaaDoor.Ps
open Go.RowKit Go.Lib Mem Go.Proofs.YtcncclglmgdinaaDoor.PFnPgStep Go.Proofs.YtcncclglmgdinaaDoorW.PrintWords Go.Proofs.YtcncclglmgdinaaDoorW.PrintLast Go.Proofs.YtcncclglmgdinaaDoorW.PrintMore
set_option linter.unusedVariables false
abbrev In := S55
abbrev inAt (L : List In) (pc : Nat) : In := L.getD pc z55
/-- What is listed when an instruction is come to. -/
def addF : Nat → List In → Int → List Nat → Nat → Option (List Nat)
 | 0, _, _, _, _ => none
 | k + 1, L, c, l, pc =>
  if pc = 0 ∨ pc ∈ l then some l
  else if (inAt L pc).f0 = 0 then (addF k L c (l ++ [pc]) (inAt L pc).f1.toNat).bind fun l' => addF k L c l' (inAt L pc).f2.toNat
  else if (inAt L pc).f0 = 2 ∨ (inAt L pc).f0 = 6 then addF k L c (l ++ [pc]) (inAt L pc).f1.toNat
  else if (inAt L pc).f0 = 3 ∧ (bits .and .i64 c (inAt L pc).f2 == (inAt L pc).f2) = true then addF k L c (l ++ [pc]) (inAt L pc).f1.toNat
  else some (l ++ [pc])
/-- Where an instruction leads lies in the program. -/
def OutOk (L : List In) : Prop := ∀ pc, pc < L.length → ((inAt L pc).f0 = 4 ∨ (inAt L pc).f0 = 5 ∨ (0 ≤ (inAt L pc).f1 ∧ (inAt L pc).f1 < L.length)) ∧ ((inAt L pc).f0 = 0 → 0 ≤ (inAt L pc).f2 ∧ (inAt L pc).f2 < L.length)
def Good (n : Nat) (l : List Nat) : Prop := l.Nodup ∧ ∀ x ∈ l, x < n
theorem nodup_len : ∀ (n : Nat) (l : List Nat), l.Nodup → (∀ x ∈ l, x < n) → l.length ≤ n
 | 0, l, _, h => by
  cases l with
  | nil => simp
  | cons x l => exact absurd (h x (by simp)) (by omega)
 | n + 1, l, hn, h => by
  by_cases hm : n ∈ l
  ·have := nodup_len n (l.erase n) (hn.erase n) (fun x hx => by
    have h1 := (hn.mem_erase_iff).1 hx
    have := h x h1.2
    have := h1.1
    omega)
   rw [List.length_erase_of_mem hm] at this
   omega
  ·have := nodup_len n l hn (fun x hx => by
    have := h x hx
    have : x ≠ n := fun e => hm (e ▸ hx)
    omega)
   omega
theorem Good.len {n : Nat} {l : List Nat} (h : Good n l) : l.length ≤ n := nodup_len n l h.1 h.2
theorem Good.snoc {n : Nat} {l : List Nat} {pc : Nat} (h : Good n l) (hp : pc < n) (hm : pc ∉ l) : Good n (l ++ [pc]) := by
 refine ⟨?_, ?_⟩
 ·rw [List.nodup_append]
  refine ⟨h.1, by simp, ?_⟩
  intro a ha b hb
  simp at hb
  subst hb
  exact fun e => hm (e ▸ ha)
 ·intro x hx
  rcases List.mem_append.1 hx with hx | hx
  ·exact h.2 x hx
  ·simp at hx; omega
theorem out_nat {L : List In} (hO : OutOk L) {pc : Nat} (hp : pc < L.length) (h : (inAt L pc).f0 ≠ 4 ∧ (inAt L pc).f0 ≠ 5) : (inAt L pc).f1.toNat < L.length ∧ ((inAt L pc).f1.toNat : Int) = (inAt L pc).f1 := by
 have := (hO pc hp).1
 omega
theorem arg_nat {L : List In} (hO : OutOk L) {pc : Nat} (hp : pc < L.length) (h : (inAt L pc).f0 = 0) : (inAt L pc).f2.toNat < L.length ∧ ((inAt L pc).f2.toNat : Int) = (inAt L pc).f2 := by
 have := (hO pc hp).2 h
 omega
/-- With as many rounds as instructions that are not yet listed it ends; the list grows. -/
theorem addF_some {L : List In} (c : Int) (hO : OutOk L) : ∀ (k : Nat) (l : List Nat) (pc : Nat), Good L.length l → pc < L.length → L.length < l.length + k → ∃ l', addF k L c l pc = some l' ∧ Good L.length l' ∧ l.length ≤ l'.length
 | 0, l, pc, hg, _, h => by have := hg.len; omega
 | k + 1, l, pc, hg, hp, h => by
  simp only [addF]
  split
  ·exact ⟨l, rfl, hg, Nat.le_refl _⟩
  ·rename_i h0
   have hg' := hg.snoc hp (fun hm => h0 (Or.inr hm))
   have hl' : (l ++ [pc]).length = l.length + 1 := by simp
   split
   ·rename_i h1
    have ho := out_nat hO hp (by omega)
    have ha := arg_nat hO hp h1
    obtain ⟨l1, e1, g1, m1⟩ := addF_some c hO k (l ++ [pc]) _ hg' ho.1 (by omega)
    obtain ⟨l2, e2, g2, m2⟩ := addF_some c hO k l1 _ g1 ha.1 (by omega)
    exact ⟨l2, by rw [e1]; exact e2, g2, by omega⟩
   ·split
    ·have ho := out_nat hO hp (by omega)
     obtain ⟨l1, e1, g1, m1⟩ := addF_some c hO k (l ++ [pc]) _ hg' ho.1 (by omega)
     exact ⟨l1, e1, g1, by omega⟩
    ·split
     ·have ho := out_nat hO hp (by omega)
      obtain ⟨l1, e1, g1, m1⟩ := addF_some c hO k (l ++ [pc]) _ hg' ho.1 (by omega)
      exact ⟨l1, e1, g1, by omega⟩
     ·exact ⟨_, rfl, hg', by omega⟩
theorem addF_good {L : List In} {c : Int} (hO : OutOk L) : ∀ (k : Nat) (l : List Nat) (pc : Nat) (l' : List Nat), addF k L c l pc = some l' → Good L.length l → pc < L.length → Good L.length l'
 | 0, l, pc, l', h, _, _ => by simp [addF] at h
 | k + 1, l, pc, l', h, hg, hp => by
  simp only [addF] at h
  split at h
  ·obtain rfl := Option.some.inj h
   exact hg
  ·rename_i h0
   have hg' := hg.snoc hp (fun hm => h0 (Or.inr hm))
   split at h
   ·rename_i h1
    obtain ⟨l1, e1, e2⟩ := Option.bind_eq_some_iff.1 h
    exact addF_good hO k l1 _ l' e2 (addF_good hO k _ _ l1 e1 hg' (out_nat hO hp (by omega)).1) (arg_nat hO hp h1).1
   ·split at h
    ·exact addF_good hO k _ _ l' h hg' (out_nat hO hp (by omega)).1
    ·split at h
     ·exact addF_good hO k _ _ l' h hg' (out_nat hO hp (by omega)).1
     ·obtain rfl := Option.some.inj h
      exact hg'
/-- What is kept by every step holds of all that is listed. -/
theorem addF_all {L : List In} {c : Int} (P : Nat → Prop) (hs : ∀ pc, pc < L.length → pc ≠ 0 → P pc → ((inAt L pc).f0 = 0 → P (inAt L pc).f1.toNat ∧ P (inAt L pc).f2.toNat) ∧ ((inAt L pc).f0 = 2 ∨ (inAt L pc).f0 = 6 ∨ (inAt L pc).f0 = 3 → P (inAt L pc).f1.toNat)) (hO : OutOk L) :
  ∀ (k : Nat) (l : List Nat) (pc : Nat) (l' : List Nat), addF k L c l pc = some l' → pc < L.length → P pc → (∀ x ∈ l, P x ∧ x ≠ 0) → ∀ x ∈ l', P x ∧ x ≠ 0
 | 0, l, pc, l', h, _, _, _ => by simp [addF] at h
 | k + 1, l, pc, l', h, hp, hP, hl => by
  simp only [addF] at h
  split at h
  ·obtain rfl := Option.some.inj h
   exact hl
  ·rename_i h0
   have h00 : pc ≠ 0 := fun e => h0 (Or.inl e)
   have hl' : ∀ x ∈ l ++ [pc], P x ∧ x ≠ 0 := fun x hx => by
    rcases List.mem_append.1 hx with hx | hx
    ·exact hl x hx
    ·simp at hx; subst hx; exact ⟨hP, h00⟩
   have hst := hs pc hp h00 hP
   split at h
   ·rename_i h1
    obtain ⟨l1, e1, e2⟩ := Option.bind_eq_some_iff.1 h
    exact addF_all P hs hO k l1 _ l' e2 (arg_nat hO hp h1).1 (hst.1 h1).2 (addF_all P hs hO k _ _ l1 e1 (out_nat hO hp (by omega)).1 (hst.1 h1).1 hl')
   ·split at h
    ·rename_i h1
     exact addF_all P hs hO k _ _ l' h (out_nat hO hp (by omega)).1 (hst.2 (by omega)) hl'
    ·split at h
     ·rename_i h1
      exact addF_all P hs hO k _ _ l' h (out_nat hO hp (by omega)).1 (hst.2 (by omega)) hl'
     ·obtain rfl := Option.some.inj h
      exact hl'
def natC (l : List Nat) : List Value := l.map fun (x : Nat) => Value.int .i64 (x : Int)
def seenC (n : Nat) (s : List Nat) : List Value := (List.range n).map fun i => Value.bool (decide (i ∈ s))
theorem seenC_len (n : Nat) (s : List Nat) : (seenC n s).length = n := by simp [seenC]
theorem seenC_at {n : Nat} {s : List Nat} {i : Nat} (h : i < n) : (seenC n s)[i]? = some (.bool (decide (i ∈ s))) := by simp [seenC, h]
theorem seenC_set {n : Nat} {s : List Nat} {i : Nat} (h : i < n) : (seenC n s).set i (.bool true) = seenC n (s ++ [i]) := by
 apply List.ext_getElem
 ·simp [seenC]
 ·intro j h1 h2
  simp only [seenC, List.length_map, List.length_range] at h2
  rw [List.getElem_set]
  split
  ·rename_i e; subst e; simp [seenC]
  ·rename_i e
   have e' : ¬ j = i := fun h => e h.symm
   simp [seenC, e']
theorem natC_len (l : List Nat) : (natC l).length = l.length := by simp [natC]
theorem natC_app (l m : List Nat) : natC (l ++ m) = natC l ++ natC m := by simp [natC]
theorem natC_at {l : List Nat} {i : Nat} (h : i < l.length) : (natC l)[i]? = some (.int .i64 (l.getD i 0 : Nat)) := by simp [natC, h, List.getD_eq_getElem?_getD]
/-- Blocks that are none of the queue's stay as they are. -/
def Oth (w w' : World) : Prop := ∀ (b : Nat) (cs : Array Value) (t : TypeId), w.heap[b]? = some (.cells cs t (0, 0)) → t ≠ 106 → t ≠ 4 → t ≠ 3 → w'.heap[b]? = some (.cells cs t (0, 0))
theorem Oth.refl (w : World) : Oth w w := fun _ _ _ h _ _ _ => h
theorem Oth.trans {a b c : World} (h : Oth a b) (k : Oth b c) : Oth a c := fun x cs t hx h1 h2 h3 => k x cs t (h x cs t hx h1 h2 h3) h1 h2 h3
theorem Oth.alloc (w : World) (o : Obj) : Oth w (w.alloc o) := fun b cs t h _ _ _ => Mem.blk_old h o
theorem Oth.below {w w' : World} (hb : Below w.heap.size w w') : Oth w w' := fun b cs t h _ _ _ => by rw [hb.block b (lt_of_block h)]; exact h
theorem Oth.set {w : World} {p : Addr} {cs : Array Value} {t : TypeId} {f : Nat × Nat} (hp : w.heap[p.block]? = some (.cells cs t f)) (ht : t = 106 ∨ t = 4 ∨ t = 3) (u : Value) : Oth w (w.setCell p u) := fun b cs' t' h h1 h2 h3 => by
 refine Mem.blk_set_ne h (fun e => ?_) u
 subst e
 rw [hp] at h
 simp only [Option.some.injEq, Obj.cells.injEq] at h
 rcases ht with ht | ht | ht
 ·exact h1 (h.2.1 ▸ ht)
 ·exact h2 (h.2.1 ▸ ht)
 ·exact h3 (h.2.1 ▸ ht)
theorem Oth.grown {w w' : World} {base n : Nat} {v : Value} {xs : List Value} (ho : w.ownsRow base 3 1 v n xs) (hg : w.grownBy w' v.ownBlock) : Oth w w' := fun b cs t h _ _ h3 => Mem.blk_grown h hg (Mem.own_apart ho h h3)
/-- The queue in the block g: the instructions listed, and marked, are s and l. -/
structure QS (w0 w : World) (B g n : Nat) (AI : Value) (start ncap cond : Int) (vs vl : Value) (s l : List Nat) : Prop where
 blk : w.heap[g]? = some (.cells #[AI, .int .i64 start, .int .i64 ncap, .int .i64 cond, vs, vl] 106 (0, 0))
 seen : w.ownsRow B 4 1 vs n (seenC n s)
 list : w.ownsRow B 3 1 vl l.length (natC l)
 bel : Below B w0 w
 ge : B ≤ g
section
variable {w0 w : World} {B g n : Nat} {AI : Value} {start ncap cond : Int} {vs vl : Value} {s l : List Nat}
theorem QS.lt (h : QS w0 w B g n AI start ncap cond vs vl s l) : g < w.heap.size := lt_of_block h.blk
theorem own_keep {w' : World} {base : Nat} {e : TypeId} {v : Value} {k : Nat} {xs : List Value} (h : w.ownsRow base e 1 v k xs) (hk : ∀ b, v.ownBlock = some b → w'.heap[b]? = w.heap[b]?) : w'.ownsRow base e 1 v k xs := by
 obtain ⟨h1, h2⟩ := h
 refine ⟨h1, ?_⟩
 rcases h2 with h2 | ⟨g, cap, cur, hv, hg, hh, r⟩
 ·exact Or.inl h2
 ·subst hv
  exact Or.inr ⟨g, cap, cur, rfl, hg, by rw [hk g rfl]; exact hh, r⟩
theorem QS.more {w' : World} (h : QS w0 w B g n AI start ncap cond vs vl s l) (hb : Below w.heap.size w w') (hB : B ≤ w.heap.size) : QS w0 w' B g n AI start ncap cond vs vl s l :=
 ⟨by rw [hb.block g h.lt]; exact h.blk, own_keep h.seen fun b hb' => hb.block b (World.ownsRow.lt h.seen b hb').2, own_keep h.list fun b hb' => hb.block b (World.ownsRow.lt h.list b hb').2, h.bel.trans (hb.mono hB), h.ge⟩
theorem QS.hB (h : QS w0 w B g n AI start ncap cond vs vl s l) : B ≤ w.heap.size := Nat.le_trans h.ge (Nat.le_of_lt h.lt)
theorem QS.mark (h : QS w0 w B g n AI start ncap cond vs vl s l) {pc : Nat} (hp : pc < n) :
  ∃ gs cap, vs = .slice (some ⟨gs, 0, none⟩) n cap ∧ w.cell? ⟨gs, pc, none⟩ = some (.bool (decide (pc ∈ s))) ∧ w.frozen? ⟨gs, pc, none⟩ = false ∧
   QS w0 (w.setCell ⟨gs, pc, none⟩ (.bool true)) B g n AI start ncap cond vs vl (s ++ [pc]) l ∧ Oth w (w.setCell ⟨gs, pc, none⟩ (.bool true)) := by
 obtain ⟨gs, cap, hv, hge, hlt⟩ := h.seen.form (by omega)
 subst hv
 have hne : g ≠ gs := fun e => by
  have := Mem.own_apart h.seen h.blk (by decide)
  simp [Value.ownBlock, e] at this
 have hne2 : vl.ownBlock ≠ some gs := fun e => Mem.own_apart2 h.seen h.list (by decide) gs e rfl
 have hgb : ∃ cs f, w.heap[gs]? = some (.cells cs 4 f) := by
  rcases h.seen.2 with ⟨h1, _⟩ | ⟨g', c', cur, h1, _, hh, _⟩
  ·cases h1
  ·simp only [Value.slice.injEq, Option.some.injEq, Addr.mk.injEq, and_true, true_and] at h1
   obtain ⟨rfl, rfl⟩ := h1
   exact ⟨_, _, hh⟩
 obtain ⟨csb, fb, hgb⟩ := hgb
 refine ⟨gs, cap, rfl, ?_, h.seen.frozenAt pc, ⟨Mem.blk_set_ne h.blk hne _, ?_, ownsRow_setCell_other h.list hne2 _, h.bel.setCell (by show B ≤ gs; omega) _, h.ge⟩, Oth.set (p := ⟨gs, pc, none⟩) hgb (Or.inr (Or.inl rfl)) _⟩
 ·have := h.seen.cells (g := gs) rfl pc _ (seenC_at hp)
  rwa [Addr.add_lit, Nat.zero_add] at this
 ·rw [← seenC_set hp]
  exact (h.seen.stored pc _).1
theorem QS.push (h : QS w0 w B g n AI start ncap cond vs vl s l) {w' : World} {v' : Value} {pc : Nat} (ho : w'.ownsRow B 3 1 v' (l.length + 1) (natC l ++ [.int .i64 pc])) {o : Obj} (hg : (w.alloc o).grownBy w' vl.ownBlock) :
  QS w0 (w'.setCell ⟨g, 5, none⟩ v') B g n AI start ncap cond vs v' s (l ++ [pc]) ∧ w'.frozen? ⟨g, 5, none⟩ = false ∧ w'.cell? ⟨g, 5, none⟩ = some vl ∧ Oth w (w'.setCell ⟨g, 5, none⟩ v') := by
 have hb1 := Mem.blk_grown (Mem.blk_old h.blk o) hg (Mem.own_apart h.list h.blk (by decide))
 have hs1 : w'.ownsRow B 4 1 vs n (seenC n s) := (h.seen.alloc o).kept hg (by
  cases hv : vs.ownBlock with
  | none => exact Or.inl rfl
  | some k => exact Or.inr fun e => Mem.own_apart2 h.list h.seen (by decide) k hv e.symm)
 have hB := h.hB
 refine ⟨⟨?_, ownsRow_setCell_other hs1 (fun e => Mem.own_apart hs1 hb1 (by decide) e.symm) _, ?_, ?_, h.ge⟩, ?_, ?_, ((Oth.alloc w o).trans (Oth.grown (h.list.alloc o) hg)).trans (Oth.set (p := ⟨g, 5, none⟩) hb1 (Or.inl rfl) _)⟩
 ·exact heap_setCell_same w' g 5 _ _ _ hb1
 ·have : (l ++ [pc]).length = l.length + 1 := by simp
  rw [natC_app, this]
  exact ownsRow_setCell_other ho (fun e => Mem.own_apart ho hb1 (by decide) e.symm) _
 ·refine Below.setCell ((h.bel.trans ((Below.refl B w).alloc hB o)).grown hg (by simp; omega) fun k hk => (World.ownsRow.lt h.list k hk).1) ?_ _
  exact h.ge
 ·simp [World.frozen?, hb1]
 ·rw [cell_of_row w' g 5 _ _ _ hb1]; rfl
end
end Go.Proofs.YtcncclglmgdinaaDoor.Ps
namespace Go.Proofs.YtcncclglmgdinaaDoor.Ps
open Go.RowKit Go.Lib Mem Go.Proofs.YtcncclglmgdinaaDoor.PFnPgStep Go.Proofs.YtcncclglmgdinaaDoorW.PrintWords Go.Proofs.YtcncclglmgdinaaDoorW.PrintLast Go.Proofs.YtcncclglmgdinaaDoorW.PrintMore
set_option linter.unusedVariables false
theorem low {w0 w : World} (hb : Below w0.heap.size w0 w) {a : Addr} {v : Value} (hc : w0.cell? a = some v) : w.cell? a = some v := (hb.cell (World.block_lt_of_cell? w0 a hc)).trans hc
/-- Element i of a row of instructions: its four cells. -/
theorem elem4 {w : World} {A : Option Addr} {L : List In} {i : Nat} (h : k55.C w A L.length L) (hi : i < L.length) : ∃ b o A3 c3, A = some ⟨b, o, none⟩ ∧
  w.cell? ⟨b, o + i * 4, none⟩ = some (.int .i64 (inAt L i).f0) ∧ w.cell? ⟨b, o + i * 4 + 1, none⟩ = some (.int .i64 (inAt L i).f1) ∧ w.cell? ⟨b, o + i * 4 + 2, none⟩ = some (.int .i64 (inAt L i).f2) ∧ w.cell? ⟨b, o + i * 4 + 3, none⟩ = some (.slice A3 (inAt L i).f3.length c3) ∧
  (inAt L i).f3.length ≤ c3 ∧ (Kd.int .i32).C w A3 (inAt L i).f3.length (inAt L i).f3 := by
 obtain ⟨ad, A3, c3, hA, h0, h1, h2, h3, l3, g3⟩ := at_T55 h (i : Int) (by omega) (by omega)
 have hrd : rd_T55 L (i : Int) = inAt L i := by unfold rd_T55 inAt; rw [Int.toNat_natCast]
 rw [hrd] at h0 h1 h2 h3 l3 g3
 rw [Int.toNat_natCast] at h0 h1 h2 h3
 obtain ⟨ad', _, _, hA', h0', _⟩ := at_T55 h (0 : Int) (by omega) (by omega)
 obtain rfl : ad = ad' := by rw [hA] at hA'; injection hA'
 have hs : ad.spot = none := World.cell?_spot (by simpa [Addr.add] using h0')
 clear h0' hA'
 obtain ⟨b, o, sp⟩ := ad
 simp only at hs
 subst hs
 have ha : (⟨b, o, none⟩ : Addr).add (i * 4) = ⟨b, o + i * 4, none⟩ := Addr.add_lit _ _ _
 rw [ha] at h0 h1 h2 h3
 exact ⟨b, o, A3, c3, hA, h0, h1, h2, h3, l3, g3⟩
theorem info_int : (Tryd.prog.info? 3).map (fun i => (i.zero, i.size, i.bytes)) = some (some (.int .i64 0), 1, 8) := by kernel_rfl
section
variable (L : List In) (A : Option Addr) (cap : Nat) (start ncap cond : Int) (w0 : World)
set_option maxRecDepth 100000 in
set_option maxHeartbeats 8000000 in
theorem add_c (hK : k55.C w0 A L.length L) (hOut : OutOk L) (hL : L.length ≤ 2147483647) (g : Nat) (vs : Value) :
  ∀ (k : Nat) (l : List Nat) (pc : Nat) (l' : List Nat), addF k L cond l pc = some l' → Good L.length l → pc < L.length → ∀ (w : World) (vl : Value), QS w0 w w0.heap.size g L.length (.slice A L.length cap) start ncap cond vs vl l l →
   Calls Tryd.prog 44 #[.pointer (some ⟨g, 0, none⟩), .int .i64 pc] w fun e w' => e = .returned (.tuple #[]) ∧ Oth w w' ∧ ∃ vl', QS w0 w' w0.heap.size g L.length (.slice A L.length cap) start ncap cond vs vl' l' l' := by
 intro k
 induction k with
 | zero => intro l pc l' h; simp [addF] at h
 | succ k ih =>
  intro l pc l' hf hgd hpc w vl hQ
  have hll := hgd.len
  have HGD := Lib.hid hgd; clear hgd
  have HQ := Lib.hid hQ; clear hQ
  have HK := Lib.hid hK
  have HO := Lib.hid hOut
  have c5 : w.cell? ⟨g, 4, none⟩ = some vs := by rw [cell_of_row w g 4 _ _ _ HQ.out.blk]; rfl
  obtain ⟨gs, capS, hvs, hc6, hfz6, hQ1, hO1⟩ := HQ.out.mark hpc
  subst hvs
  simp only [addF] at hf
  by_cases h0 : pc = 0 ∨ pc ∈ l
  ·rw [if_pos h0] at hf
   obtain rfl := Option.some.inj hf
   by_cases hz : pc = 0
   ·have hb0 : ((pc : Int) == 0) = true := by rw [hz]; rfl
    clear h0 hz hf hc6 hfz6 hQ1 c5
    go_enter Tryd.func44, Tryd.ntmps44
    go_wp2
    refine bodyPost_ret (v := .tuple #[]) (by simp [results, Tryd.results44, go_sem]; try rfl) rfl ?_
    exact ⟨rfl, Oth.refl _, _, HQ.out⟩
   ·have hb0 : ((pc : Int) == 0) = false := by simp; omega
    have hm : pc ∈ l := h0.resolve_left hz
    rw [decide_eq_true hm] at hc6
    clear h0 hz hf hm hfz6 hQ1
    go_enter Tryd.func44, Tryd.ntmps44
    go_wp2
    refine bodyPost_ret (v := .tuple #[]) (by simp [results, Tryd.results44, go_sem]; try rfl) rfl ?_
    exact ⟨rfl, Oth.refl _, _, HQ.out⟩
  ·rw [if_neg h0] at hf
   have hz : pc ≠ 0 := fun h => h0 (Or.inl h)
   have hm : pc ∉ l := fun h => h0 (Or.inr h)
   have hb0 : ((pc : Int) == 0) = false := by simp; omega
   rw [decide_eq_false hm] at hc6
   have hio := hOut pc hpc
   have HG1 := Lib.hid (HGD.out.snoc hpc hm)
   have hK1 := elem4 HK.out hpc
   obtain ⟨I, hI⟩ : ∃ I, inAt L pc = I := ⟨_, rfl⟩
   rw [hI] at hf hio hK1
   obtain ⟨op, f1, f2, rs⟩ := I
   simp only at hf hio hK1
   have HF := Lib.hid hf
   have HIO := Lib.hid hio
   have HK1 := Lib.hid hK1
   clear h0 hz hf hm hio hI hK1
   go_enter Tryd.func44, Tryd.ntmps44
   go_upto_region 2 with fail
   have IH := Lib.hid ih; clear ih
   have HQ1 := Lib.hid hQ1; have HO1 := Lib.hid hO1; clear hQ1 hO1
   obtain ⟨bI, oI, A3, c3, rfl, e0, e1, e2, e3, l3, g3⟩ := HK1.out
   clear HK1
   have E0 := Lib.hid e0; have E1 := Lib.hid e1; have E2 := Lib.hid e2; have E3 := Lib.hid e3
   clear e0 e1 e2 e3 l3 g3 c5 hc6 hfz6
   generalize w.setCell ⟨gs, pc, none⟩ (.bool true) = w1 at *
   have c6 : w1.cell? ⟨g, 5, none⟩ = some vl := by rw [cell_of_row w1 g 5 _ _ _ HQ1.out.blk]; rfl
   go_upto_region 3 with (at_builtin; refine Mem.wp_app1 rfl _ _ _ rfl w0.heap.size 3 (.int .i64 0) 8 Tryd.underlying25 info_int rfl _ l.length (natC l) rfl HQ1.out.list (.int .i64 pc) rfl rfl (by unfold maxLen; omega) (by omega) HQ1.out.hB ?_; intro v2 w2 ho2 hg2 hb2; obtain ⟨A4, c4, hv4⟩ := own_slice ho2; subst hv4; obtain ⟨hQ2, hfz2, hc2, hO2⟩ := HQ1.out.push ho2 hg2; clear ho2 hg2 hb2)
   have HQ2 := Lib.hid hQ2; have HO2 := Lib.hid (HO1.out.trans hO2); clear hQ2 hfz2 hc2 hO2
   generalize w2.setCell ⟨g, 5, none⟩ (Value.slice A4 (l.length + 1) c4) = w3 at *
   have d0 : w3.cell? ⟨g, 0, none⟩ = some (.slice (some ⟨bI, oI, none⟩) L.length cap) := by rw [cell_of_row w3 g 0 _ _ _ HQ2.out.blk]; rfl
   have e0 := low HQ2.out.bel E0.out
   have e1 := low HQ2.out.bel E1.out
   have e2 := low HQ2.out.bel E2.out
   have e3 := low HQ2.out.bel E3.out
   go_upto_region 4 with fail
   have HQ3 := Lib.hid (HQ2.out.more ((Below.refl _ w3).alloc (Nat.le_refl _) (.cells #[.int .i64 op, .int .i64 f1, .int .i64 f2, .slice A3 rs.length c3] 55)) HQ2.out.hB)
   have HO3 := Lib.hid (HO2.out.trans (Oth.alloc w3 (.cells #[.int .i64 op, .int .i64 f1, .int .i64 f2, .slice A3 rs.length c3] 55)))
   have hnew := Mem.blk_new w3 (.cells #[.int .i64 op, .int .i64 f1, .int .i64 f2, .slice A3 rs.length c3] 55)
   clear d0 e0 e1 e2 e3 c6
   generalize w3.alloc (.cells #[.int .i64 op, .int .i64 f1, .int .i64 f2, .slice A3 rs.length c3] 55) = w4 at *
   generalize w3.heap.size = T at *
   have HN := Lib.hid hnew; clear hnew
   have n0 : w4.cell? ⟨T, 0, none⟩ = some (.int .i64 op) := by rw [cell_of_row w4 T 0 _ _ _ HN.out]; rfl
   have n1 : w4.cell? ⟨T, 1, none⟩ = some (.int .i64 f1) := by rw [cell_of_row w4 T 1 _ _ _ HN.out]; rfl
   have n2 : w4.cell? ⟨T, 2, none⟩ = some (.int .i64 f2) := by rw [cell_of_row w4 T 2 _ _ _ HN.out]; rfl
   have d3 : w4.cell? ⟨g, 3, none⟩ = some (.int .i64 cond) := by rw [cell_of_row w4 g 3 _ _ _ HQ3.out.blk]; rfl
   by_cases hop0 : op = 0
   ·have h4 := HIO.out
    obtain ⟨o1, rfl⟩ : ∃ o1 : Nat, f1 = o1 := ⟨f1.toNat, by omega⟩
    obtain ⟨o2, rfl⟩ : ∃ o2 : Nat, f2 = o2 := ⟨f2.toNat, by omega⟩
    have ho1 : o1 < L.length := by omega
    have ho2 : o2 < L.length := by omega
    have hf := HF.out
    rw [if_pos hop0] at hf
    obtain ⟨l1, hf1, hf2⟩ := Option.bind_eq_some_iff.1 hf
    rw [Int.toNat_natCast] at hf1 hf2
    have HF1 := Lib.hid hf1
    have HF2 := Lib.hid hf2
    have HG2 := Lib.hid (addF_good hOut k _ _ l1 hf1 HG1.out ho1)
    have b0 : (op == 0) = true := by simp [hop0]
    clear h4 hf hf1 hf2 HF hop0
    go_wp2_with (first
     | (go_at_call 44; have X := IH.out l1 o2 l' HF2.out HG2.out ho2 _ _ HQ5.out; refine (Calls.mono X ?_); clear X; rintro e w6 ⟨rfl, hO4, vl4, hQ4⟩; have HQ6 := Lib.hid hQ4; have HO6 := Lib.hid (HO5.out.trans hO4); clear hQ4 hO4)
     | (go_at_call 44; have X := IH.out (l ++ [pc]) o1 l1 HF1.out HG1.out ho1 _ _ HQ3.out; refine (Calls.mono X ?_); clear X; rintro e w5 ⟨rfl, hO4, vl4, hQ4⟩; have HQ5 := Lib.hid hQ4; have HO5 := Lib.hid (HO3.out.trans hO4); have n2' : w5.cell? ⟨T, 2, none⟩ = some (.int .i64 o2) := (by rw [cell_of_row w5 T 2 _ _ _ (hO4 _ _ _ HN.out (by decide) (by decide) (by decide))]; rfl); clear hQ4 hO4))
    go_end0
    exact ⟨rfl, HO6.out, _, HQ6.out⟩
   ·have b0 : (op == 0) = false := by simpa using hop0
    have hf := HF.out
    rw [if_neg hop0] at hf
    by_cases hop2 : op = 2
    ·have h4 := HIO.out
     obtain ⟨o1, rfl⟩ : ∃ o1 : Nat, f1 = o1 := ⟨f1.toNat, by omega⟩
     have ho1 : o1 < L.length := by omega
     rw [if_pos (Or.inl hop2), Int.toNat_natCast] at hf
     have HF := Lib.hid hf
     have b2 : (op == 2) = true := by simp [hop2]
     clear h4 hf hop2 hop0
     go_wp2_with (go_at_call 44; have X := IH.out (l ++ [pc]) o1 l' HF.out HG1.out ho1 _ _ HQ3.out; refine (Calls.mono X ?_); clear X; rintro e w5 ⟨rfl, hO4, vl4, hQ4⟩; have HQ5 := Lib.hid hQ4; have HO5 := Lib.hid (HO3.out.trans hO4); clear hQ4 hO4)
     go_end0
     exact ⟨rfl, HO5.out, _, HQ5.out⟩
    ·have b2 : (op == 2) = false := by simpa using hop2
     by_cases hop6 : op = 6
     ·have h4 := HIO.out
      obtain ⟨o1, rfl⟩ : ∃ o1 : Nat, f1 = o1 := ⟨f1.toNat, by omega⟩
      have ho1 : o1 < L.length := by omega
      rw [if_pos (Or.inr hop6), Int.toNat_natCast] at hf
      have HF := Lib.hid hf
      have b6 : (op == 6) = true := by simp [hop6]
      clear h4 hf hop2 hop0 hop6
      go_wp2_with (go_at_call 44; have X := IH.out (l ++ [pc]) o1 l' HF.out HG1.out ho1 _ _ HQ3.out; refine (Calls.mono X ?_); clear X; rintro e w5 ⟨rfl, hO4, vl4, hQ4⟩; have HQ5 := Lib.hid hQ4; have HO5 := Lib.hid (HO3.out.trans hO4); clear hQ4 hO4)
      go_end0
      exact ⟨rfl, HO5.out, _, HQ5.out⟩
     ·have b6 : (op == 6) = false := by simpa using hop6
      rw [if_neg (by omega)] at hf
      by_cases hop3 : op = 3
      ·have b3 : (op == 3) = true := by simp [hop3]
       by_cases hc : (bits .and .i64 cond f2 == f2) = true
       ·have h4 := HIO.out
        obtain ⟨o1, rfl⟩ : ∃ o1 : Nat, f1 = o1 := ⟨f1.toNat, by omega⟩
        have ho1 : o1 < L.length := by omega
        rw [if_pos ⟨hop3, hc⟩, Int.toNat_natCast] at hf
        have HF := Lib.hid hf
        clear h4 hf hop2 hop0 hop6 hop3
        go_upto_region 12 with fail
        go_quiet (fail)
        have HQ3 := Lib.hid (HQ3.out.more (below_drewN (Below.refl _ _) nq) HQ3.out.hB)
        have HO3 := Lib.hid (HO3.out.trans (Oth.below (below_drewN (Below.refl _ w4) nq)))
        go_wp2_with (go_at_call 44; have X := IH.out (l ++ [pc]) o1 l' HF.out HG1.out ho1 _ _ HQ3.out; refine (Calls.mono X ?_); clear X; rintro e w5 ⟨rfl, hO4, vl4, hQ4⟩; have HQ5 := Lib.hid hQ4; have HO5 := Lib.hid (HO3.out.trans hO4); clear hQ4 hO4)
        go_end0
        exact ⟨rfl, HO5.out, _, HQ5.out⟩
       ·have hc' : (bits .and .i64 cond f2 == f2) = false := by simpa using hc
        rw [if_neg (fun h => hc h.2)] at hf
        obtain rfl := Option.some.inj hf
        clear hf hop2 hop0 hop6 hop3 hc
        go_upto_region 12 with fail
        go_quiet (fail)
        have HQ3 := Lib.hid (HQ3.out.more (below_drewN (Below.refl _ _) nq) HQ3.out.hB)
        have HO3 := Lib.hid (HO3.out.trans (Oth.below (below_drewN (Below.refl _ w4) nq)))
        go_wp2_with fail
        go_end0
        exact ⟨rfl, HO3.out, _, HQ3.out⟩
      ·have b3 : (op == 3) = false := by simpa using hop3
       rw [if_neg (fun h => hop3 h.1)] at hf
       obtain rfl := Option.some.inj hf
       clear hf hop2 hop0 hop6 hop3
       go_wp2_with fail
       go_end0
       exact ⟨rfl, HO3.out, _, HQ3.out⟩
end
end Go.Proofs.YtcncclglmgdinaaDoor.Ps
namespace Go.Proofs.YtcncclglmgdinaaDoor.Ps
open Go.RowKit Go.Lib Mem Go.Proofs.YtcncclglmgdinaaDoor.PFnPgStep Go.Proofs.YtcncclglmgdinaaDoorW.PrintWords Go.Proofs.YtcncclglmgdinaaDoorW.PrintLast Go.Proofs.YtcncclglmgdinaaDoorW.PrintMore
set_option linter.unusedVariables false
def reachF (k : Nat) (L : List In) (c : Int) : List Nat → List Nat → Option (List Nat)
 | [], l => some l
 | pc :: ps, l => (addF k L c l pc).bind fun l' => reachF k L c ps l'
theorem reachF_some {L : List In} (c : Int) (hO : OutOk L) (k : Nat) (hk : L.length < k) : ∀ (ps l : List Nat), Good L.length l → (∀ x ∈ ps, x < L.length) → ∃ l', reachF k L c ps l = some l' ∧ Good L.length l'
 | [], l, hg, _ => ⟨l, rfl, hg⟩
 | pc :: ps, l, hg, hp => by
  obtain ⟨l1, e1, g1, m1⟩ := addF_some c hO k l pc hg (hp pc (by simp)) (by omega)
  obtain ⟨l2, e2, g2⟩ := reachF_some c hO k hk ps l1 g1 (fun x hx => hp x (by simp [hx]))
  exact ⟨l2, by simp [reachF, e1, e2], g2⟩
theorem word_f (a : Int) : ∃ r, spec_reWord.f a = some r := by
 unfold spec_reWord.f
 repeat' split
 all_goals exact ⟨_, rfl⟩
theorem cond_f (a b : Int) : ∃ r, spec_CondBetween.f 10 a b = some r := by
 obtain ⟨r1, h1⟩ := word_f a
 obtain ⟨r2, h2⟩ := word_f b
 have h5 : ∀ k x, ∃ r, spec_CondBetween.j5 (k + 1) a b x = some r := fun k x => by
  simp only [spec_CondBetween.j5, h1, h2, Option.bind_some]
  split <;> exact ⟨_, rfl⟩
 have h4 : ∀ k x y, ∃ r, spec_CondBetween.j4 (k + 2) a b x y = some r := fun k x y => by
  simp only [spec_CondBetween.j4]
  split <;> exact h5 _ _
 have h3 : ∀ k x, ∃ r, spec_CondBetween.j3 (k + 3) a b x = some r := fun k x => by
  simp only [spec_CondBetween.j3]
  split <;> exact h4 _ _ _
 have h2' : ∀ k x, ∃ r, spec_CondBetween.j2 (k + 4) a b x = some r := fun k x => by
  simp only [spec_CondBetween.j2]
  split <;> exact h3 _ _
 have h1' : ∀ k x y, ∃ r, spec_CondBetween.j1 (k + 5) a b x y = some r := fun k x y => by
  simp only [spec_CondBetween.j1]
  split <;> exact h2' _ _
 have h0 : ∀ k x, ∃ r, spec_CondBetween.j0 (k + 6) a b x = some r := fun k x => by
  simp only [spec_CondBetween.j0]
  split <;> exact h1' _ _ _
 unfold spec_CondBetween.f
 split <;> exact h0 4 _
theorem made_seen (n : Nat) : (madeCells (Value.bool false).cells (n * 1)).toList = seenC n [] := by
 simp [madeCells, seenC, Value.cells]
 intro a _
 rw [Nat.mod_one]
 rfl
theorem mk_seen (n : Nat) (hn : n ≤ 1000000) : ∃ C : Array Value, C.toList = seenC n [] ∧ ∀ w : World, (Instr.makeSlice 28 (.int .i64 n) (.int .i64 n)).run Tryd.prog w = .ok (.slice (some ⟨w.heap.size, 0, none⟩) n n) (w.alloc (.cells C 4)) := by
 have hi : (Tryd.prog.info? 4).map (fun i => (i.zero, i.size, i.bytes)) = some (some (.bool false), 1, 1) := by kernel_rfl
 obtain ⟨i0, hi0, hz0, hz1, hz2⟩ := info_parts hi
 refine ⟨_, made_seen n, fun w => ?_⟩
 have h := run_make w 28 4 i0 _ Tryd.underlying28 hi0 hz0 .i64 .i64 n n (by omega) (by omega) (by rw [hz2]; omega) (by omega)
 rw [hz1] at h
 simpa using h
theorem qs_new {w0 V : World} {n : Nat} {AI : Value} {start ncap cond : Int} {C : Array Value} (hb : Below w0.heap.size w0 V) (hC : C.toList = seenC n []) {vs : Value} (hv : vs = .slice (some ⟨V.heap.size, 0, none⟩) n n) {g : Nat} (hg : g = (V.alloc (.cells C 4)).heap.size) (hm : n ≤ maxLen) :
  QS w0 ((V.alloc (.cells C 4)).alloc (.cells #[AI, .int .i64 start, .int .i64 ncap, .int .i64 cond, vs, .slice none 0 0] 106)) w0.heap.size g n AI start ncap cond vs (.slice none 0 0) [] [] := by
 subst hg
 have hcs : C.size = n * 1 := by rw [← Array.length_toList, hC, seenC_len]; omega
 have h1 := hb.alloc hb.size (.cells C 4)
 refine ⟨Mem.blk_new _ _, ?_, World.ownsRow_nil _ _ _ _, h1.alloc h1.size _, h1.size⟩
 subst hv
 refine World.ownsRow.alloc ?_ _
 rw [← hC]
 exact World.ownsRow_lit V C n hb.size hm hcs
def waitB (i : In) : Bool := (spec_progWaits.f i.f0 i.f1 i.f2 i.f3).getD false
theorem wait_f (i : In) : spec_progWaits.f i.f0 i.f1 i.f2 i.f3 = some (waitB i) := by
 unfold waitB spec_progWaits.f
 repeat' split
 all_goals rfl
def waitC (L : List In) (l : List Nat) : List Value := l.map fun x => Value.bool (waitB (inAt L x))
theorem waitC_snoc (L : List In) {l : List Nat} {j : Nat} (h : j < l.length) : waitC L (l.take (j + 1)) = waitC L (l.take j) ++ [Value.bool (waitB (inAt L (l.getD j 0)))] := by
 rw [List.take_add_one, waitC, waitC, List.map_append]
 simp [List.getD_eq_getElem?_getD, h]
theorem info_bool : (Tryd.prog.info? 4).map (fun i => (i.zero, i.size, i.bytes)) = some (some (.bool false), 1, 1) := by kernel_rfl
section
variable (L : List In) (A : Option Addr) (cap : Nat) (start ncap : Int)
set_option maxRecDepth 100000 in
set_option maxHeartbeats 8000000 in
theorem reach_c (w0 : World) (hK : k55.C w0 A L.length L) (hcap : L.length ≤ cap) (hOut : OutOk L) (hL : L.length ≤ 1000000) (hL0 : 0 < L.length) (Ap : Option Addr) (cp : Nat) (ps : List Nat) (hA : IntsAt w0 w0.heap.size .i64 Ap (ps.map fun (x : Nat) => (x : Int)))
  (hps : ∀ x ∈ ps, x < L.length) (hpl : ps.length ≤ 1000000) (before behind cond : Int) (hc : spec_CondBetween.f 10 before behind = some cond) (k : Nat) (l' : List Nat) (hr : reachF k L cond ps [] = some l') :
  Calls Tryd.prog 21 #[.agg #[.slice A L.length cap, .int .i64 start, .int .i64 ncap], .slice Ap ps.length cp, .int .i32 before, .int .i32 behind] w0 fun e w' =>
   ∃ v1 v2, e = .returned (.tuple #[v1, v2]) ∧ w'.ownsRow w0.heap.size 3 1 v1 l'.length (natC l') ∧ w'.ownsRow w0.heap.size 4 1 v2 l'.length (waitC L l') ∧ Below w0.heap.size w0 w' := by
 obtain ⟨C, hC, hmk⟩ := mk_seen L.length hL
 have CC : Hid (∀ W, Calls Tryd.prog 43 #[.int .i32 before, .int .i32 behind] W fun e w' => e = .returned (.int .i64 cond) ∧ ∃ q, w' = W.drewN q) := Lib.hid fun W => (spec_CondBetween.calls 10 before behind cond W hc).mono fun e w' h => ⟨h.1, h.2.out⟩
 have HK := Lib.hid hK; have HO := Lib.hid hOut; have HA := Lib.hid hA; have HPS := Lib.hid hps; have HR := Lib.hid hr; have HC := Lib.hid hC
 clear hK hOut hA hps hr hC hc
 go_enter Tryd.func21, Tryd.ntmps21
 go_upto_region 1 with fail
 have d0 : (w0.alloc (.cells #[.slice A L.length cap, .int .i64 start, .int .i64 ncap] 24)).cell? ⟨w0.heap.size, 0, none⟩ = some (.slice A L.length cap) := by simp
 have d1 : (w0.alloc (.cells #[.slice A L.length cap, .int .i64 start, .int .i64 ncap] 24)).cell? ⟨w0.heap.size, 1, none⟩ = some (.int .i64 start) := by simp
 have d2 : (w0.alloc (.cells #[.slice A L.length cap, .int .i64 start, .int .i64 ncap] 24)).cell? ⟨w0.heap.size, 2, none⟩ = some (.int .i64 ncap) := by simp
 have HW := Lib.hid ((Below.refl w0.heap.size w0).alloc (Nat.le_refl _) (.cells #[.slice A L.length cap, .int .i64 start, .int .i64 ncap] 24))
 have hnb := Mem.blk_new w0 (.cells #[.slice A L.length cap, .int .i64 start, .int .i64 ncap] 24)
 have HNB := Lib.hid hnb; clear hnb
 generalize w0.alloc (.cells #[.slice A L.length cap, .int .i64 start, .int .i64 ncap] 24) = W at *
 go_cut [10] (fun s10 wx => ∃ (g : Nat) (vs : Value), s10 = .pointer (some ⟨g, 0, none⟩) ∧ Hid (QS w0 wx w0.heap.size g L.length (.slice A L.length cap) start ncap cond vs (.slice none 0 0) [] []) ∧ Hid (wx.heap[w0.heap.size]? = some (.cells #[.slice A L.length cap, .int .i64 start, .int .i64 ncap] 24 (0, 0))))
 case first =>
  go_region_held3 (fun w' => w'.cell? ⟨w0.heap.size, 0, none⟩ = some (.slice A L.length cap) ∧ w'.cell? ⟨w0.heap.size, 1, none⟩ = some (.int .i64 start) ∧ w'.cell? ⟨w0.heap.size, 2, none⟩ = some (.int .i64 ncap)) (go_keep) ((go_at_call 43; refine (Calls.mono (CC.out _) ?_); rintro e w1 ⟨rfl, q1, rfl⟩))
  all_goals go_wp2_with fail
  all_goals go_meet
  ·exact ⟨_, _, rfl, Lib.hid (qs_new (below_drewN HW.out (1 + q1)) HC.out rfl (by simp) (by unfold maxLen; omega)), Lib.hid (Mem.blk_old (Mem.blk_old HNB.out _) _)⟩
  ·exact ⟨_, _, rfl, Lib.hid (qs_new (V := W.drewN (1 + q1)) (below_drewN HW.out (1 + q1)) HC.out rfl (by simp) (by unfold maxLen; omega)), Lib.hid (Mem.blk_old (w := (W.alloc (.cells C 4)).drewN (1 + q1)) (Mem.blk_old (w := W) HNB.out _) _)⟩
 case rest =>
  obtain ⟨g, vs, rfl, HQ, HB⟩ := hcut
  clear d0 d1 d2 HNB HW
  go_wp2_with fail
  go_loopg [27] (ps.length + 1) (fun gg s27 wx => ∃ (i : Nat) (vl : Value) (l : List Nat), s27 = .int .i64 i ∧ i ≤ ps.length ∧ ps.length - i < gg ∧ Hid (QS w0 wx w0.heap.size g L.length (.slice A L.length cap) start ncap cond vs vl l l) ∧ Hid (Good L.length l) ∧ Hid (reachF k L cond (ps.drop i) l = some l') ∧ Hid (wx.heap[w0.heap.size]? = some (.cells #[.slice A L.length cap, .int .i64 start, .int .i64 ncap] 24 (0, 0))))
  case atStart => exact ⟨0, _, [], rfl, by omega, by omega, HQ, Lib.hid ⟨List.nodup_nil, by simp⟩, HR, HB⟩
  case round =>
   obtain ⟨i, vl, l, rfl, hi, hg, HQ1, HG1, HR1, HB1⟩ := hrel
   obtain ⟨g', rfl⟩ : ∃ g', gk = g' + 1 := ⟨gk - 1, by omega⟩
   by_cases hlt : i < ps.length
   ·have hb0 : decide ((i : Int) < (ps.length : Int)) = true := decide_eq_true (by omega)
    have hAo := HA.out
    obtain ⟨bP, oP, rfl, hbP, hcP⟩ := hAo (by simp; omega)
    have hc0 := hcP i (by simpa using hlt)
    have hx0 : (ps.map fun (x : Nat) => (x : Int)).getD i 0 = ((ps.getD i 0 : Nat) : Int) := by simp [List.getD_eq_getElem?_getD, hlt]
    rw [hx0] at hc0
    have hpx := HPS.out (ps.getD i 0) (by rw [List.getD_eq_getElem?_getD, List.getElem?_eq_getElem hlt]; exact List.getElem_mem _)
    have hr1 := HR1.out
    rw [List.drop_eq_getElem_cons hlt] at hr1
    simp only [reachF] at hr1
    have hgx : ps[i] = ps.getD i 0 := by simp [List.getD_eq_getElem?_getD, hlt]
    rw [hgx] at hr1
    generalize ps.getD i 0 = x at *
    obtain ⟨l1, hf1, hr2⟩ := Option.bind_eq_some_iff.1 hr1
    have HG2 := Lib.hid (addF_good HO.out k l x l1 hf1 HG1.out hpx)
    have CA := Lib.hid (add_c L A cap start ncap cond w0 HK.out HO.out (by omega) g vs k l x l1 hf1 HG1.out hpx wr vl HQ1.out)
    have HR2 := Lib.hid hr2
    have c0 := low HQ1.out.bel hc0
    clear hr1 hr2 hf1 hc0 hx0 hgx hcP hAo
    go_wp2_with (go_at_call 44; refine (Calls.mono CA.out ?_); rintro e w5 ⟨rfl, hO4, vl4, hQ4⟩; have HQ5 := Lib.hid hQ4; have HB5 := Lib.hid (hO4 _ _ _ HB1.out (by decide) (by decide) (by decide)); clear hQ4 hO4)
    go_roundg g'
    case rel => exact ⟨i + 1, vl4, l1, by go_num, by omega, by omega, HQ5, HG2, HR2, HB5⟩
    case measure => omega
   ·have hb0 : decide ((i : Int) < (ps.length : Int)) = false := decide_eq_false (by omega)
    have hb1 : decide (i < ps.length) = false := decide_eq_false (by omega)
    have hr1 := HR1.out
    rw [List.drop_of_length_le (by omega)] at hr1
    obtain rfl := Option.some.inj hr1
    have c5 : wr.cell? ⟨g, 5, none⟩ = some vl := by rw [cell_of_row wr g 5 _ _ _ HQ1.out.blk]; rfl
    have hgl := HG1.out.len
    have hlist := HQ1.out.list
    obtain ⟨Al, cl, rfl⟩ := own_slice hlist
    have HLS := Lib.hid hlist
    have HBL := Lib.hid HQ1.out.bel
    clear hr1 hlist
    go_wp2_with fail
    clear c5
    go_loopg [40, 9] (l.length + 1) (fun gg s40 s9 wx => ∃ (j : Nat), s40 = .int .i64 j ∧ j ≤ l.length ∧ l.length - j < gg ∧ Hid (wx.ownsRow w0.heap.size 3 1 (.slice Al l.length cl) l.length (natC l)) ∧ Hid (wx.ownsRow w0.heap.size 4 1 s9 j (waitC L (l.take j))) ∧ Hid (wx.heap[w0.heap.size]? = some (.cells #[.slice A L.length cap, .int .i64 start, .int .i64 ncap] 24 (0, 0))) ∧ Hid (Below w0.heap.size w0 wx) ∧ Hid (wx.heap[g]? = some (.cells #[.slice A L.length cap, .int .i64 start, .int .i64 ncap, .int .i64 cond, vs, .slice Al l.length cl] 106 (0, 0))))
    case atStart => exact ⟨0, rfl, by omega, by omega, HLS, Lib.hid (World.ownsRow_nil _ _ _ _), HB1, HBL, Lib.hid HQ1.out.blk⟩
    case round =>
     obtain ⟨j, rfl, hj, hgj, HL2, HW2, HB2, HBW, HC5⟩ := hrel
     obtain ⟨g'', rfl⟩ : ∃ g'', gk = g'' + 1 := ⟨gk - 1, by omega⟩
     have hws : w0.heap.size ≤ wr.heap.size := HBW.out.size
     by_cases hlt2 : j < l.length
     ·have hb0' : decide ((j : Int) < (l.length : Int)) = true := decide_eq_true (by omega)
      obtain ⟨gl, cl', hvl, hge, hltl⟩ := HL2.out.form (by omega)
      have hAl : Al = some ⟨gl, 0, none⟩ := by injection hvl
      subst hAl
      have hc0 := HL2.out.cells (g := gl) rfl j _ (natC_at hlt2)
      rw [Addr.add_lit, Nat.zero_add] at hc0
      have hpx := HG1.out.2 (l.getD j 0) (by rw [List.getD_eq_getElem?_getD, List.getElem?_eq_getElem hlt2]; exact List.getElem_mem _)
      have hsn := waitC_snoc L hlt2
      generalize l.getD j 0 = x at *
      have hK1 := elem4 HK.out hpx
      have hwf := wait_f (inAt L x)
      generalize inAt L x = I at *
      obtain ⟨bI, oI, A3, c3, rfl, e0, e1, e2, e3, l3, g3⟩ := hK1
      have CW : Hid (∀ W, Below w0.heap.size w0 W → Calls Tryd.prog 22 #[.agg #[.int .i64 I.f0, .int .i64 I.f1, .int .i64 I.f2, .slice A3 I.f3.length c3]] W fun e w' => e = .returned (.bool (waitB I)) ∧ Below W.heap.size W w') :=
       Lib.hid fun W hW => (spec_progWaits.calls I.f0 I.f1 I.f2 A3 c3 I.f3 (waitB I) W (Kd.C_below g3 hW) l3 hwf).mono fun e w' h => ⟨h.1, h.2⟩
      replace e0 := low HBW.out e0
      replace e1 := low HBW.out e1
      replace e2 := low HBW.out e2
      replace e3 := low HBW.out e3
      have d0 : wr.cell? ⟨w0.heap.size, 0, none⟩ = some (.slice (some ⟨bI, oI, none⟩) L.length cap) := by rw [cell_of_row wr _ 0 _ _ _ HB2.out]; rfl
      have HSN := Lib.hid hsn
      clear hwf l3 g3 hsn
      generalize waitB I = wb at *
      obtain ⟨A9, c9, h9⟩ := own_slice HW2.out
      subst h9
      go_wp2_with (first
       | (go_at_call 22; refine (Calls.mono (CW.out _ HBW.out) ?_); rintro e w5 ⟨rfl, hb5⟩; have HW5 := Lib.hid (own_move HW2.out (fun b hb => hb5.block b (World.ownsRow.lt HW2.out b hb).2)); have HL5 := Lib.hid (own_move HL2.out (fun b hb => hb5.block b (World.ownsRow.lt HL2.out b hb).2)); have HB5 := Lib.hid ((hb5.block _ (lt_of_block HB2.out)).trans HB2.out); have HC6 := Lib.hid ((hb5.block _ (lt_of_block HC5.out)).trans HC5.out); have HBW5 := Lib.hid (HBW.out.trans (hb5.mono hws)); have hws5 := HBW5.out.size; clear hb5)
       | (at_builtin; refine Mem.wp_app1 rfl _ _ _ rfl w0.heap.size 4 (.bool false) 1 Tryd.underlying28 info_bool rfl _ j (waitC L (l.take j)) rfl HW5.out (.bool wb) rfl rfl (by unfold maxLen; omega) (by omega) hws5 ?_; intro v6 w6 ho6 hg6 hb6))
      go_roundg g''
      case rel => exact ⟨j + 1, by go_num, by omega, by omega, Lib.hid (((HL5.out.alloc _).kept hg6 (Or.inr fun e => Mem.own_apart2 (HW5.out.alloc (.cells #[.bool wb] 4)) (HL5.out.alloc (.cells #[.bool wb] 4)) (by decide) gl rfl e.symm))), Lib.hid (by rw [HSN.out]; exact ho6), Lib.hid (Mem.blk_grown (Mem.blk_old HB5.out _) hg6 (Mem.own_apart (HW5.out.alloc (.cells #[.bool wb] 4)) (Mem.blk_old HB5.out _) (by decide))), Lib.hid (HBW5.out.trans hb6), Lib.hid (Mem.blk_grown (Mem.blk_old HC6.out _) hg6 (Mem.own_apart (HW5.out.alloc (.cells #[.bool wb] 4)) (Mem.blk_old HC6.out _) (by decide)))⟩
      case measure => omega
     ·have hb0' : decide ((j : Int) < (l.length : Int)) = false := decide_eq_false (by omega)
      have hb1' : decide (j < l.length) = false := decide_eq_false (by omega)
      obtain rfl : j = l.length := by omega
      rw [List.take_length] at HW2
      have c5 : wr.cell? ⟨g, 5, none⟩ = some (.slice Al l.length cl) := by rw [cell_of_row wr g 5 _ _ _ HC5.out]; rfl
      go_wp2_with fail
      go_ret2
      exact ⟨_, _, rfl, HL2.out, HW2.out, HBW.out⟩
end
end Go.Proofs.YtcncclglmgdinaaDoor.Ps
