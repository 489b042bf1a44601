/- The threads' machine: the walk of 'step'. -/
import Derived.Test.YtcncclglmgdinaaDoorPuA1FnPgStep
import Derived.StillTailTactics
import Derived.Deep.CutBlock
import Derived.Test.YtcncclglmgdinaaDoorRegA
import Derived.Maps.AppendAt
namespace Go.Proofs.YtcncclglmgdinaaDoor.Ps
open Go.RowKit Mem Go.Proofs.YtcncclglmgdinaaDoor.Fold Go.Proofs.YtcncclglmgdinaaDoor.PFnPgStep Go.Proofs.YtcncclglmgdinaaDoorW.PrintWords Go.Proofs.YtcncclglmgdinaaDoorW.PrintLast Go.Proofs.YtcncclglmgdinaaDoorW.PrintMore
set_option linter.unusedVariables false
theorem takes_op {I : In} {c : Int} : (I.f0 = 8 → takesF I c = (c == I.f3.getD 0 0)) ∧ (I.f0 = 9 → takesF I c = true) ∧ (I.f0 = 10 → takesF I c = (c != 10)) := by
 refine ⟨fun h => ?_, fun h => by simp [takesF, h], fun h => by simp [takesF, h]⟩
 simp only [takesF, h, if_true]
 exact Bool.eq_iff_iff.2 (by simp only [beq_iff_eq]; exact eq_comm)
theorem pow_nil {la : List Nat} {D j : Nat} (h : D ≤ j) : (la.take D).drop j = [] := List.drop_eq_nil_of_le (by rw [List.length_take]; omega)
theorem pow_cons {la : List Nat} {D j : Nat} (h : j < D) (hD : D ≤ la.length) : (la.take D).drop j = la.getD j 0 :: (la.take D).drop (j + 1) := by
 have hl : j < (la.take D).length := by rw [List.length_take]; omega
 rw [List.drop_eq_getElem_cons hl, List.getElem_take]
 simp [List.getD_eq_getElem?_getD, List.getElem?_eq_getElem (show j < la.length by omega)]
theorem Kp.th {w w' : World} (h : Kp w w') {b : Nat} {iv : Option Addr} (ht : TH w b iv) : TH w' b iv := by
 obtain ⟨A, c, ht⟩ := ht
 exact ⟨A, c, h _ _ _ ht (by decide) (by decide)⟩
theorem foldV_up {B B' : Nat} {w : World} (h : FoldV B w) (hB : B ≤ B') : FoldV B' w := by
 obtain ⟨ha, ⟨R, o, c, hR, ho, ht⟩, ⟨R2, o2, c2, hR2, ho2, ht2⟩, b1, b2, b3⟩ := h
 exact ⟨ha, ⟨R, o, c, by omega, ho, ht⟩, ⟨R2, o2, c2, by omega, ho2, ht2⟩, by omega, by omega, by omega⟩
theorem app1_op {P : Program} {w : World} {o : Oper} {a : Act} {Q : Exit → Act → World → Prop} {K : Act → World → Prop} (s x : Operand) (t : TypeId)
  (ho : o.op = .call { callee := .builtin .append, args := #[s, x], argTypes := #[t, t] })
  (base : Nat) (e : TypeId) (z : Value) (bytes : Nat) (ht : P.underlying t = some (.slice e)) (hi : (P.info? e).map (fun i => (i.zero, i.size, i.bytes)) = some (some z, 1, bytes))
  (hzs : z.cells.size = 1) (v : Value) (n : Nat) (xs : List Value) (hs : a.eval s = v) (hown : w.ownsRow base e 1 v n xs) (u : Value) (h1 : u.oneCell' = true)
  (hx : a.eval x = .slice (some ⟨w.heap.size, 0, none⟩) 1 1)
  (h63 : n + 1 ≤ maxLen) (hbytes : (n + 1) * bytes ≤ 140737488355328) (hbase : base ≤ w.heap.size)
  (h : ∀ v' w', w'.ownsRow base e 1 v' (n + 1) (xs ++ [u]) → (w.alloc (.cells #[u] e)).grownBy w' v.ownBlock → Below base w w' → K (a.put o.dst v') w') :
  Oper.wp P o a (w.alloc (.cells #[u] e)) K Q := by
 obtain ⟨i0, hi0, hz0, hz1, hz2⟩ := info_parts hi
 obtain ⟨v', w', hr, ho', hg, _, hat⟩ := run_append_own_at (P := P) (w.alloc (.cells #[u] e)) base t o.type e i0 z 1 bytes ht hi0 hz0 hz1 hz2 hzs (by omega) v n xs (hown.alloc _) ⟨w.heap.size, 0, none⟩ 1 1 [u] rfl (by
  intro j u' hj
  cases j with
  | zero =>
   simp at hj
   subst hj
   have : (⟨w.heap.size, 0, none⟩ : Addr).add 0 = ⟨w.heap.size, 0, none⟩ := by simp [Addr.add]
   rw [this]
   simp
  | succ j => simp at hj) (by simpa using h1) h63 hbytes (by simp; omega)
 unfold Oper.wp execOp
 simp only [ho, resolve, invoke, builtin, Sem.run_bind, Sem.run_pure, Result.andThen_ok, List.map_toArray, List.map_cons, List.map_nil, hs, hx, hr]
 refine h v' w' ho' hg ?_
 refine ((Below.refl base w).alloc hbase _).grown hg (by simp; omega) fun k hk => ?_
 exact (hown.lt k hk).1
theorem MS.keep_pooled {w0 w w2 : World} {B bM bP qo n s d cm : Nat} {cs : Array Value} {pv : Value} {l : List Nat} {ths : List Value} {P : List Nat} {o : Obj} (h : MS w0 w B bM bP qo n s d cm cs pv l ths P) (hg : (w.alloc o).grownBy w2 pv.ownBlock) {b : Nat} {c : Array Value} {t : TypeId} (hb : w.heap[b]? = some (.cells c t (0, 0))) (ht : t ≠ 126) : w2.heap[b]? = some (.cells c t (0, 0)) :=
 Mem.blk_grown (Mem.blk_old hb o) hg (Mem.own_apart (World.ownsRow.alloc h.pool o) (Mem.blk_old hb o) ht)
theorem reach_nx {k : Nat} {L : List In} {cond c : Int} {lg : Bool} {pc : Nat} {r l1 lf : List Nat} (h : reachF k L cond (nxF L c lg (pc :: r)) l1 = some lf) (hw : waitB (inAt L pc) = true) (h4 : (inAt L pc).f0 ≠ 4) :
  (takesF (inAt L pc) c = true → ∃ l2, addF k L cond l1 (inAt L pc).f1.toNat = some l2 ∧ reachF k L cond (nxF L c lg r) l2 = some lf) ∧ (takesF (inAt L pc) c = false → reachF k L cond (nxF L c lg r) l1 = some lf) := by
 simp only [nxF] at h
 rw [if_neg h4, hw, Bool.true_and] at h
 refine ⟨fun ht => ?_, fun ht => ?_⟩
 ·rw [if_pos ht] at h
  simp only [reachF] at h
  exact Option.bind_eq_some_iff.1 h
 ·rw [ht, if_neg (by decide)] at h
  exact h
theorem reach_4 {k : Nat} {L : List In} {cond c : Int} {lg : Bool} {pc : Nat} {r l1 lf : List Nat} (h : reachF k L cond (nxF L c lg (pc :: r)) l1 = some lf) (h4 : (inAt L pc).f0 = 4) :
  (lg = true → reachF k L cond (nxF L c lg r) l1 = some lf) ∧ (lg = false → l1 = lf) := by
 simp only [nxF] at h
 rw [if_pos h4] at h
 refine ⟨fun ht => ?_, fun ht => ?_⟩
 ·rw [if_pos ht] at h; exact h
 ·rw [ht, if_neg (by decide)] at h
  simp only [reachF] at h
  exact Option.some.inj h
theorem info_thp : (Tryd.prog.info? 126).map (fun i => (i.zero, i.size, i.bytes)) = some (some (.pointer none), 1, 8) := by kernel_rfl
theorem SI.rej {F : Fix} {d0 : Nat} {E : Array Value} {la : List Nat} {tha : List Value} {w : World} {cs : Array Value} {pv : Value} {l1 : List Nat} {ths1 : List Value} {P : List Nat} {u : Option Nat} {j : Nat} {md : Bool} (h : SI F d0 E la tha w cs pv l1 ths1 P u j 0 md) (j' : Nat) : SI F d0 E la tha w cs pv l1 ths1 P u j' 0 md := by
 refine ⟨h.ms, h.q4, h.ent, h.rq, h.nd0, h.eq, fun k a b => by omega, ?_, h.tu, by have := h.le; omega, h.c3, h.c7, h.lt, h.dl⟩
 have hn := h.nd
 rw [List.take_zero, List.drop_nil] at hn ⊢
 exact hn
theorem SI.qval {F : Fix} {d0 : Nat} {E : Array Value} {la : List Nat} {tha : List Value} {w : World} {cs : Array Value} {pv : Value} {l1 : List Nat} {ths1 : List Value} {P : List Nat} {u : Option Nat} {j D : Nat} {md : Bool} (h : SI F d0 E la tha w cs pv l1 ths1 P u j D md) (hj : j < D) (hw : waitB (inAt F.L (la.getD j 0)) = true) : ∃ b, tha.getD j (.pointer none) = .pointer (some ⟨b, 0, none⟩) ∧ (∃ iv, TH w b iv) ∧ F.B ≤ b := by
 have hE := h.th j (Nat.le_refl _) hj
 unfold EntOk at hE
 rw [if_pos hw] at hE
 obtain ⟨b, hv, ht, hB⟩ := hE
 exact ⟨b, hv, ⟨_, ht⟩, hB⟩
/-- The state behind the parting by an instruction's kind: whether the character was taken. -/
def SW (F : Fix) (k : Nat) (cond fl : Int) (bC : Nat) (c : Int) (lg : Bool) (d0 : Nat) (E : Array Value) (la : List Nat) (tha : List Value) (pc : Nat) (lf l1 : List Nat) (ths1 : List Value) (b j : Nat) (w : World) (ad : Bool) : Prop :=
 ∃ cs2 pv2 P2 D2 md2, (D2 = la.length ∨ D2 = 0) ∧ SI F d0 E la tha w cs2 pv2 l1 ths1 P2 (some b) (j + 1) D2 md2 ∧ (ad = true → (inAt F.L pc).f0 ≠ 4 ∧ ∃ l2, addF k F.L cond l1 (inAt F.L pc).f1.toNat = some l2 ∧ reachF k F.L cond (nxF F.L c lg ((la.take D2).drop (j + 1))) l2 = some lf) ∧
  (ad = false → reachF k F.L cond (nxF F.L c lg ((la.take D2).drop (j + 1))) l1 = some lf) ∧ (md2 || mdF F.L ((la.take D2).drop (j + 1))) = mdF F.L la ∧ w.heap[bC]? = some (.cells #[.int .u64 fl] 96 (0, 0)) ∧ TH w b (some ⟨F.g, pc * 4, none⟩)
section
variable {F : Fix} {k : Nat} {cond fl : Int} {bC : Nat} {c : Int} {lg : Bool} {d0 : Nat} {E : Array Value} {la : List Nat} {tha : List Value} {pc : Nat} {lf l1 : List Nat} {ths1 : List Value} {b j D : Nat} {w : World} {md : Bool} {cs1 : Array Value} {pv1 : Value} {P1 : List Nat}
theorem SW.one (hD : D = la.length ∨ D = 0) (h : SI F d0 E la tha w cs1 pv1 l1 ths1 P1 (some b) (j + 1) D md) (hr : reachF k F.L cond (nxF F.L c lg (pc :: (la.take D).drop (j + 1))) l1 = some lf) (hm : (md || mdF F.L (pc :: (la.take D).drop (j + 1))) = mdF F.L la) (hw : waitB (inAt F.L pc) = true)
  (h4 : (inAt F.L pc).f0 ≠ 4) (hC : w.heap[bC]? = some (.cells #[.int .u64 fl] 96 (0, 0))) (hT : TH w b (some ⟨F.g, pc * 4, none⟩)) {ad : Bool} (ha : ad = takesF (inAt F.L pc) c) : SW F k cond fl bC c lg d0 E la tha pc lf l1 ths1 b j w ad := by
 obtain ⟨r1, r2⟩ := reach_nx hr hw h4
 subst ha
 rw [md_cons, decide_eq_false h4, Bool.false_or] at hm
 exact ⟨_, _, _, _, _, hD, h, fun h => ⟨h4, r1 h⟩, r2, hm, hC, hT⟩
theorem SW.four (hD : D = la.length ∨ D = 0) (h : SI F d0 E la tha w cs1 pv1 l1 ths1 P1 (some b) (j + 1) D md) (hr : reachF k F.L cond (nxF F.L c true (pc :: (la.take D).drop (j + 1))) l1 = some lf) (hm : (md || mdF F.L (pc :: (la.take D).drop (j + 1))) = mdF F.L la)
  (h4 : (inAt F.L pc).f0 = 4) (hC : w.heap[bC]? = some (.cells #[.int .u64 fl] 96 (0, 0))) (hT : TH w b (some ⟨F.g, pc * 4, none⟩)) : SW F k cond fl bC c true d0 E la tha pc lf l1 ths1 b j (w.setCell ⟨F.bM, 7, none⟩ (.bool true)) false := by
 obtain ⟨r1, _⟩ := reach_4 hr h4
 rw [md_cons, decide_eq_true h4, Bool.true_or, Bool.or_true] at hm
 obtain ⟨_, kp, _⟩ := h.ms.cset h.q4 (Or.inr rfl) (.bool true)
 exact ⟨_, _, _, _, _, hD, h.mset, fun h => by simp at h, fun _ => r1 rfl, by rw [Bool.true_or]; exact hm, kp _ _ _ hC (by decide) (by decide), kp.th hT⟩
theorem SW.cut {j' : Nat} (h : SI F d0 E la tha w cs1 pv1 l1 ths1 P1 (some b) j' 0 true) (hr : reachF k F.L cond (nxF F.L c false (pc :: (la.take D).drop (j + 1))) l1 = some lf) (hm : (md || mdF F.L (pc :: (la.take D).drop (j + 1))) = mdF F.L la)
  (h4 : (inAt F.L pc).f0 = 4) (hC : w.heap[bC]? = some (.cells #[.int .u64 fl] 96 (0, 0))) (hT : TH w b (some ⟨F.g, pc * 4, none⟩)) : SW F k cond fl bC c false d0 E la tha pc lf l1 ths1 b j w false := by
 obtain ⟨_, r2⟩ := reach_4 hr h4
 rw [md_cons, decide_eq_true h4, Bool.true_or, Bool.or_true] at hm
 refine ⟨_, _, _, 0, true, Or.inr rfl, h.rej (j + 1), fun h => by simp at h, fun _ => ?_, by rw [Bool.true_or]; exact hm, hC, hT⟩
 rw [List.take_zero, List.drop_nil]
 simp only [nxF, reachF]
 rw [r2 rfl]
end
section
variable (F : Fix) (start : Nat) (ncap : Int) (cI : Nat) (R : List Value) (wb : World) (cond fl : Int) (bC : Nat) (c : Int) (lg : Bool) (d0 : Nat) (E : Array Value)
set_option maxRecDepth 100000 in
set_option maxHeartbeats 16000000 in
theorem step_c (BF : Nat) (S : SQ F.L ncap start) (hB : F.B = F.w0.heap.size) (hPF : PF wb F.w0 F.bP start ncap (.slice (some ⟨F.g, 0, none⟩) (F.L.map cvt).length cI) R (F.L.map cvt)) (hn : F.L.length ≤ F.n) (hn2 : F.n ≤ 1000000) (hcm : F.cm ≤ 1000000)
  (hmt : ∀ op, 0 < op → op < 64 → regexp_lazyFlag_match.f 10 fl op = some (bits .and .i64 cond op == op)) (hFo : FoldV BF F.w0) (hBF : BF ≤ F.w0.heap.size) (k : Nat) (la : List Nat) (tha : List Value) (lf : List Nat) (hk : reachF k F.L cond (nxF F.L c lg la) [] = some lf) (hla : ∀ x ∈ la, x < F.L.length) (hln : la.length ≤ F.n) (w : World) (cs : Array Value) (pv : Value) (P0 : List Nat)
  (hSI : SI F d0 E la tha w cs pv [] [] P0 none 0 la.length false) (hC : w.heap[bC]? = some (.cells #[.int .u64 fl] 96 (0, 0))) (bR : Nat) (cr : Array Value) (h0 : cs[0]? = some (.pointer (some ⟨bR, 0, none⟩))) (hR : w.heap[bR]? = some (.cells cr 132 (0, 0))) (h15 : cr[15]? = some (.bool lg)) :
  Calls Tryd.prog 41 #[.pointer (some ⟨F.bM, 0, none⟩), .pointer (some ⟨F.bM, 2, none⟩), .pointer (some ⟨F.bM, F.qo, none⟩), .int .i64 0, .int .i64 1, .int .i32 c, .pointer (some ⟨bC, 0, none⟩)] w
   fun e w' => e = .returned (.tuple #[]) ∧ ∃ cs' pv' ths' P' j', SI F d0 E la tha w' cs' pv' lf ths' P' none j' 0 (mdF F.L la) := by
 have m0 := cell_at hSI.ms.blk h0
 have r15 := cell_at hR h15
 have HADD : Hid _ := Lib.hid (fun (Ac : Option Addr) (cc : Nat) => addm_c F start ncap cI R wb cond fl bC 1 Ac cc S hB hPF hn hn2 hcm hmt k)
 have HS := Lib.hid S; have HPF := Lib.hid hPF; have HFO := Lib.hid hFo; have HSI := Lib.hid hSI; have HC := Lib.hid hC; have HLA := Lib.hid hla; have HK := Lib.hid hk
 have hal : la.length ≤ 2000 := by have := hSI.le; omega
 clear S hPF hmt hFo hk hla hSI hC h0 hR h15
 go_enter Tryd.func41, Tryd.ntmps41
 go_upto_block 0 with fail
 clear m0 r15
 go_wp2_with fail
 go_loopg [15] (la.length + 2) (fun gg s15 wx => ∃ (j D : Nat) (cs1 : Array Value) (pv1 : Value) (l1 : List Nat) (ths1 : List Value) (P1 : List Nat) (md : Bool), s15 = .int .i64 j ∧ la.length + 1 - j < gg ∧ j ≤ la.length ∧ (D = la.length ∨ D = 0) ∧ Hid (SI F d0 E la tha wx cs1 pv1 l1 ths1 P1 none j D md) ∧ Hid (reachF k F.L cond (nxF F.L c lg ((la.take D).drop j)) l1 = some lf) ∧ Hid ((md || mdF F.L ((la.take D).drop j)) = mdF F.L la) ∧ Hid (Good F.L.length l1) ∧ Hid (wx.heap[bC]? = some (.cells #[.int .u64 fl] 96 (0, 0))))
 case atStart => exact ⟨0, la.length, cs, pv, [], [], P0, false, rfl, by omega, by omega, Or.inl rfl, HSI, Lib.hid (by simpa using HK.out), Lib.hid (by simp), Lib.hid ⟨List.nodup_nil, by simp⟩, HC⟩
 case round =>
  obtain ⟨j, D, cs1, pv1, l1, ths1, P1, md, rfl, hg, hj, hD, HS1, HR1, HM1, HG1, HC1⟩ := hrel
  obtain ⟨g', rfl⟩ : ∃ g', gk = g' + 1 := ⟨gk - 1, by omega⟩
  have kd := cell_at HS1.out.ms.blk HS1.out.c3
  by_cases hlt : j < D
  ·have hb0 : decide ((j : Int) < (D : Int)) = true := decide_eq_true (by omega)
   have hcc := pow_cons hlt HS1.out.dl
   have hr := HR1.out
   have hm := HM1.out
   rw [hcc] at hr hm
   have x1 : wr.cell? ⟨d0, j * 2 + 1, none⟩ = some (tha.getD j (.pointer none)) := cell_at HS1.out.rq (HS1.out.eq j (by have := HS1.out.dl; omega)).2
   have hpcL : la.getD j 0 < F.L.length := HLA.out _ (getD_mem (by have := HS1.out.dl; omega))
   cases hw : waitB (inAt F.L (la.getD j 0)) with
   | false =>
    have h4 : (inAt F.L (la.getD j 0)).f0 ≠ 4 := fun e => by rw [wait4 e] at hw; simp at hw
    obtain ⟨hv, h2⟩ := HS1.out.skip hlt hw
    rw [nx_wait hw h4] at hr
    rw [md_cons, decide_eq_false h4, Bool.false_or] at hm
    rw [hv] at x1
    have HR2 := Lib.hid hr; have HM2 := Lib.hid hm; have HS2 := Lib.hid h2
    clear hr hm h2 hv h4 hw hcc hpcL
    as_aux_lemma =>
     go_wp2_with fail
     go_roundg g'
     case rel => exact ⟨j + 1, D, cs1, pv1, l1, ths1, P1, md, by go_num, by omega, by omega, hD, HS2, HR2, HM2, HG1, HC1⟩
     case measure => omega
   | true =>
    obtain ⟨b, hv, ht, h2⟩ := HS1.out.take hlt hw
    rw [hv] at x1
    have HT2 := Lib.hid ht; have HS2 := Lib.hid h2; have HR2 := Lib.hid hr; have HM2 := Lib.hid hm; have HW := Lib.hid hw
    generalize la.getD j 0 = pc at *
    obtain ⟨A, cp, hth⟩ := ht
    have t1 : wr.cell? ⟨b, 1, none⟩ = some (.slice A 0 cp) := cell_at hth rfl
    have m7 := cell_at HS1.out.ms.blk HS1.out.c7
    clear hr hm h2 hv hw hcc hth
    go_upto_region 7 with fail
    go_cut [79] (fun s79 wx => s79 = .bool false ∧ ∃ q, wx = wr.drewN q)
    case first =>
     as_aux_lemma =>
      cases lg with
      | false =>
       go_quiet (fail)
       go_wp2_with fail
       go_meet
       exact ⟨rfl, nq, rfl⟩
      | true =>
       cases md with
       | false =>
        go_quiet (fail)
        go_wp2_with fail
        go_meet
        exact ⟨rfl, nq, rfl⟩
       | true =>
        go_quiet (fail)
        go_wp2_with fail
        go_meet
        exact ⟨rfl, nq, rfl⟩
    case rest =>
     obtain ⟨rfl, q, rfl⟩ := hcut
     have HS3 := Lib.hid (HS2.out.below (below_drewN (Below.refl _ _) q))
     have HC3 : Hid ((wr.drewN q).heap[bC]? = some (.cells #[.int .u64 fl] 96 (0, 0))) := Lib.hid HC1.out
     have HT3 : Hid (TH (wr.drewN q) b (some ⟨F.g, pc * 4, none⟩)) := Lib.hid HT2.out
     clear kd x1 t1 m7 HS1 HS2 HC1 HT2 HR1 HM1
     generalize wr.drewN q = w1 at *
     obtain ⟨A, cp, hth⟩ := HT3.out
     have t0 : w1.cell? ⟨b, 0, none⟩ = some (.pointer (some ⟨F.g, pc * 4, none⟩)) := cell_at hth rfl
     have t1 : w1.cell? ⟨b, 1, none⟩ = some (.slice A 0 cp) := cell_at hth rfl
     have hb1 : Below F.w0.heap.size F.w0 w1 := by rw [← hB]; exact HS3.out.ms.bel
     have HP1 := Lib.hid (HPF.out.below hb1)
     have HF1 := Lib.hid (foldV_up (HFO.out.below hb1 hBF) (Nat.le_trans hBF hb1.size))
     obtain ⟨e0, e1, e2, e3⟩ := HP1.out.cells4 rfl (pc := pc) (by rw [List.length_map]; exact hpcL)
     rw [at_cvt hpcL] at e0 e1 e2
     rw [cvt0] at e0
     have hops := ops_wait (HS.out.inst pc hpcL) HW.out
     obtain ⟨op, hop⟩ : ∃ op, (inAt F.L pc).f0 = op := ⟨_, rfl⟩
     rw [hop] at e0 hops
     have HOP := Lib.hid hop
     have HPC := Lib.hid hpcL
     clear hth hb1 hop hpcL
     go_upto_block 2 with fail
     go_cut [19] (fun s19 wx => ∃ ad, s19 = .bool ad ∧ Hid (SW F k cond fl bC c lg d0 E la tha pc lf l1 ths1 b j wx ad))
     case first =>
      obtain ⟨top1, top2, top3⟩ := takes_op (I := inAt F.L pc) (c := c)
      rcases hops with rfl | rfl | rfl | rfl | rfl
      ·have z7 := fz_at HS3.out.ms.blk 7
       have k7 := cell_at HS3.out.ms.blk HS3.out.c7
       have H4 : Hid ((inAt F.L pc).f0 = 4) := HOP
       clear top1 top2 top3 e1 e2 e3
       cases lg with
       | true =>
        go_wp2_with fail
        go_meet
        exact ⟨false, rfl, Lib.hid (SW.four hD HS3.out HR2.out HM2.out H4.out HC3.out HT3.out)⟩
       | false =>
        as_aux_lemma =>
         have k3 := cell_at HS3.out.ms.blk HS3.out.c3
         have hd1 : (j : Int) + 1 ≤ (D : Int) := by omega
         go_upto_block 3 with fail
         obtain ⟨AS, hAS⟩ : ∃ A : Option Addr, (if F.n = j + 1 then some (⟨d0, 0, none⟩ : Addr) else some ⟨d0, (j + 1) * 2, none⟩) = A := ⟨_, rfl⟩
         rw [hAS]
         have HAS := Lib.hid hAS
         have hdl : D ≤ F.n := by omega
         obtain ⟨m, hm⟩ : ∃ m, D - (j + 1) = m := ⟨_, rfl⟩
         rw [hm]
         clear k3 z7 k7 hAS t0 t1 e0
         go_wp2_with fail
         go_loopg [153] (m + 1) (fun gg s153 wx => ∃ (i : Nat) (cs2 : Array Value) (pv2 : Value) (P2 : List Nat), s153 = .int .i64 i ∧ i ≤ m ∧ m - i < gg ∧ Hid (SI F d0 E la tha wx cs2 pv2 l1 ths1 P2 (some b) (j + 1 + i) D md) ∧ Hid (wx.heap[bC]? = some (.cells #[.int .u64 fl] 96 (0, 0))) ∧ Hid (TH wx b (some ⟨F.g, pc * 4, none⟩)))
         case atStart => exact ⟨0, cs1, pv1, P1, rfl, by omega, by omega, HS3, HC3, HT3⟩
         case round =>
          clear HS3 HC3 HT3 HP1 HF1
          obtain ⟨i, cs2, pv2, P2, rfl, him, hg2, HS4, HC4, HT4⟩ := hrel
          obtain ⟨g2, rfl⟩ : ∃ g', gk = g' + 1 := ⟨gk - 1, by omega⟩
          by_cases hi : i < m
          ·have hb2 : decide ((i : Int) < (m : Int)) = true := decide_eq_true (by omega)
           obtain rfl : AS = some ⟨d0, (j + 1) * 2, none⟩ := by rw [← HAS.out, if_neg (by omega)]
           have hoff : (j + 1 + i) * 2 = (j + 1) * 2 + i * 2 := by omega
           obtain ⟨x0, x1⟩ := HS4.out.eq (j + 1 + i) (by omega)
           have y0 := cell_at HS4.out.rq x0
           have y1 := cell_at HS4.out.rq x1
           rw [hoff] at y0 y1
           clear x0 x1 hoff
           cases hw : waitB (inAt F.L (la.getD (j + 1 + i) 0)) with
           | false =>
            obtain ⟨hv, h2⟩ := HS4.out.qskip (by omega) hw
            rw [hv] at y1
            have HS5 := Lib.hid h2
            clear hw hv h2
            generalize la.getD (j + 1 + i) 0 = x at *
            go_upto_region 21 with fail
            have hb3 : Below wr.heap.size wr (wr.alloc (.cells #[.int .u32 (x : Nat), (Value.pointer none)] 135)) := (Below.refl _ _).alloc (Nat.le_refl _) _
            have HS6 := Lib.hid (HS5.out.below hb3)
            have HC6 := Lib.hid ((hb3.block _ (lt_of_block HC4.out)).trans HC4.out)
            have HT6 : Hid (TH (wr.alloc (.cells #[.int .u32 (x : Nat), (Value.pointer none)] 135)) b (some ⟨F.g, pc * 4, none⟩)) := Lib.hid (by
             obtain ⟨A, c, ht⟩ := HT4.out
             exact ⟨A, c, (hb3.block _ (lt_of_block ht)).trans ht⟩)
            have n1 : (wr.alloc (.cells #[.int .u32 (x : Nat), (Value.pointer none)] 135)).cell? ⟨wr.heap.size, 1, none⟩ = some (Value.pointer none) := cell_at (Mem.blk_new wr _) rfl
            clear hb3 y0 y1 HS5 HS4 HC4 HT4
            generalize wr.alloc (.cells #[.int .u32 (x : Nat), (Value.pointer none)] 135) = w3 at *
            generalize wr.heap.size = T at *
            go_wp2_with fail
            go_roundg g2
            case rel => exact ⟨i + 1, cs2, pv2, P2, by go_num, by omega, by omega, HS6, HC6, HT6⟩
            case measure => omega
           | true =>
            obtain ⟨tb, hv, hth, htB⟩ := HS4.out.qval (by omega) hw
            rw [hv] at y1
            have HV := Lib.hid hv; have HW2 := Lib.hid hw
            clear hw hv
            have hx : ∃ x, la.getD (j + 1 + i) 0 = x := ⟨_, rfl⟩
            obtain ⟨x, hx⟩ := hx
            rw [hx] at y0
            clear hx
            go_upto_region 21 with fail
            have hb3 : Below wr.heap.size wr (wr.alloc (.cells #[.int .u32 (x : Nat), (Value.pointer (some ⟨tb, 0, none⟩))] 135)) := (Below.refl _ _).alloc (Nat.le_refl _) _
            have HS6 := Lib.hid (HS4.out.below hb3)
            have HC6 := Lib.hid ((hb3.block _ (lt_of_block HC4.out)).trans HC4.out)
            have HT6 : Hid (TH (wr.alloc (.cells #[.int .u32 (x : Nat), (Value.pointer (some ⟨tb, 0, none⟩))] 135)) b (some ⟨F.g, pc * 4, none⟩)) := Lib.hid (by
             obtain ⟨A, c, ht⟩ := HT4.out
             exact ⟨A, c, (hb3.block _ (lt_of_block ht)).trans ht⟩)
            have HQ6 : Hid (∃ iv, TH (wr.alloc (.cells #[.int .u32 (x : Nat), (Value.pointer (some ⟨tb, 0, none⟩))] 135)) tb iv) := Lib.hid (by
             obtain ⟨iv, A, c, ht⟩ := hth
             exact ⟨iv, A, c, (hb3.block _ (lt_of_block ht)).trans ht⟩)
            have n1 : (wr.alloc (.cells #[.int .u32 (x : Nat), (Value.pointer (some ⟨tb, 0, none⟩))] 135)).cell? ⟨wr.heap.size, 1, none⟩ = some (Value.pointer (some ⟨tb, 0, none⟩)) := cell_at (Mem.blk_new wr _) rfl
            have HN1 := Lib.hid (Mem.blk_new wr (.cells #[.int .u32 (x : Nat), (Value.pointer (some ⟨tb, 0, none⟩))] 135))
            clear hb3 y0 y1 HS4 HC4 HT4 hth
            generalize wr.alloc (.cells #[.int .u32 (x : Nat), (Value.pointer (some ⟨tb, 0, none⟩))] 135) = w3 at *
            generalize wr.heap.size = T at *
            obtain ⟨Ap, cpp, hpv⟩ := own_slice HS6.out.ms.pool
            subst hpv
            have m6 := cell_at HS6.out.ms.blk HS6.out.ms.fp
            have hle := HS6.out.le
            have hPl : P2.length + 1 ≤ 2000 := by simp [AV] at hle; omega
            have hgB : F.B ≤ w3.heap.size := Nat.le_trans HS6.out.ms.gM (Nat.le_of_lt (lt_of_block HS6.out.ms.blk))
            clear hle
            go_upto_region 22 with fail
            refine Mem.wp_region_midk 7 2 (fun w' => w'.cell? ⟨F.bM, 6, none⟩ = some (.slice Ap P2.length cpp) ∧ w'.cell? ⟨T, 1, none⟩ = some (Value.pointer (some ⟨tb, 0, none⟩))) (by kernel_rfl) (by kernel_rfl) ⟨m6, n1⟩ ?_
            simp only [List.take_succ_cons, List.take_zero]
            iterate 7
             refine Mem.wpHeld_step (v := ?_) (by rfl) ?_ ?_
             rotate_left
             ·intro w hSw; (try dsimp only at hSw); go_simp; try with_reducible rfl
             try simp only [Act.put, List.setIfInBounds_toArray, List.set_cons_zero, List.set_cons_succ]
            refine Mem.wpHeld_nil ?_
            simp only [Mem.midK]
            have HS7 := Lib.hid (HS6.out.below (w' := w3.drew) ((Below.refl _ _).drew))
            have HC7 : Hid (w3.drew.heap[bC]? = some (.cells #[.int .u64 fl] 96 (0, 0))) := HC6
            have HT7 : Hid (TH w3.drew b (some ⟨F.g, pc * 4, none⟩)) := HT6
            have HQ7 : Hid (∃ iv, TH w3.drew tb iv) := HQ6
            have HN7 : Hid (w3.drew.heap[T]? = some (.cells #[.int .u32 (x : Nat), (Value.pointer (some ⟨tb, 0, none⟩))] 135 (0, 0))) := HN1
            have hgB7 : F.B ≤ w3.drew.heap.size := hgB
            have m7 : w3.drew.cell? ⟨F.bM, 6, none⟩ = some (.slice Ap P2.length cpp) := m6
            have n7 : w3.drew.cell? ⟨T, 1, none⟩ = some (Value.pointer (some ⟨tb, 0, none⟩)) := n1
            clear m6 n1 HS6 HC6 HT6 HQ6 hgB HN1
            change wpOp _ _ _ _ _ _ w3.drew
            generalize w3.drew = w4 at *
            refine wpOp_step rfl ?_
            intro K' hK
            go_simp
            have hb7 := (Below.refl w4.heap.size w4).alloc (Nat.le_refl _) (.cells #[.pointer (some ⟨tb, 0, none⟩)] 126)
            refine hK _ _ ⟨⟨low hb7 m7, low hb7 n7⟩, ?_⟩
            clear hK K' hb7
            refine wpOp_step rfl ?_
            intro K' hK
            rw [if_pos (by rfl)]
            refine app1_op (.tmp 164) (.tmp 167) _ rfl F.B 126 (.pointer none) 8 Tryd.underlying81 info_thp rfl (.slice Ap P2.length cpp) P2.length (ptrs P2) rfl HS7.out.ms.pool (.pointer (some ⟨tb, 0, none⟩)) rfl rfl (by unfold maxLen; omega) (by omega) hgB7 ?_
            intro v6 w6 ho6 hg6 hb6
            obtain ⟨A6, c6, hv6⟩ := own_slice ho6
            subst hv6
            have HPS := Lib.hid (HS7.out.qpush (by omega) HV.out HW2.out ho6 hg6 hb6)
            have HKP := Lib.hid ((HS7.out.ms.pooled HQ7.out htB ho6 hg6 hb6).2.1)
            have k6 := cell_at (HS7.out.ms.blk_pooled hg6) HS7.out.ms.fp
            have z6 := fz_at (HS7.out.ms.blk_pooled hg6) 6
            have n6 : w6.cell? ⟨T, 1, none⟩ = some (Value.pointer (some ⟨tb, 0, none⟩)) := cell_at (HS7.out.ms.keep_pooled hg6 HN7.out (by decide)) rfl
            have HC8 := Lib.hid (HKP.out _ _ _ HC7.out (by decide) (by decide))
            have HT8 := Lib.hid (HKP.out.th HT7.out)
            refine hK _ _ ⟨⟨k6, n6⟩, ?_⟩
            clear hK K' m7 n7 n6
            clear ho6 hg6 hb6
            go_wp2_with fail
            refine NoPanic.normal ?_
            go_wp2_with fail
            go_roundg g2
            case rel => exact ⟨i + 1, _, _, P2 ++ [tb], by go_num, by omega, by omega, HPS, HC8, HT8⟩
            case measure => omega
          ·have hb2 : decide ((i : Int) < (m : Int)) = false := decide_eq_false (by omega)
           have k3 := cell_at HS4.out.ms.blk HS4.out.c3
           have z3 := fz_at HS4.out.ms.blk 3
           go_upto_region 25 with fail
           have hst := HS4.out.dset
           have HS5 := Lib.hid hst
           obtain ⟨_, kp, _⟩ := HS4.out.ms.cset HS4.out.q4 (Or.inl rfl) (.slice (some ⟨d0, 0, none⟩) 0 F.n)
           have HC5 := Lib.hid (kp _ _ _ HC4.out (by decide) (by decide))
           have HT5 := Lib.hid (kp.th HT4.out)
           clear hst kp k3 z3 HS4 HC4 HT4
           generalize wr.setCell ⟨F.bM, 3, none⟩ (.slice (some ⟨d0, 0, none⟩) 0 F.n) = w5 at *
           have z7 := fz_at HS5.out.ms.blk 7
           have k7 := cell_at HS5.out.ms.blk HS5.out.c7
           obtain ⟨_, kp, _⟩ := HS5.out.ms.cset HS5.out.q4 (Or.inr rfl) (.bool true)
           have HC6 := Lib.hid (kp _ _ _ HC5.out (by decide) (by decide))
           have HT6 := Lib.hid (kp.th HT5.out)
           have HS6 := Lib.hid HS5.out.mset
           clear kp
           go_wp2_with fail
           go_meet
           exact ⟨false, rfl, Lib.hid (SW.cut HS6.out HR2.out HM2.out H4.out HC6.out HT6.out)⟩
      ·obtain ⟨tk1, tk2, tk3⟩ := takes7 (c := c) HOP.out (HS.out.inst pc HPC.out) (HS.out.rl pc HPC.out)
       obtain ⟨_, cv2, cv3⟩ := cvt1 (I := inAt F.L pc) (by rw [HOP.out]; decide)
       have hrn := HP1.out.rn pc (by rw [List.length_map]; exact HPC.out)
       rw [at_cvt HPC.out, cv3] at hrn
       rw [cv2, tk1] at e2
       obtain ⟨A3, c3, hv3⟩ := own_slice hrn
       rw [hv3] at e3 hrn
       have CM := Lib.hid (mr_any F.g (pc * 4) A3 c3 (inAt F.L pc).f2 c w1 (inAt F.L pc).f3 (by have := HS.out.rl pc HPC.out; omega) HF1.out tk2 e2 e3 (IntsAt.own hrn))
       have H4 : Hid ((inAt F.L pc).f0 ≠ 4) := Lib.hid (by rw [HOP.out]; decide)
       rw [tk3] at CM
       obtain ⟨ad, had⟩ : ∃ ad, takesF (inAt F.L pc) c = ad := ⟨_, rfl⟩
       rw [had] at CM
       have HAD := Lib.hid had
       clear tk1 tk2 tk3 cv2 cv3 hrn hv3 e1 e2 e3 had top1 top2 top3
       as_aux_lemma =>
        go_wp2_with (go_at_call 61; refine (Calls.mono CM.out ?_); rintro e w2 ⟨rfl, q2, rfl⟩)
        go_meet
        exact ⟨ad, rfl, Lib.hid (SW.one hD (HS3.out.below (below_drewN (Below.refl _ _) q2)) HR2.out HM2.out HW.out H4.out HC3.out HT3.out HAD.out.symm)⟩
      ·obtain ⟨_, cv2, cv3⟩ := cvt1 (I := inAt F.L pc) (by rw [HOP.out]; decide)
       have hrn := HP1.out.rn pc (by rw [List.length_map]; exact HPC.out)
       rw [at_cvt HPC.out, cv3] at hrn
       obtain ⟨A3, c3, hv3⟩ := own_slice hrn
       rw [hv3] at e3 hrn
       have hln := HS.out.r8 pc HPC.out HOP.out
       obtain ⟨zb, zo, rfl, _, hcz⟩ := IntsAt.own hrn hln
       have hc0 := hcz 0 hln
       rw [Nat.add_zero] at hc0
       have HAD := Lib.hid (top1 HOP.out)
       have H4 : Hid ((inAt F.L pc).f0 ≠ 4) := Lib.hid (by rw [HOP.out]; decide)
       generalize (inAt F.L pc).f3.getD 0 0 = r0 at *
       generalize (inAt F.L pc).f3.length = ln at *
       clear cv2 cv3 hrn hv3 e1 e2 hcz top1 top2 top3
       as_aux_lemma =>
        go_wp2_with fail
        go_meet
        exact ⟨_, rfl, Lib.hid (SW.one hD HS3.out HR2.out HM2.out HW.out H4.out HC3.out HT3.out HAD.out.symm)⟩
      ·have ht := Lib.hid (top2 HOP.out)
       have H4 : Hid ((inAt F.L pc).f0 ≠ 4) := Lib.hid (by rw [HOP.out]; decide)
       clear top1 top2 top3 e1 e2 e3
       as_aux_lemma =>
        go_wp2_with fail
        go_meet
        exact ⟨true, rfl, Lib.hid (SW.one hD HS3.out HR2.out HM2.out HW.out H4.out HC3.out HT3.out ht.out.symm)⟩
      ·have ht := Lib.hid (top3 HOP.out)
       have H4 : Hid ((inAt F.L pc).f0 ≠ 4) := Lib.hid (by rw [HOP.out]; decide)
       clear top1 top2 top3 e1 e2 e3
       as_aux_lemma =>
        go_wp2_with fail
        go_meet
        exact ⟨_, rfl, Lib.hid (SW.one hD HS3.out HR2.out HM2.out HW.out H4.out HC3.out HT3.out ht.out.symm)⟩
     case rest =>
      as_aux_lemma =>
       obtain ⟨ad, rfl, HSW⟩ := hcut
       obtain ⟨cs2, pv2, P2, D2, md2, hD2, hs2, had1, had0, hm2, hc2, ht2⟩ := HSW.out
       have hjl : j + 1 ≤ la.length := by omega
       have HS4 := Lib.hid hs2; have HM4 := Lib.hid hm2; have HC4 := Lib.hid hc2
       obtain ⟨A4, cp4, hth⟩ := ht2
       clear HSW t0 t1 HS3 HC3 HT3 HP1 HF1 e0 e1 e2 e3 HR2 HM2 hs2 hm2 hc2 hD hops
       cases ad with
       | true =>
        obtain ⟨h4, l2, hf, hr4⟩ := had1 rfl
        have h5 : (inAt F.L pc).f0 ≠ 5 := fun e => by have := HW.out; rw [wait_no (by omega)] at this; simp at this
        obtain ⟨ho1, ho2⟩ := out_nat HS.out.out HPC.out ⟨h4, h5⟩
        have hb1 : Below F.w0.heap.size F.w0 wc := by rw [← hB]; exact HS4.out.ms.bel
        obtain ⟨_, e1, _, _⟩ := (HPF.out.below hb1).cells4 rfl (pc := pc) (by rw [List.length_map]; exact HPC.out)
        rw [at_cvt HPC.out, (cvt1 (I := inAt F.L pc) ⟨h4, h5⟩).1, ← ho2] at e1
        have hle := HS4.out.le
        have hbd : Below wc.heap.size wc wc.drew := (Below.refl _ _).drew
        have HS5 := Lib.hid (HS4.out.below hbd)
        have t1 : wc.cell? ⟨b, 1, none⟩ = some (.slice A4 0 cp4) := cell_at hth rfl
        have hPl : P2.length ≤ 1000000 := by simp only [AV, List.length_append] at hle; omega
        have CA := Lib.hid (HADD.out A4 cp4 l1 _ l2 hf HG1.out ho1 wc.drew cs2 pv2 ths1 P2 (some b) HS5.out.ms (List.nodup_append.1 HS5.out.nd).1 HS5.out.tu hPl HC4.out)
        have HG2 := Lib.hid (addF_good HS.out.out k _ _ l2 hf HG1.out ho1)
        have HR4 := Lib.hid hr4
        rw [show tptr (some b) = Value.pointer (some ⟨b, 0, none⟩) from rfl] at CA
        generalize (inAt F.L pc).f1.toNat = o1 at *
        clear had1 had0 h4 h5 hf hr4 ho2 hb1 hle hPl hth hbd ho1
        go_upto_region 35 with fail
        go_still_tail 13, (by kernel_rfl)
        change wpList _ _ _ _ _ wc.drew
        clear e1 t1
        generalize hwd : wc.drew = wd at *
        have HC5 : Hid (wd.heap[bC]? = some (.cells #[.int .u64 fl] 96 (0, 0))) := Lib.hid (by rw [← hwd]; exact HC4.out)
        clear hwd
        go_upto_region 36 with (go_at_call 60; refine (Calls.mono CA.out ?_); rintro e w5 ⟨cs5, pv5, ths5, P5, t5, rfl, hacc5⟩; have HS6 := Lib.hid (HS5.out.add hacc5); have HC6 := Lib.hid (hacc5.keepT HS5.out.ms HS5.out.tu HC5.out (by decide) (by decide) (by decide) (by decide) (by decide)); clear hacc5)
        clear HS4 HS5 HC4 HC5 CA
        cases t5 with
        | none =>
         rw [show tptr none = Value.pointer none from rfl]
         go_wp2_with fail
         go_roundg g'
         case rel => exact ⟨j + 1, D2, cs5, pv5, l2, _, P5, md2, by go_num, by omega, hjl, hD2, HS6, HR4, HM4, HG2, HC6⟩
         case measure => omega
        | some tb =>
         rw [show tptr (some tb) = Value.pointer (some ⟨tb, 0, none⟩) from rfl]
         have HI := HS6
         obtain ⟨Ap, cpp, hpv⟩ := own_slice HI.out.ms.pool
         subst hpv
         have m6 := cell_at HI.out.ms.blk HI.out.ms.fp
         have hle := HI.out.le
         have hPl : P5.length + 1 ≤ 2000 := by simp [AV] at hle; omega
         have hgB : F.B ≤ w5.heap.size := Nat.le_trans HI.out.ms.gM (Nat.le_of_lt (lt_of_block HI.out.ms.blk))
         clear hle
         go_wp2_with (at_builtin; refine Mem.wp_app1 rfl _ _ _ rfl F.B 126 (.pointer none) 8 Tryd.underlying81 info_thp rfl _ P5.length (ptrs P5) rfl HI.out.ms.pool (.pointer (some ⟨tb, 0, none⟩)) rfl rfl (by unfold maxLen; omega) (by omega) hgB ?_; intro v6 w6 ho6 hg6 hb6; obtain ⟨A6, c6, hv6⟩ := own_slice ho6; subst hv6; have HPS := Lib.hid (HI.out.push ho6 hg6 hb6); have HKP := Lib.hid ((HI.out.ms.pooled (HI.out.tu _ rfl).1 (HI.out.tu _ rfl).2 ho6 hg6 hb6).2.1); have k6 := cell_at (HI.out.ms.blk_pooled hg6) HI.out.ms.fp; have z6 := fz_at (HI.out.ms.blk_pooled hg6) 6; clear ho6 hg6 hb6)
         go_roundg g'
         case rel => exact ⟨j + 1, D2, _, _, l2, _, P5 ++ [tb], md2, by go_num, by omega, hjl, hD2, HPS, HR4, HM4, HG2, Lib.hid (HKP.out _ _ _ HC6.out (by decide) (by decide))⟩
         case measure => omega
       | false =>
        have HR4 := Lib.hid (had0 rfl)
        clear had1 had0 hth
        have HI := HS4
        obtain ⟨Ap, cpp, hpv⟩ := own_slice HI.out.ms.pool
        subst hpv
        have m6 := cell_at HI.out.ms.blk HI.out.ms.fp
        have hle := HI.out.le
        have hPl : P2.length + 1 ≤ 2000 := by simp [AV] at hle; omega
        have hgB : F.B ≤ wc.heap.size := Nat.le_trans HI.out.ms.gM (Nat.le_of_lt (lt_of_block HI.out.ms.blk))
        clear hle
        go_wp2_with (at_builtin; refine Mem.wp_app1 rfl _ _ _ rfl F.B 126 (.pointer none) 8 Tryd.underlying81 info_thp rfl _ P2.length (ptrs P2) rfl HI.out.ms.pool (.pointer (some ⟨b, 0, none⟩)) rfl rfl (by unfold maxLen; omega) (by omega) hgB ?_; intro v6 w6 ho6 hg6 hb6; obtain ⟨A6, c6, hv6⟩ := own_slice ho6; subst hv6; have HPS := Lib.hid (HI.out.push ho6 hg6 hb6); have HKP := Lib.hid ((HI.out.ms.pooled (HI.out.tu _ rfl).1 (HI.out.tu _ rfl).2 ho6 hg6 hb6).2.1); have k6 := cell_at (HI.out.ms.blk_pooled hg6) HI.out.ms.fp; have z6 := fz_at (HI.out.ms.blk_pooled hg6) 6; clear ho6 hg6 hb6)
        go_roundg g'
        case rel => exact ⟨j + 1, D2, _, _, l1, _, P2 ++ [b], md2, by go_num, by omega, hjl, hD2, HPS, HR4, HM4, HG1, Lib.hid (HKP.out _ _ _ HC4.out (by decide) (by decide))⟩
        case measure => omega
  ·have hb0 : decide ((j : Int) < (D : Int)) = false := decide_eq_false (by omega)
   have z3 := fz_at HS1.out.ms.blk 3
   have hnil := pow_nil (la := la) (D := D) (j := j) (by omega)
   have hr := HR1.out
   rw [hnil] at hr
   simp only [nxF, reachF] at hr
   obtain rfl := Option.some.inj hr
   have hm := HM1.out
   rw [hnil] at hm
   simp only [mdF, List.any_nil, Bool.or_false] at hm
   have HDS := Lib.hid HS1.out.dset
   have HMM := Lib.hid (hm.trans rfl : md = mdF F.L la)
   clear hm hr hnil
   as_aux_lemma =>
    go_wp2_with fail
    go_end0
    have hds := HDS.out
    rw [HMM.out] at hds
    exact ⟨rfl, _, _, _, _, _, hds⟩
end
end Go.Proofs.YtcncclglmgdinaaDoor.Ps
